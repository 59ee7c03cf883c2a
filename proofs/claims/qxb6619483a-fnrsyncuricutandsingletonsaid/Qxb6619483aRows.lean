/-
  No cell of these rows narrows 'for every input' (looked for: loops, veiled, ifaces, maps, wideKeys, modest, calm, conditions, laid).
  DERIVED. THE GIVEN ROWS OF THIS SEAT. 1 by the template 'for every input the law returns true; each argument reads behind the call as it read before'; 0 by the template 'total and deterministic' (their statements: Qxb6619483aTotals.lean).
  GIVEN WITH THE SEED: the statements are not yours to turn. If you find one false, say at which input.
  Laid BY PROGRAM, IN A SANDBOX (cutbox-rows.mjs): the forced cells as the released guide's own fill.sh prints them over the translation 92ddf35374d4dcec… (all of the seat's roots in one cut). By AI agents, Wed Nov 11 2026. No macro, syntax, notation, axiom, sorry.
-/
import Derived.Test.Qxb6619483aChecked
import GoSem.Claim
import GoSem.ClaimJoined
import GoSem.ClaimMapViews
import Derived.JoinedTies
import Derived.KernelRfl
namespace Go.Proofs.Qxb6619483a
/- THE CELL 'sum', in the pinned program and in every row, IS THE sha256 OF THE DUMP (.gsa) THAT Qxb6619483aProg.lean LOADS. Nothing in Lean hashes anything: it is a label: what it is worth is what the hold of that sum in a sandbox is worth. -/
noncomputable def Try.pinned : Pinned := { name := "qxb6619483a", sum := "92ddf35374d4dcec1eaf6bf91f16ce465c727fcf7c80b003cbf437cd338fc587", checked := Try.checked }
namespace Rows
def none {H : Type} : Left H := { results := [], args := [] }

/-- 'zzlaws_cert_b1.FnRsyncURICutAndSingleton': WHATEVER THE INPUT: true; the input reads as it did. -/
def fnRsyncURICutAndSingletonSpec : ChangeSpec := { name := "fnRsyncURICutAndSingleton", fn := fun _ => fun
  | [d1, d2, d3] => { results := [.lit (.bool true)], args := [d1, d2, d3] }
  | _ => none }
def fnRsyncURICutAndSingletonRow : OpenClaim := { program := "qxb6619483a", sum := "92ddf35374d4dcec1eaf6bf91f16ce465c727fcf7c80b003cbf437cd338fc587", func := "example.com/originseal/originseal/zzlaws_cert_b1.FnRsyncURICutAndSingleton", spec := "fnRsyncURICutAndSingleton", apart := false }
def FnRsyncURICutAndSingletonSaid : Prop := fnRsyncURICutAndSingletonRow.holds Try.pinned (OpenSpec.ofChange fnRsyncURICutAndSingletonSpec)

/-- ITS FALSE NEIGHBOUR: 'it returns false'. Refute it at one input. -/
def fnRsyncURICutAndSingletonWrong : ChangeSpec := { name := "fnRsyncURICutAndSingleton", fn := fun _ => fun
  | [d1, d2, d3] => { results := [.lit (.bool false)], args := [d1, d2, d3] }
  | _ => none }
def FnRsyncURICutAndSingletonWrongFalsely : Prop := fnRsyncURICutAndSingletonRow.holds Try.pinned (OpenSpec.ofChange fnRsyncURICutAndSingletonWrong)

end Rows
end Go.Proofs.Qxb6619483a
