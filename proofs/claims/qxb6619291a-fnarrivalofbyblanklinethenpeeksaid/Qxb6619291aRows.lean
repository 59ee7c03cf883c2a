/-
  No cell of these rows narrows 'for every input' (looked for: loops, veiled, ifaces, maps, wideKeys, modest, calm, conditions, laid).
  DERIVED. THE GIVEN ROWS OF THIS SEAT. 3 by the template 'for every input the law returns true; each argument reads behind the call as it read before'; 0 by the template 'total and deterministic' (their statements: Qxb6619291aTotals.lean).
  GIVEN WITH THE SEED: the statements are not yours to turn. If you find one false, say at which input.
  Laid BY PROGRAM, IN A SANDBOX (cutbox-rows.mjs): the forced cells as the released guide's own fill.sh prints them over the translation 0d21c18ae6a04920… (all of the seat's roots in one cut). By AI agents, Wed Nov 11 2026. No macro, syntax, notation, axiom, sorry.
-/
import Derived.Test.Qxb6619291aChecked
import GoSem.Claim
import GoSem.ClaimJoined
import GoSem.ClaimMapViews
import Derived.JoinedTies
import Derived.KernelRfl
namespace Go.Proofs.Qxb6619291a
/- THE CELL 'sum', in the pinned program and in every row, IS THE sha256 OF THE DUMP (.gsa) THAT Qxb6619291aProg.lean LOADS. Nothing in Lean hashes anything: it is a label: what it is worth is what the hold of that sum in a sandbox is worth. -/
noncomputable def Try.pinned : Pinned := { name := "qxb6619291a", sum := "0d21c18ae6a04920244e529e2818c51d48e1abb2a67c34e137e492c18ac6c416", checked := Try.checked }
namespace Rows
def none {H : Type} : Left H := { results := [], args := [] }

/-- 'zzlaws_internal_server_b1.FnHeadScanMatchesLineModel': WHATEVER THE INPUT: true; the input reads as it did. -/
def fnHeadScanMatchesLineModelSpec : ChangeSpec := { name := "fnHeadScanMatchesLineModel", fn := fun _ => fun
  | [d1, d2, d3, d4] => { results := [.lit (.bool true)], args := [d1, d2, d3, d4] }
  | _ => none }
def fnHeadScanMatchesLineModelRow : OpenClaim := { program := "qxb6619291a", sum := "0d21c18ae6a04920244e529e2818c51d48e1abb2a67c34e137e492c18ac6c416", func := "example.com/restrata/restrata/zzlaws_internal_server_b1.FnHeadScanMatchesLineModel", spec := "fnHeadScanMatchesLineModel", apart := false }
def FnHeadScanMatchesLineModelSaid : Prop := fnHeadScanMatchesLineModelRow.holds Try.pinned (OpenSpec.ofChange fnHeadScanMatchesLineModelSpec)

/-- ITS FALSE NEIGHBOUR: 'it returns false'. Refute it at one input. -/
def fnHeadScanMatchesLineModelWrong : ChangeSpec := { name := "fnHeadScanMatchesLineModel", fn := fun _ => fun
  | [d1, d2, d3, d4] => { results := [.lit (.bool false)], args := [d1, d2, d3, d4] }
  | _ => none }
def FnHeadScanMatchesLineModelWrongFalsely : Prop := fnHeadScanMatchesLineModelRow.holds Try.pinned (OpenSpec.ofChange fnHeadScanMatchesLineModelWrong)

/-- 'zzlaws_internal_server_b1.FnHeadScanResumesAtAnyCut': WHATEVER THE INPUT: true; the input reads as it did. -/
def fnHeadScanResumesAtAnyCutSpec : ChangeSpec := { name := "fnHeadScanResumesAtAnyCut", fn := fun _ => fun
  | [d1, d2, d3, d4, d5] => { results := [.lit (.bool true)], args := [d1, d2, d3, d4, d5] }
  | _ => none }
def fnHeadScanResumesAtAnyCutRow : OpenClaim := { program := "qxb6619291a", sum := "0d21c18ae6a04920244e529e2818c51d48e1abb2a67c34e137e492c18ac6c416", func := "example.com/restrata/restrata/zzlaws_internal_server_b1.FnHeadScanResumesAtAnyCut", spec := "fnHeadScanResumesAtAnyCut", apart := false }
def FnHeadScanResumesAtAnyCutSaid : Prop := fnHeadScanResumesAtAnyCutRow.holds Try.pinned (OpenSpec.ofChange fnHeadScanResumesAtAnyCutSpec)

/-- ITS FALSE NEIGHBOUR: 'it returns false'. Refute it at one input. -/
def fnHeadScanResumesAtAnyCutWrong : ChangeSpec := { name := "fnHeadScanResumesAtAnyCut", fn := fun _ => fun
  | [d1, d2, d3, d4, d5] => { results := [.lit (.bool false)], args := [d1, d2, d3, d4, d5] }
  | _ => none }
def FnHeadScanResumesAtAnyCutWrongFalsely : Prop := fnHeadScanResumesAtAnyCutRow.holds Try.pinned (OpenSpec.ofChange fnHeadScanResumesAtAnyCutWrong)

/-- 'zzlaws_internal_server_b1.FnArrivalOfByBlankLineThenPeek': WHATEVER THE INPUT: true; the input reads as it did. -/
def fnArrivalOfByBlankLineThenPeekSpec : ChangeSpec := { name := "fnArrivalOfByBlankLineThenPeek", fn := fun _ => fun
  | [d1, d2, d3] => { results := [.lit (.bool true)], args := [d1, d2, d3] }
  | _ => none }
def fnArrivalOfByBlankLineThenPeekRow : OpenClaim := { program := "qxb6619291a", sum := "0d21c18ae6a04920244e529e2818c51d48e1abb2a67c34e137e492c18ac6c416", func := "example.com/restrata/restrata/zzlaws_internal_server_b1.FnArrivalOfByBlankLineThenPeek", spec := "fnArrivalOfByBlankLineThenPeek", apart := false }
def FnArrivalOfByBlankLineThenPeekSaid : Prop := fnArrivalOfByBlankLineThenPeekRow.holds Try.pinned (OpenSpec.ofChange fnArrivalOfByBlankLineThenPeekSpec)

/-- ITS FALSE NEIGHBOUR: 'it returns false'. Refute it at one input. -/
def fnArrivalOfByBlankLineThenPeekWrong : ChangeSpec := { name := "fnArrivalOfByBlankLineThenPeek", fn := fun _ => fun
  | [d1, d2, d3] => { results := [.lit (.bool false)], args := [d1, d2, d3] }
  | _ => none }
def FnArrivalOfByBlankLineThenPeekWrongFalsely : Prop := fnArrivalOfByBlankLineThenPeekRow.holds Try.pinned (OpenSpec.ofChange fnArrivalOfByBlankLineThenPeekWrong)

end Rows
end Go.Proofs.Qxb6619291a
