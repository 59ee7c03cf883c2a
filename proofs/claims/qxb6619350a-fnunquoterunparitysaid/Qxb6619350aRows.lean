/-
  No cell of these rows narrows 'for every input' (looked for: loops, veiled, ifaces, maps, wideKeys, modest, calm, conditions, laid).
  DERIVED. THE GIVEN ROWS OF THIS SEAT. 4 by the template 'for every input the law returns true; each argument reads behind the call as it read before'; 0 by the template 'total and deterministic' (their statements: Qxb6619350aTotals.lean).
  GIVEN WITH THE SEED: the statements are not yours to turn. If you find one false, say at which input.
  Laid BY PROGRAM, IN A SANDBOX (cutbox-rows.mjs): the forced cells as the released guide's own fill.sh prints them over the translation a1bbae616d2c4e3d… (all of the seat's roots in one cut). By AI agents, Wed Nov 11 2026. No macro, syntax, notation, axiom, sorry.
-/
import Derived.Test.Qxb6619350aChecked
import GoSem.Claim
import GoSem.ClaimJoined
import GoSem.ClaimMapViews
import Derived.JoinedTies
import Derived.KernelRfl
namespace Go.Proofs.Qxb6619350a
/- THE CELL 'sum', in the pinned program and in every row, IS THE sha256 OF THE DUMP (.gsa) THAT Qxb6619350aProg.lean LOADS. Nothing in Lean hashes anything: it is a label: what it is worth is what the hold of that sum in a sandbox is worth. -/
noncomputable def Try.pinned : Pinned := { name := "qxb6619350a", sum := "a1bbae616d2c4e3deb2b3052fa6beaf87e95aaa1906785f5f6780220bb5dc985", checked := Try.checked }
namespace Rows
def none {H : Type} : Left H := { results := [], args := [] }

/-- 'zzlaws_internal_xcap_b1.FnUnquoteRunParity': WHATEVER THE INPUT: true; the input reads as it did. -/
def fnUnquoteRunParitySpec : ChangeSpec := { name := "fnUnquoteRunParity", fn := fun _ => fun
  | [d] => { results := [.lit (.bool true)], args := [d] }
  | _ => none }
def fnUnquoteRunParityRow : OpenClaim := { program := "qxb6619350a", sum := "a1bbae616d2c4e3deb2b3052fa6beaf87e95aaa1906785f5f6780220bb5dc985", func := "example.com/callsign/callsign/zzlaws_internal_xcap_b1.FnUnquoteRunParity", spec := "fnUnquoteRunParity", inPlace := ["internal/abi.NoEscape"], apart := false }
def FnUnquoteRunParitySaid : Prop := fnUnquoteRunParityRow.holds Try.pinned (OpenSpec.ofChange fnUnquoteRunParitySpec)

/-- ITS FALSE NEIGHBOUR: 'it returns false'. Refute it at one input. -/
def fnUnquoteRunParityWrong : ChangeSpec := { name := "fnUnquoteRunParity", fn := fun _ => fun
  | [d] => { results := [.lit (.bool false)], args := [d] }
  | _ => none }
def FnUnquoteRunParityWrongFalsely : Prop := fnUnquoteRunParityRow.holds Try.pinned (OpenSpec.ofChange fnUnquoteRunParityWrong)

/-- 'zzlaws_internal_xcap_b1.FnUnquoteReadsEveryEscaping': WHATEVER THE INPUT: true; the input reads as it did. -/
def fnUnquoteReadsEveryEscapingSpec : ChangeSpec := { name := "fnUnquoteReadsEveryEscaping", fn := fun _ => fun
  | [d1, d2, d3, d4] => { results := [.lit (.bool true)], args := [d1, d2, d3, d4] }
  | _ => none }
def fnUnquoteReadsEveryEscapingRow : OpenClaim := { program := "qxb6619350a", sum := "a1bbae616d2c4e3deb2b3052fa6beaf87e95aaa1906785f5f6780220bb5dc985", func := "example.com/callsign/callsign/zzlaws_internal_xcap_b1.FnUnquoteReadsEveryEscaping", spec := "fnUnquoteReadsEveryEscaping", inPlace := ["internal/abi.NoEscape"], apart := false }
def FnUnquoteReadsEveryEscapingSaid : Prop := fnUnquoteReadsEveryEscapingRow.holds Try.pinned (OpenSpec.ofChange fnUnquoteReadsEveryEscapingSpec)

/-- ITS FALSE NEIGHBOUR: 'it returns false'. Refute it at one input. -/
def fnUnquoteReadsEveryEscapingWrong : ChangeSpec := { name := "fnUnquoteReadsEveryEscaping", fn := fun _ => fun
  | [d1, d2, d3, d4] => { results := [.lit (.bool false)], args := [d1, d2, d3, d4] }
  | _ => none }
def FnUnquoteReadsEveryEscapingWrongFalsely : Prop := fnUnquoteReadsEveryEscapingRow.holds Try.pinned (OpenSpec.ofChange fnUnquoteReadsEveryEscapingWrong)

/-- 'zzlaws_internal_xcap_b1.FnMatchesOneTagPutInAnywhere': WHATEVER THE INPUT: true; the input reads as it did. -/
def fnMatchesOneTagPutInAnywhereSpec : ChangeSpec := { name := "fnMatchesOneTagPutInAnywhere", fn := fun _ => fun
  | [d1, d2, d3, d4, d5, d6, d7, d8, d9] => { results := [.lit (.bool true)], args := [d1, d2, d3, d4, d5, d6, d7, d8, d9] }
  | _ => none }
def fnMatchesOneTagPutInAnywhereRow : OpenClaim := { program := "qxb6619350a", sum := "a1bbae616d2c4e3deb2b3052fa6beaf87e95aaa1906785f5f6780220bb5dc985", func := "example.com/callsign/callsign/zzlaws_internal_xcap_b1.FnMatchesOneTagPutInAnywhere", spec := "fnMatchesOneTagPutInAnywhere", apart := false }
def FnMatchesOneTagPutInAnywhereSaid : Prop := fnMatchesOneTagPutInAnywhereRow.holds Try.pinned (OpenSpec.ofChange fnMatchesOneTagPutInAnywhereSpec)

/-- ITS FALSE NEIGHBOUR: 'it returns false'. Refute it at one input. -/
def fnMatchesOneTagPutInAnywhereWrong : ChangeSpec := { name := "fnMatchesOneTagPutInAnywhere", fn := fun _ => fun
  | [d1, d2, d3, d4, d5, d6, d7, d8, d9] => { results := [.lit (.bool false)], args := [d1, d2, d3, d4, d5, d6, d7, d8, d9] }
  | _ => none }
def FnMatchesOneTagPutInAnywhereWrongFalsely : Prop := fnMatchesOneTagPutInAnywhereRow.holds Try.pinned (OpenSpec.ofChange fnMatchesOneTagPutInAnywhereWrong)

/-- 'zzlaws_internal_xcap_b1.FnMatchesStrongAndWeakDiffer': WHATEVER THE INPUT: true; the input reads as it did. -/
def fnMatchesStrongAndWeakDifferSpec : ChangeSpec := { name := "fnMatchesStrongAndWeakDiffer", fn := fun _ => fun
  | [d1, d2, d3, d4, d5] => { results := [.lit (.bool true)], args := [d1, d2, d3, d4, d5] }
  | _ => none }
def fnMatchesStrongAndWeakDifferRow : OpenClaim := { program := "qxb6619350a", sum := "a1bbae616d2c4e3deb2b3052fa6beaf87e95aaa1906785f5f6780220bb5dc985", func := "example.com/callsign/callsign/zzlaws_internal_xcap_b1.FnMatchesStrongAndWeakDiffer", spec := "fnMatchesStrongAndWeakDiffer", apart := false }
def FnMatchesStrongAndWeakDifferSaid : Prop := fnMatchesStrongAndWeakDifferRow.holds Try.pinned (OpenSpec.ofChange fnMatchesStrongAndWeakDifferSpec)

/-- ITS FALSE NEIGHBOUR: 'it returns false'. Refute it at one input. -/
def fnMatchesStrongAndWeakDifferWrong : ChangeSpec := { name := "fnMatchesStrongAndWeakDiffer", fn := fun _ => fun
  | [d1, d2, d3, d4, d5] => { results := [.lit (.bool false)], args := [d1, d2, d3, d4, d5] }
  | _ => none }
def FnMatchesStrongAndWeakDifferWrongFalsely : Prop := fnMatchesStrongAndWeakDifferRow.holds Try.pinned (OpenSpec.ofChange fnMatchesStrongAndWeakDifferWrong)

end Rows
end Go.Proofs.Qxb6619350a
