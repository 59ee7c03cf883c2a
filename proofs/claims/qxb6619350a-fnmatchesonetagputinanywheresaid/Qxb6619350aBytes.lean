/-
  THE WALKS of the two zzBytes of the laws over tags (15, 11): each returns some bool and touches nothing.
-/
import Derived.Test.Qxb6619350aMatch
namespace Go.Proofs.Qxb6619350a
open Go.ChangeShapes Go.WideShapes Go.ChangeAt Go.RowKit

/-- The strings of a slice of strings. -/
def SRow (w : World) (a : Option Addr) (n : Nat) (S : Nat → ByteArray) : Prop :=
  n = 0 ∨ ∃ b off, a = some ⟨b, off, none⟩ ∧ b < w.heap.size ∧ ∀ i, i < n → w.cell? ⟨b, off + i, none⟩ = some (.string (S i))
/-- The bools of a slice of bools. -/
def BRow (w : World) (a : Option Addr) (n : Nat) (B : Nat → Bool) : Prop :=
  n = 0 ∨ ∃ b off, a = some ⟨b, off, none⟩ ∧ b < w.heap.size ∧ ∀ i, i < n → w.cell? ⟨b, off + i, none⟩ = some (.bool (B i))

/-- A bool came back. -/
def IsBool (e : Ending) : Prop := ∃ r, e = .returned (.bool r)

set_option maxHeartbeats 1000000 in
theorem bytes15_any (p s : Bool) (aw : Option Addr) (lw cw : Nat) (ao : Option Addr) (lo co : Nat) (cur : ByteArray) (S : Nat → ByteArray) (w : World) (hS : SRow w ao lo S) (hlw : lw ≤ maxLen) (hlo : lo ≤ maxLen) :
    Calls Try.prog 15 #[.bool p, .bool s, .slice aw lw cw, .slice ao lo co, .string cur] w fun e w' => IsBool e ∧ w' = w := by
  unfold maxLen at hlw hlo
  go_enter Try.func15, Try.ntmps15
  go_wp2
  all_goals try (go_ret; exact ⟨⟨_, rfl⟩, rfl⟩)
  go_loop [11, 12] (fun z i => ∃ (k : Nat) (t : Int), k ≤ lo ∧ i = .int .i64 k ∧ z = .int .i64 t) (fun _ i => lo - (intOf i).toNat)
  case atStart => exact ⟨0, _, Nat.zero_le _, rfl, rfl⟩
  case round =>
    obtain ⟨k, t, hk, rfl, rfl⟩ := hrel
    by_cases hlt : k < lo
    · rcases hS with rfl | ⟨b, off, rfl, hb, hcell⟩
      · omega
      have hc := hcell k hlt
      clear hcell
      go_wp2
      · go_ret
        exact ⟨⟨_, rfl⟩, rfl⟩
      · go_ret
        exact ⟨⟨_, rfl⟩, rfl⟩
      · go_round
        case rel => exact ⟨k + 1, _, by omega, by go_num, rfl⟩
        case measure => simp [intOf]; omega
    · go_wp2
      all_goals
        go_ret
        exact ⟨⟨_, rfl⟩, rfl⟩

set_option maxHeartbeats 1000000 in
theorem bytes11_any (p s : Bool) (aw : Option Addr) (lw cw : Nat) (ao : Option Addr) (lo co : Nat) (at_ : Int) (wk : Bool) (op cur : ByteArray) (strong : Bool) (S : Nat → ByteArray) (w : World) (hS : SRow w ao lo S) (hlw : lw ≤ maxLen) (hlo : lo ≤ maxLen) :
    Calls Try.prog 11 #[.bool p, .bool s, .slice aw lw cw, .slice ao lo co, .int .i64 at_, .bool wk, .string op, .string cur, .bool strong] w fun e w' => IsBool e ∧ w' = w := by
  unfold maxLen at hlw hlo
  go_enter Try.func11, Try.ntmps11
  go_wp2
  all_goals try (go_ret; exact ⟨⟨_, rfl⟩, rfl⟩)
  go_loop [19, 20] (fun z i => ∃ (k : Nat) (t : Int), k ≤ lo ∧ i = .int .i64 k ∧ z = .int .i64 t) (fun _ i => lo - (intOf i).toNat)
  case atStart => exact ⟨0, _, Nat.zero_le _, rfl, rfl⟩
  case round =>
    obtain ⟨k, t, hk, rfl, rfl⟩ := hrel
    by_cases hlt : k < lo
    · rcases hS with rfl | ⟨b, off, rfl, hb, hcell⟩
      · omega
      have hc := hcell k hlt
      clear hcell
      go_wp2
      · go_ret
        exact ⟨⟨_, rfl⟩, rfl⟩
      · go_ret
        exact ⟨⟨_, rfl⟩, rfl⟩
      · go_round
        case rel => exact ⟨k + 1, _, by omega, by go_num, rfl⟩
        case measure => simp [intOf]; omega
    · go_wp2
      all_goals
        go_ret
        exact ⟨⟨_, rfl⟩, rfl⟩

end Go.Proofs.Qxb6619350a
