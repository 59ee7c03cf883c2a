/-
  FnMatchesOneTagPutInAnywhere (5): the ways on which it returns early.
-/
import Derived.Test.Qxb6619350aPutWalk
namespace Go.Proofs.Qxb6619350a
open Go.ChangeShapes Go.WideShapes Go.ChangeAt Go.RowKit

set_option maxHeartbeats 8000000 in
set_option maxRecDepth 100000 in
theorem put_all (p s : Bool) (aw : Option Addr) (lw cw : Nat) (ao : Option Addr) (lo co : Nat) (c : Int) (wk : Bool) (op cur : ByteArray) (strong : Bool) (Bf : Nat → Bool) (Sf : Nat → ByteArray) (w : World) (hBr : BRow w aw lw Bf) (hS : SRow w ao lo Sf) (hlw : lw ≤ maxLen) (hlo : lo ≤ maxLen) (hop : op.size ≤ maxLen) (hcur : cur.size ≤ maxLen) :
    Calls Try.prog 5 #[.bool p, .bool s, .slice aw lw cw, .slice ao lo co, .int .i64 c, .bool wk, .string op, .string cur, .bool strong] w fun e w' => e = .returned (.bool true) ∧ Below w.heap.size w w' := by
  have HW : Hid (lw ≤ maxLen) := hlw
  have HO : Hid (lo ≤ maxLen) := hlo
  unfold maxLen at hlw hlo hop hcur
  replace HW : lw ≤ maxLen := HW.out
  replace HO : lo ≤ maxLen := HO.out
  by_cases h1 : 65536 < lw
  · clear hBr
    go_enter Try.func5, Try.ntmps5
    go_wp2_with (go_at_call 11; refine (bytes11_ok p s aw lw cw ao lo co c wk op cur strong Sf w hS HW HO).mono ?_; rintro e w' ⟨⟨r, rfl⟩, rfl⟩)
    all_goals
      go_ret
      exact ⟨rfl, Below.refl _ _⟩
  by_cases h2 : 65536 < lo
  · clear hBr
    go_enter Try.func5, Try.ntmps5
    go_wp2_with (go_at_call 11; refine (bytes11_ok p s aw lw cw ao lo co c wk op cur strong Sf w hS HW HO).mono ?_; rintro e w' ⟨⟨r, rfl⟩, rfl⟩)
    all_goals
      go_ret
      exact ⟨rfl, Below.refl _ _⟩
  by_cases h3 : 65536 < op.size
  · clear hBr
    go_enter Try.func5, Try.ntmps5
    go_wp2_with (go_at_call 11; refine (bytes11_ok p s aw lw cw ao lo co c wk op cur strong Sf w hS HW HO).mono ?_; rintro e w' ⟨⟨r, rfl⟩, rfl⟩)
    all_goals
      go_ret
      exact ⟨rfl, Below.refl _ _⟩
  by_cases h4 : 65536 < cur.size
  · clear hBr
    go_enter Try.func5, Try.ntmps5
    go_wp2_with (go_at_call 11; refine (bytes11_ok p s aw lw cw ao lo co c wk op cur strong Sf w hS HW HO).mono ?_; rintro e w' ⟨⟨r, rfl⟩, rfl⟩)
    all_goals
      go_ret
      exact ⟨rfl, Below.refl _ _⟩
  by_cases h5 : lw = lo
  · subst h5
    by_cases h6 : c < 0
    · clear hBr
      go_enter Try.func5, Try.ntmps5
      go_wp2_with (go_at_call 11; refine (bytes11_ok p s aw lw cw ao lw co c wk op cur strong Sf w hS HW HO).mono ?_; rintro e w' ⟨⟨r, rfl⟩, rfl⟩)
      · go_ret
        exact ⟨rfl, Below.refl _ _⟩
      go_loop [19, 20] (fun z i => ∃ (k : Nat) (t : Int), k ≤ lw ∧ i = .int .i64 k ∧ z = .int .i64 t) (fun _ i => lw - (intOf i).toNat)
      case atStart => exact ⟨0, _, Nat.zero_le _, rfl, rfl⟩
      case round =>
        obtain ⟨k, t, hk, rfl, rfl⟩ := hrel
        by_cases hlt : k < lw
        · rcases hS with rfl | ⟨bo, oo, rfl, hbo, hco⟩
          · omega
          have hcl := hco k hlt
          clear hco
          go_wp2
          · go_ret
            exact ⟨rfl, Below.refl _ _⟩
          · go_round
            case rel => exact ⟨k + 1, _, by omega, by go_num, rfl⟩
            case measure => simp [intOf]; omega
        · go_wp2
          go_ret
          exact ⟨rfl, Below.refl _ _⟩
    · by_cases h7 : (lw : Int) < c
      · clear hBr
        go_enter Try.func5, Try.ntmps5
        go_wp2_with (go_at_call 11; refine (bytes11_ok p s aw lw cw ao lw co c wk op cur strong Sf w hS HW HO).mono ?_; rintro e w' ⟨⟨r, rfl⟩, rfl⟩)
        · go_ret
          exact ⟨rfl, Below.refl _ _⟩
        go_loop [19, 20] (fun z i => ∃ (k : Nat) (t : Int), k ≤ lw ∧ i = .int .i64 k ∧ z = .int .i64 t) (fun _ i => lw - (intOf i).toNat)
        case atStart => exact ⟨0, _, Nat.zero_le _, rfl, rfl⟩
        case round =>
          obtain ⟨k, t, hk, rfl, rfl⟩ := hrel
          by_cases hlt : k < lw
          · rcases hS with rfl | ⟨bo, oo, rfl, hbo, hco⟩
            · omega
            have hcl := hco k hlt
            clear hco
            go_wp2
            · go_ret
              exact ⟨rfl, Below.refl _ _⟩
            · go_round
              case rel => exact ⟨k + 1, _, by omega, by go_num, rfl⟩
              case measure => simp [intOf]; omega
          · go_wp2
            go_ret
            exact ⟨rfl, Below.refl _ _⟩
      · obtain ⟨m, rfl⟩ : ∃ m : Nat, c = m := ⟨c.toNat, by omega⟩
        exact put_build p s aw ao cw co lw m wk op cur strong Bf Sf w (by omega) (by omega) hBr hS h3 h4
  have hneq : ((lw : Int) != (lo : Int)) = true := by simp; omega
  clear hBr
  go_enter Try.func5, Try.ntmps5
  go_wp2_with (go_at_call 11; refine (bytes11_ok p s aw lw cw ao lo co c wk op cur strong Sf w hS HW HO).mono ?_; rintro e w' ⟨⟨r, rfl⟩, rfl⟩)
  · go_ret
    exact ⟨rfl, Below.refl _ _⟩
  go_loop [19, 20] (fun z i => ∃ (k : Nat) (t : Int), k ≤ lo ∧ i = .int .i64 k ∧ z = .int .i64 t) (fun _ i => lo - (intOf i).toNat)
  case atStart => exact ⟨0, _, Nat.zero_le _, rfl, rfl⟩
  case round =>
    obtain ⟨k, t, hk, rfl, rfl⟩ := hrel
    by_cases hlt : k < lo
    · rcases hS with rfl | ⟨bo, oo, rfl, hbo, hco⟩
      · omega
      have hcl := hco k hlt
      clear hco
      go_wp2
      · go_ret
        exact ⟨rfl, Below.refl _ _⟩
      · go_round
        case rel => exact ⟨k + 1, _, by omega, by go_num, rfl⟩
        case measure => simp [intOf]; omega
    · go_wp2
      go_ret
      exact ⟨rfl, Below.refl _ _⟩

end Go.Proofs.Qxb6619350a
