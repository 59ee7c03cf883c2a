/-
  FnMatchesStrongAndWeakDiffer (6): the ways on which it returns early; slices that came in, as rows.
-/
import Derived.Test.Qxb6619350aDifferWalk
namespace Go.Proofs.Qxb6619350a
open Go.ChangeShapes Go.WideShapes Go.ChangeAt Go.RowKit

theorem cell_lt {w : World} {a : Addr} {v : Value} (h : w.cell? a = some v) : a.block < w.heap.size := World.block_lt_of_cell? w a h

theorem brow_of {w : World} {x : Addr} {n cap : Nat} {B : Nat → Bool} (hn : n ≤ cap) (h : ∀ i, i < cap → w.cell? (x.add i) = some (.bool (B i))) : BRow w (some x) n B := by
  by_cases h0 : n = 0
  · exact .inl h0
  obtain ⟨b, off, spot⟩ := x
  have hs : spot = none := by simpa [Addr.add] using World.cell?_spot (h 0 (by omega))
  subst hs
  have hlt := cell_lt (h 0 (by omega))
  exact .inr ⟨b, off, rfl, by simpa [Addr.add] using hlt, fun i hi => by rw [← add_plain]; exact h i (by omega)⟩
theorem srow_of {w : World} {x : Addr} {n cap : Nat} {S : Nat → ByteArray} (hn : n ≤ cap) (h : ∀ i, i < cap → w.cell? (x.add i) = some (.string (S i))) : SRow w (some x) n S := by
  by_cases h0 : n = 0
  · exact .inl h0
  obtain ⟨b, off, spot⟩ := x
  have hs : spot = none := by simpa [Addr.add] using World.cell?_spot (h 0 (by omega))
  subst hs
  have hlt := cell_lt (h 0 (by omega))
  exact .inr ⟨b, off, rfl, by simpa [Addr.add] using hlt, fun i hi => by rw [← add_plain]; exact h i (by omega)⟩

theorem bytes15_ok' (p s : Bool) (aw : Option Addr) (lw cw : Nat) (ao : Option Addr) (lo co : Nat) (cur : ByteArray) (S : Nat → ByteArray) (w : World) (hS : SRow w ao lo S) (hlw : lw ≤ maxLen) (hlo : lo ≤ maxLen) :
    Calls Try.prog 15 #[.bool p, .bool s, .slice aw lw cw, .slice ao lo co, .string cur] w fun e w' => IsBool e ∧ w = w' :=
  (bytes15_any p s aw lw cw ao lo co cur S w hS hlw hlo).mono fun _ _ h => ⟨h.1, h.2.symm⟩

set_option maxHeartbeats 4000000 in
set_option maxRecDepth 100000 in
theorem differ_all (p s : Bool) (aw : Option Addr) (lw cw : Nat) (ao : Option Addr) (lo co : Nat) (cur : ByteArray) (Bf : Nat → Bool) (Sf : Nat → ByteArray) (w : World) (hBr : BRow w aw lw Bf) (hS : SRow w ao lo Sf) (hlw : lw ≤ maxLen) (hlo : lo ≤ maxLen) (hcur : cur.size ≤ maxLen) :
    Calls Try.prog 6 #[.bool p, .bool s, .slice aw lw cw, .slice ao lo co, .string cur] w fun e w' => e = .returned (.bool true) ∧ Below w.heap.size w w' := by
  have HC := bytes15_ok' p s aw lw cw ao lo co cur Sf w hS hlw hlo
  have HW := hlw
  have HO := hlo
  unfold maxLen at hlw hlo hcur
  by_cases h1 : 65536 < lw
  · clear HC
    go_enter Try.func6, Try.ntmps6
    go_wp2_with (go_at_call 15; refine (bytes15_ok' p s aw lw cw ao lo co cur Sf w hS HW HO).mono ?_; rintro e w' ⟨⟨r, rfl⟩, rfl⟩)
    all_goals
      go_ret
      exact ⟨rfl, Below.refl _ _⟩
  by_cases h2 : 65536 < lo
  · clear HC
    go_enter Try.func6, Try.ntmps6
    go_wp2_with (go_at_call 15; refine (bytes15_ok' p s aw lw cw ao lo co cur Sf w hS HW HO).mono ?_; rintro e w' ⟨⟨r, rfl⟩, rfl⟩)
    all_goals
      go_ret
      exact ⟨rfl, Below.refl _ _⟩
  by_cases h3 : 65536 < cur.size
  · clear HC
    go_enter Try.func6, Try.ntmps6
    go_wp2_with (go_at_call 15; refine (bytes15_ok' p s aw lw cw ao lo co cur Sf w hS HW HO).mono ?_; rintro e w' ⟨⟨r, rfl⟩, rfl⟩)
    all_goals
      go_ret
      exact ⟨rfl, Below.refl _ _⟩
  by_cases h4 : lw = lo
  · subst h4
    exact differ_build p s aw ao cw co lw cur Bf Sf w (by omega) hBr hS h3
  have hneq : ((lw : Int) != (lo : Int)) = true := by simp; omega
  clear HC hBr
  go_enter Try.func6, Try.ntmps6
  go_wp2_with (go_at_call 15; refine (bytes15_ok' p s aw lw cw ao lo co cur Sf w hS HW HO).mono ?_; rintro e w' ⟨⟨r, rfl⟩, rfl⟩)
  · go_ret
    exact ⟨rfl, Below.refl _ _⟩
  go_loop [11, 12] (fun z i => ∃ (k : Nat) (t : Int), k ≤ lo ∧ i = .int .i64 k ∧ z = .int .i64 t) (fun _ i => lo - (intOf i).toNat)
  case atStart => exact ⟨0, _, Nat.zero_le _, rfl, rfl⟩
  case round =>
    obtain ⟨k, t, hk, rfl, rfl⟩ := hrel
    by_cases hlt : k < lo
    · rcases hS with rfl | ⟨bo, oo, rfl, hbo, hco⟩
      · omega
      have hc := hco k hlt
      clear hco
      go_wp2
      · go_ret
        exact ⟨rfl, Below.refl _ _⟩
      · go_round
        case rel => exact ⟨k + 1, _, by omega, by go_num, rfl⟩
        case measure => simp [intOf]; omega
    · go_wp2
      go_ret
      exact ⟨rfl, Below.refl _ _⟩

end Go.Proofs.Qxb6619350a
