/-
  FnRsyncURICutAndSingleton (3): the ways on which it returns early; the nil slice.
-/
import Derived.Test.Qxb6619483aWalk
namespace Go.Proofs.Qxb6619483a
open Go.ChangeShapes Go.WideShapes Go.ChangeAt Go.RowKit

set_option maxHeartbeats 4000000 in
set_option maxRecDepth 100000 in
theorem law_low (x : Addr) (n cap : Nat) (i j : Int) (S : Nat → ByteArray) (w : World) (hn : n ≤ 1048576) (hi : i < 0) (hcell : ∀ i, i < n → w.cell? (x.add i) = some (.string (S i))) (hS : SRow w (some x) n S) :
    Calls Try.prog 3 #[.slice (some x) n cap, .int .i64 i, .int .i64 j] w fun e w' => e = .returned (.bool true) ∧ Below w.heap.size w w' := by
  have hnn := fun (w : World) (a : Option Addr) (n c : Nat) => run_neq_slice_nil_any (P := Try.prog) w 22 9 a n c 0 0 Try.underlying22
  have hmk := run_make_row' (P := Try.prog) 22 9 (.string ByteArray.empty) 16 Try.underlying22 Try.info9 rfl .i64 .i64 n (by omega) (by omega)
  have HCl : Hid (∀ i, i < n → w.cell? (x.add i) = some (.string (S i))) := hcell
  clear hcell
  go_enter Try.func3, Try.ntmps3
  go_wp2_with (first
    | (go_at_call 4; refine (bytes4_any (some x) n cap _ _ S w hn hS).mono ?_; rintro e w' ⟨⟨r, rfl⟩, rfl⟩)
    | (with_reducible (show wpList _ _ _ ({ dst := some 28, op := _, type := _, pos := _, after := _, guard := _ } :: _) _ _); refine wp_copy_strs x n cap S rfl (.tmp 26) (.tmp 27) rfl rfl rfl HCl.out ?_; intro w1 hr1 hb1))
  · go_ret
    exact ⟨rfl, Below.refl _ _⟩
  clear hS HCl
  go_loop [8, 9] (fun z i => ∃ (k : Nat) (t : Int), k ≤ n ∧ i = .int .i64 k ∧ z = .int .i64 t) (fun _ i => n - (intOf i).toNat)
  case atStart => exact ⟨0, _, Nat.zero_le _, rfl, rfl⟩
  case round =>
    obtain ⟨k, t, hk, rfl, rfl⟩ := hrel
    by_cases hlt : k < n
    · rcases hr1 with rfl | ⟨b, off, he, hb, hcl⟩
      · omega
      cases he
      have hcx := hcl k hlt
      clear hcl
      rw [Nat.zero_add] at hcx
      go_wp2
      · go_ret
        exact ⟨rfl, hb1⟩
      · go_round
        case rel => exact ⟨k + 1, _, by omega, by go_num, rfl⟩
        case measure => simp [intOf]; omega
    · go_wp2
      go_ret
      exact ⟨rfl, hb1⟩

set_option maxHeartbeats 4000000 in
set_option maxRecDepth 100000 in
theorem law_high (x : Addr) (n cap : Nat) (i j : Int) (S : Nat → ByteArray) (w : World) (hn : n ≤ 1048576) (hi : (n : Int) < i) (hcell : ∀ i, i < n → w.cell? (x.add i) = some (.string (S i))) (hS : SRow w (some x) n S) :
    Calls Try.prog 3 #[.slice (some x) n cap, .int .i64 i, .int .i64 j] w fun e w' => e = .returned (.bool true) ∧ Below w.heap.size w w' := by
  have hnn := fun (w : World) (a : Option Addr) (n c : Nat) => run_neq_slice_nil_any (P := Try.prog) w 22 9 a n c 0 0 Try.underlying22
  have hmk := run_make_row' (P := Try.prog) 22 9 (.string ByteArray.empty) 16 Try.underlying22 Try.info9 rfl .i64 .i64 n (by omega) (by omega)
  have HCl : Hid (∀ i, i < n → w.cell? (x.add i) = some (.string (S i))) := hcell
  clear hcell
  go_enter Try.func3, Try.ntmps3
  go_wp2_with (first
    | (go_at_call 4; refine (bytes4_any (some x) n cap _ _ S w hn hS).mono ?_; rintro e w' ⟨⟨r, rfl⟩, rfl⟩)
    | (with_reducible (show wpList _ _ _ ({ dst := some 28, op := _, type := _, pos := _, after := _, guard := _ } :: _) _ _); refine wp_copy_strs x n cap S rfl (.tmp 26) (.tmp 27) rfl rfl rfl HCl.out ?_; intro w1 hr1 hb1))
  · go_ret
    exact ⟨rfl, Below.refl _ _⟩
  clear hS HCl
  go_loop [8, 9] (fun z i => ∃ (k : Nat) (t : Int), k ≤ n ∧ i = .int .i64 k ∧ z = .int .i64 t) (fun _ i => n - (intOf i).toNat)
  case atStart => exact ⟨0, _, Nat.zero_le _, rfl, rfl⟩
  case round =>
    obtain ⟨k, t, hk, rfl, rfl⟩ := hrel
    by_cases hlt : k < n
    · rcases hr1 with rfl | ⟨b, off, he, hb, hcl⟩
      · omega
      cases he
      have hcx := hcl k hlt
      clear hcl
      rw [Nat.zero_add] at hcx
      go_wp2
      · go_ret
        exact ⟨rfl, hb1⟩
      · go_round
        case rel => exact ⟨k + 1, _, by omega, by go_num, rfl⟩
        case measure => simp [intOf]; omega
    · go_wp2
      go_ret
      exact ⟨rfl, hb1⟩

set_option maxHeartbeats 4000000 in
set_option maxRecDepth 100000 in
theorem law_nil (i j : Int) (w : World) :
    Calls Try.prog 3 #[.slice none 0 0, .int .i64 i, .int .i64 j] w fun e w' => e = .returned (.bool true) ∧ Below w.heap.size w w' := by
  have hnn := fun (w : World) (a : Option Addr) (n c : Nat) => run_neq_slice_nil_any (P := Try.prog) w 22 9 a n c 0 0 Try.underlying22
  by_cases h1 : i < 0
  · skip
    go_enter Try.func3, Try.ntmps3
    go_wp2_with (go_at_call 4; refine (bytes4_any none 0 0 _ _ (fun _ => ByteArray.empty) w (by omega) (.inl rfl)).mono ?_; rintro e w' ⟨⟨r, rfl⟩, rfl⟩)
    · go_ret
      exact ⟨rfl, Below.refl _ _⟩
    refine wp_loop_rounds 1 ?_
    rw [rounds_succ]
    go_wp2
    go_ret
    exact ⟨rfl, Below.refl _ _⟩
  by_cases h2 : 0 < i
  · skip
    go_enter Try.func3, Try.ntmps3
    go_wp2_with (go_at_call 4; refine (bytes4_any none 0 0 _ _ (fun _ => ByteArray.empty) w (by omega) (.inl rfl)).mono ?_; rintro e w' ⟨⟨r, rfl⟩, rfl⟩)
    · go_ret
      exact ⟨rfl, Below.refl _ _⟩
    refine wp_loop_rounds 1 ?_
    rw [rounds_succ]
    go_wp2
    go_ret
    exact ⟨rfl, Below.refl _ _⟩
  obtain rfl : i = 0 := by omega
  have hemp := empty_isEmpty
  have HZ : Hid (fr (fun _ => ByteArray.empty) 0 0 = ByteArray.empty) := rfl
  go_enter Try.func3, Try.ntmps3
  go_wp2_with (go_at_call 4; refine (bytes4_any none 0 0 _ _ (fun _ => ByteArray.empty) w (by omega) (.inl rfl)).mono ?_; rintro e w' ⟨⟨r, rfl⟩, rfl⟩)
  · go_ret
    exact ⟨rfl, Below.refl _ _⟩
  refine wp_loop_rounds 1 ?_
  rw [rounds_succ]
  by_cases hj : j < 0
  · go_wp2_with (go_at_call 5; refine (rsync_at none 0 0 (fun _ => ByteArray.empty) _ (by omega) (.inl rfl) (fun i hi => by omega) HZ).mono ?_; rintro e w' ⟨rfl, rfl⟩)
    go_ret
    exact ⟨rfl, Below.refl _ _⟩
  · go_wp2_with (go_at_call 5; refine (rsync_at none 0 0 (fun _ => ByteArray.empty) _ (by omega) (.inl rfl) (fun i hi => by omega) HZ).mono ?_; rintro e w' ⟨rfl, rfl⟩)
    go_ret
    exact ⟨rfl, Below.refl _ _⟩

theorem law_big (a : Option Addr) (n cap : Nat) (i j : Int) (w : World) (hn : 1048576 < n) :
    Calls Try.prog 3 #[.slice a n cap, .int .i64 i, .int .i64 j] w fun e w' => e = .returned (.bool true) ∧ Below w.heap.size w w' := by
  go_enter Try.func3, Try.ntmps3
  go_wp2_with (go_at_call 4; refine (bytes4_big a n cap i j w hn).mono ?_; rintro e w' ⟨rfl, rfl⟩)
  go_ret
  exact ⟨rfl, Below.refl _ _⟩

theorem srow_of {w : World} {x : Addr} {n cap : Nat} {S : Nat → ByteArray} (hn : n ≤ cap) (h : ∀ i, i < cap → w.cell? (x.add i) = some (.string (S i))) : SRow w (some x) n S := by
  by_cases h0 : n = 0
  · exact .inl h0
  obtain ⟨b, off, spot⟩ := x
  have hs : spot = none := by simpa [Addr.add] using World.cell?_spot (h 0 (by omega))
  subst hs
  have hlt := World.block_lt_of_cell? w _ (h 0 (by omega))
  exact .inr ⟨b, off, rfl, by simpa [Addr.add] using hlt, fun i hi => by rw [← add_plain]; exact h i (by omega)⟩

theorem law_all (x : Addr) (n cap : Nat) (i j : Int) (S : Nat → ByteArray) (w : World) (hnc : n ≤ cap) (hcell : ∀ i, i < cap → w.cell? (x.add i) = some (.string (S i)) ∧ (S i).size ≤ maxLen) :
    Calls Try.prog 3 #[.slice (some x) n cap, .int .i64 i, .int .i64 j] w fun e w' => e = .returned (.bool true) ∧ Below w.heap.size w w' := by
  by_cases hn : 1048576 < n
  · exact law_big (some x) n cap i j w hn
  have hS : SRow w (some x) n S := srow_of hnc (fun k hk => (hcell k hk).1)
  have hc : ∀ k, k < n → w.cell? (x.add k) = some (.string (S k)) := fun k hk => (hcell k (by omega)).1
  by_cases h0 : i < 0
  · exact law_low x n cap i j S w (by omega) h0 hc hS
  by_cases h1 : (n : Int) < i
  · exact law_high x n cap i j S w (by omega) h1 hc hS
  obtain ⟨c, rfl⟩ : ∃ c : Nat, i = c := ⟨i.toNat, by omega⟩
  exact law_some x n cap c j S w (by omega) (by omega) hc hS (fun k hk => (hcell k (by omega)).2)

end Go.Proofs.Qxb6619483a
