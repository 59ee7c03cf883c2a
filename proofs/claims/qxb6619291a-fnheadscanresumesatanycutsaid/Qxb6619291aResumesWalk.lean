/-
  THE WALK of FnHeadScanResumesAtAnyCut (4) on a slice that is not nil.
-/
import Derived.Test.Qxb6619291aCut
namespace Go.Proofs.Qxb6619291a
open Go.ChangeShapes Go.WideShapes Go.ChangeAt Go.RowKit
open Plain

set_option maxHeartbeats 4000000 in
set_option maxRecDepth 100000 in
theorem resumes_lt (a0 a1 : Int) (a2 : Bool) (x : Addr) (n cap c : Nat) (z : List Int) (w : World) (hlo : -9223372036854775808 ≤ a0) (hl : ¬ 9223372036853727231 < a0) (hn : n ≤ 1048576) (hlz : n ≤ z.length) (hc : c < n)
    (hcell : ∀ i, i < z.length → w.cell? (x.add i) = some (.int .u8 (z.getD i 0))) :
    Calls Try.prog 4 #[.int .i64 a0, .int .i64 a1, .bool a2, .slice (some x) n cap, .int .i64 c] w fun e w' => e = .returned (.bool true) ∧ Below w.heap.size w w' := by
  have hnn := fun (w : World) (a : Option Addr) (n c : Nat) => run_neq_slice_nil_any (P := Try.prog) w 22 5 a n c 0 0 Try.underlying22
  have hmk := run_make_row' (P := Try.prog) 22 5 (.int .u8 0) 1 Try.underlying22 Try.info5 rfl .i64 .i64 n (by omega) (by omega)
  obtain ⟨zs, hzs⟩ : ∃ zs, zs = z.take n := ⟨_, rfl⟩
  have HZ : Hid (zs = z.take n) := hzs
  have hel : zs.length = n := by rw [hzs]; simp; omega
  clear hzs
  obtain ⟨f1, l1, s1, e1, f2, l2, s2, e2, H1, H2, H3, hl1, hl2, hf1, hf2⟩ := cut_named zs n c hel (by omega) a0 a1 a2
  have E1 : Hid ((zs.take c).length = c) := by simp [Hid]; omega
  have E2 : Hid ((zs.drop c).length = n - c) := by simp [Hid]; omega
  have E3 : Hid (zs.length = n) := hel
  have HI1 : a0 + (c : Int) ≤ 9223372036854775807 := by omega
  have HI2 : l1 + ((n - c : Nat) : Int) ≤ 9223372036854775807 := by omega
  have HI3 : a0 + (n : Int) ≤ 9223372036854775807 := by omega
  have HL2 : -9223372036854775808 ≤ l1 := by omega
  clear hel
  by_cases hff : f1 < c
  · rw [if_pos hff] at H3
    go_enter Try.func4, Try.ntmps4
    go_wp2_with (first
      | (go_at_call 9; go_in)
      | (with_reducible (show wpList _ _ _ ({ dst := some 57, op := _, type := _, pos := _, after := _, guard := _ } :: _) _ _); refine wp_copy_bytes x n cap z rfl (.tmp 55) (.tmp 56) rfl rfl rfl hcell hlz ?_; intro w1 hr0 hb1))
    have hr1 : Row w1 (some ⟨w.heap.size, 0, none⟩) zs := by rw [HZ.out]; exact hr0
    clear hr0
    refine (head_at a0 a1 a2 _ c n (zs.take c) _ E1.out (hr1.front c) (by omega) hlo HI1 H1).mono ?_
    rintro e w2 ⟨rfl, hb2⟩
    have hr2 := Row.later hr1 hb2
    go_wp2_with fail
    refine (head_at l1 s1 e1 _ (n - c) (n - c) (zs.drop c) _ E2.out (by have := hr2.back c; rw [Nat.zero_add] at this; exact this) (by omega) HL2 HI2 H2).mono ?_
    rintro e w3 ⟨rfl, hb3⟩
    have hr3 := Row.later hr2 hb3
    go_wp2_with fail
    refine (head_at a0 a1 a2 _ n n zs _ E3.out hr3 hn hlo HI3 H3).mono ?_
    rintro e w4 ⟨rfl, hb4⟩
    have hr4 := Row.later hr3 hb4
    go_wp2_with (go_at_call 8; refine (model_at a0 a1 a2 _ n n zs _ E3.out hr4 hn (Nat.le_refl _) hlo HI3 H3).mono ?_; rintro e w5 ⟨rfl, rfl⟩)
    go_ret
    exact ⟨rfl, hb1.trans ((hb2.mono hb1.size).trans ((hb3.mono (Nat.le_trans hb1.size hb2.size)).trans (hb4.mono (Nat.le_trans hb1.size (Nat.le_trans hb2.size hb3.size)))))⟩
  · rw [if_neg hff] at H3
    go_enter Try.func4, Try.ntmps4
    go_wp2_with (first
      | (go_at_call 9; go_in)
      | (with_reducible (show wpList _ _ _ ({ dst := some 57, op := _, type := _, pos := _, after := _, guard := _ } :: _) _ _); refine wp_copy_bytes x n cap z rfl (.tmp 55) (.tmp 56) rfl rfl rfl hcell hlz ?_; intro w1 hr0 hb1))
    have hr1 : Row w1 (some ⟨w.heap.size, 0, none⟩) zs := by rw [HZ.out]; exact hr0
    clear hr0
    refine (head_at a0 a1 a2 _ c n (zs.take c) _ E1.out (hr1.front c) (by omega) hlo HI1 H1).mono ?_
    rintro e w2 ⟨rfl, hb2⟩
    have hr2 := Row.later hr1 hb2
    go_wp2_with fail
    refine (head_at l1 s1 e1 _ (n - c) (n - c) (zs.drop c) _ E2.out (by have := hr2.back c; rw [Nat.zero_add] at this; exact this) (by omega) HL2 HI2 H2).mono ?_
    rintro e w3 ⟨rfl, hb3⟩
    have hr3 := Row.later hr2 hb3
    go_wp2_with fail
    refine (head_at a0 a1 a2 _ n n zs _ E3.out hr3 hn hlo HI3 H3).mono ?_
    rintro e w4 ⟨rfl, hb4⟩
    have hr4 := Row.later hr3 hb4
    go_wp2_with (go_at_call 8; refine (model_at a0 a1 a2 _ n n zs _ E3.out hr4 hn (Nat.le_refl _) hlo HI3 H3).mono ?_; rintro e w5 ⟨rfl, rfl⟩)
    go_ret
    exact ⟨rfl, hb1.trans ((hb2.mono hb1.size).trans ((hb3.mono (Nat.le_trans hb1.size hb2.size)).trans (hb4.mono (Nat.le_trans hb1.size (Nat.le_trans hb2.size hb3.size)))))⟩

/-- The cut is at the end: the second piece is empty. -/
theorem whole_named (zs : List Int) (n : Nat) (hz : zs.length = n) (lines line : Int) (ended : Bool) :
    ∃ f1 l1 s1 e1, Hid (sc n zs 0 n lines line ended = (f1, l1, s1, e1)) ∧ lines ≤ l1 ∧ l1 ≤ lines + n ∧ f1 ≤ n := by
  have hb := sc_lines n zs 0 n lines line ended
  have hf := (sc_fits n zs 0 n lines line ended).2
  rw [hz] at hb hf
  generalize hA : sc n zs 0 n lines line ended = A at hb hf
  obtain ⟨f1, l1, s1, E1⟩ := A
  simp only at hb hf
  exact ⟨f1, l1, s1, E1, rfl, hb.1, hb.2, by omega⟩

set_option maxHeartbeats 4000000 in
set_option maxRecDepth 100000 in
theorem resumes_eq (a0 a1 : Int) (a2 : Bool) (x : Addr) (n cap : Nat) (z : List Int) (w : World) (hlo : -9223372036854775808 ≤ a0) (hl : ¬ 9223372036853727231 < a0) (hn : n ≤ 1048576) (hlz : n ≤ z.length)
    (hcell : ∀ i, i < z.length → w.cell? (x.add i) = some (.int .u8 (z.getD i 0))) :
    Calls Try.prog 4 #[.int .i64 a0, .int .i64 a1, .bool a2, .slice (some x) n cap, .int .i64 n] w fun e w' => e = .returned (.bool true) ∧ Below w.heap.size w w' := by
  have hnn := fun (w : World) (a : Option Addr) (n c : Nat) => run_neq_slice_nil_any (P := Try.prog) w 22 5 a n c 0 0 Try.underlying22
  have hmk := run_make_row' (P := Try.prog) 22 5 (.int .u8 0) 1 Try.underlying22 Try.info5 rfl .i64 .i64 n (by omega) (by omega)
  obtain ⟨zs, hzs⟩ : ∃ zs, zs = z.take n := ⟨_, rfl⟩
  have HZ : Hid (zs = z.take n) := hzs
  have hel : zs.length = n := by rw [hzs]; simp; omega
  clear hzs
  obtain ⟨f1, l1, s1, e1, H3, hl1, hl2, hf1⟩ := whole_named zs n hel a0 a1 a2
  have E3 : Hid (zs.length = n) := hel
  have HI2 : l1 + ((0 : Nat) : Int) ≤ 9223372036854775807 := by omega
  have HI3 : a0 + (n : Int) ≤ 9223372036854775807 := by omega
  have HL2 : -9223372036854775808 ≤ l1 := by omega
  clear hel
  by_cases hff : f1 < n
  · go_enter Try.func4, Try.ntmps4
    go_wp2_with (first
      | (go_at_call 9; go_in)
      | (with_reducible (show wpList _ _ _ ({ dst := some 57, op := _, type := _, pos := _, after := _, guard := _ } :: _) _ _); refine wp_copy_bytes x n cap z rfl (.tmp 55) (.tmp 56) rfl rfl rfl hcell hlz ?_; intro w1 hr0 hb1))
    have hr1 : Row w1 (some ⟨w.heap.size, 0, none⟩) zs := by rw [HZ.out]; exact hr0
    clear hr0
    refine (head_at a0 a1 a2 _ n n zs _ E3.out hr1 hn hlo HI3 H3).mono ?_
    rintro e w2 ⟨rfl, hb2⟩
    have hr2 := Row.later hr1 hb2
    go_wp2_with fail
    refine (head_at l1 s1 e1 _ 0 0 [] _ rfl (.inl rfl) (by omega) HL2 HI2 rfl).mono ?_
    rintro e w3 ⟨rfl, hb3⟩
    have hr3 := Row.later hr2 hb3
    go_wp2_with fail
    refine (head_at a0 a1 a2 _ n n zs _ E3.out hr3 hn hlo HI3 H3).mono ?_
    rintro e w4 ⟨rfl, hb4⟩
    have hr4 := Row.later hr3 hb4
    go_wp2_with (go_at_call 8; refine (model_at a0 a1 a2 _ n n zs _ E3.out hr4 hn (Nat.le_refl _) hlo HI3 H3).mono ?_; rintro e w5 ⟨rfl, rfl⟩)
    go_ret
    exact ⟨rfl, hb1.trans ((hb2.mono hb1.size).trans ((hb3.mono (Nat.le_trans hb1.size hb2.size)).trans (hb4.mono (Nat.le_trans hb1.size (Nat.le_trans hb2.size hb3.size)))))⟩
  · obtain rfl : f1 = n := by omega
    go_enter Try.func4, Try.ntmps4
    go_wp2_with (first
      | (go_at_call 9; go_in)
      | (with_reducible (show wpList _ _ _ ({ dst := some 57, op := _, type := _, pos := _, after := _, guard := _ } :: _) _ _); refine wp_copy_bytes x n cap z rfl (.tmp 55) (.tmp 56) rfl rfl rfl hcell hlz ?_; intro w1 hr0 hb1))
    have hr1 : Row w1 (some ⟨w.heap.size, 0, none⟩) zs := by rw [HZ.out]; exact hr0
    clear hr0
    refine (head_at a0 a1 a2 _ n n zs _ E3.out hr1 hn hlo HI3 H3).mono ?_
    rintro e w2 ⟨rfl, hb2⟩
    have hr2 := Row.later hr1 hb2
    go_wp2_with fail
    refine (head_at l1 s1 e1 _ 0 0 [] _ rfl (.inl rfl) (by omega) HL2 HI2 rfl).mono ?_
    rintro e w3 ⟨rfl, hb3⟩
    have hr3 := Row.later hr2 hb3
    go_wp2_with fail
    refine (head_at a0 a1 a2 _ n n zs _ E3.out hr3 hn hlo HI3 H3).mono ?_
    rintro e w4 ⟨rfl, hb4⟩
    have hr4 := Row.later hr3 hb4
    go_wp2_with (go_at_call 8; refine (model_at a0 a1 a2 _ n n zs _ E3.out hr4 hn (Nat.le_refl _) hlo HI3 H3).mono ?_; rintro e w5 ⟨rfl, rfl⟩)
    go_ret
    exact ⟨rfl, hb1.trans ((hb2.mono hb1.size).trans ((hb3.mono (Nat.le_trans hb1.size hb2.size)).trans (hb4.mono (Nat.le_trans hb1.size (Nat.le_trans hb2.size hb3.size)))))⟩

end Go.Proofs.Qxb6619291a
