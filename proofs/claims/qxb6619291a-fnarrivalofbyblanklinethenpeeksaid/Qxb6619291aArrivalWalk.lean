/-
  THE WALK of FnArrivalOfByBlankLineThenPeek (5) on a slice that is not nil.
-/
import Derived.Test.Qxb6619291aArrival
namespace Go.Proofs.Qxb6619291a
open Go.ChangeShapes Go.WideShapes Go.ChangeAt Go.RowKit
open Plain

set_option maxHeartbeats 4000000 in
set_option maxRecDepth 100000 in
theorem arrival_some (x : Addr) (n cap c : Nat) (p : Int) (z : List Int) (w : World) (hn : n ≤ 1048576) (hlz : n ≤ z.length) (hc : c ≤ n)
    (hcell : ∀ i, i < z.length → w.cell? (x.add i) = some (.int .u8 (z.getD i 0))) :
    Calls Try.prog 5 #[.slice (some x) n cap, .int .i64 p, .int .i64 c] w fun e w' => e = .returned (.bool true) ∧ Below w.heap.size w w' := by
  have hnn := fun (w : World) (a : Option Addr) (n c : Nat) => run_neq_slice_nil_any (P := Try.prog) w 22 5 a n c 0 0 Try.underlying22
  have hmk := run_make_row' (P := Try.prog) 22 5 (.int .u8 0) 1 Try.underlying22 Try.info5 rfl .i64 .i64 n (by omega) (by omega)
  obtain ⟨zs, hzs⟩ : ∃ zs, zs = z.take n := ⟨_, rfl⟩
  have HZ : Hid (zs = z.take n) := hzs
  have hel : zs.length = n := by rw [hzs]; simp; omega
  clear hzs
  have E1 : Hid ((zs.take c).length = c) := by simp [Hid]; omega
  have E3 : Hid (zs.length = n) := hel
  clear hel
  obtain ⟨r, q, HR, HQ, hq⟩ := arrv_named zs n c p
  rcases hq with ⟨rfl, rfl⟩ | hq
  · go_enter Try.func5, Try.ntmps5
    go_wp2_with (first
      | (go_at_call 10; go_in)
      | (with_reducible (show wpList _ _ _ ({ dst := some 34, op := _, type := _, pos := _, after := _, guard := _ } :: _) _ _); refine wp_copy_bytes x n cap z rfl (.tmp 32) (.tmp 33) rfl rfl rfl hcell hlz ?_; intro w1 hr0 hb1))
    have hr1 : Row w1 (some ⟨w.heap.size, 0, none⟩) zs := by rw [HZ.out]; exact hr0
    clear hr0
    refine (zzArrival_any _ n n p zs _ E3.out hr1 hn HR).mono ?_
    rintro e w2 ⟨rfl, hb2⟩
    have hr2 := Row.later hr1 hb2
    go_wp2_with fail
    refine (zzArrival_any _ c n p (zs.take c) _ E1.out (hr2.front c) (by omega) HQ).mono ?_
    rintro e w3 ⟨rfl, hb3⟩
    have hr3 := Row.later hr2 hb3
    go_wp2_with fail
    refine (expect_any _ n n p zs _ E3.out hr3 hn (Nat.le_refl _) HR).mono ?_
    rintro e w4 ⟨rfl, rfl⟩
    go_wp2_with fail
    refine (expect_any _ c n p (zs.take c) _ E1.out (hr3.front c) (by omega) hc HQ).mono ?_
    rintro e w5 ⟨rfl, rfl⟩
    go_wp2
    go_ret
    exact ⟨rfl, hb1.trans ((hb2.mono hb1.size).trans (hb3.mono (Nat.le_trans hb1.size hb2.size)))⟩
  · go_enter Try.func5, Try.ntmps5
    go_wp2_with (first
      | (go_at_call 10; go_in)
      | (with_reducible (show wpList _ _ _ ({ dst := some 34, op := _, type := _, pos := _, after := _, guard := _ } :: _) _ _); refine wp_copy_bytes x n cap z rfl (.tmp 32) (.tmp 33) rfl rfl rfl hcell hlz ?_; intro w1 hr0 hb1))
    have hr1 : Row w1 (some ⟨w.heap.size, 0, none⟩) zs := by rw [HZ.out]; exact hr0
    clear hr0
    refine (zzArrival_any _ n n p zs _ E3.out hr1 hn HR).mono ?_
    rintro e w2 ⟨rfl, hb2⟩
    have hr2 := Row.later hr1 hb2
    go_wp2_with fail
    refine (zzArrival_any _ c n p (zs.take c) _ E1.out (hr2.front c) (by omega) HQ).mono ?_
    rintro e w3 ⟨rfl, hb3⟩
    have hr3 := Row.later hr2 hb3
    go_wp2_with fail
    refine (expect_any _ n n p zs _ E3.out hr3 hn (Nat.le_refl _) HR).mono ?_
    rintro e w4 ⟨rfl, rfl⟩
    go_wp2_with fail
    refine (expect_any _ c n p (zs.take c) _ E1.out (hr3.front c) (by omega) hc HQ).mono ?_
    rintro e w5 ⟨rfl, rfl⟩
    go_wp2
    go_ret
    exact ⟨rfl, hb1.trans ((hb2.mono hb1.size).trans (hb3.mono (Nat.le_trans hb1.size hb2.size)))⟩

end Go.Proofs.Qxb6619291a
