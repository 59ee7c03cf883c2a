/-
  THE WALK of ZZHeadScan (7).
-/
import Derived.Test.Qxb6619291aModel
import Derived.Deep.QuietTactic
import Derived.BigQuiet
namespace Go.Proofs.Qxb6619291a
open Go.ChangeShapes Go.WideShapes Go.ChangeAt Go.RowKit
open Plain

theorem Row.later {w w1 : World} {a : Option Addr} {zs : List Int} (h : Row w a zs) (hb : Below w.heap.size w w1) : Row w1 a zs := by
  rcases h with rfl | ⟨b, off, rfl, hlt, hc⟩
  · exact .inl rfl
  · exact .inr ⟨b, off, rfl, Nat.lt_of_lt_of_le hlt hb.size, fun k hk => (hb.cell (p := ⟨b, off + k, none⟩) hlt).trans (hc k hk)⟩

set_option maxHeartbeats 1000000 in
theorem head_any (lines line : Int) (ended : Bool) (a : Option Addr) (n cap : Nat) (zs : List Int) (w : World) (hz : zs.length = n) (hrow : Row w a zs) (hn : n ≤ 1048576)
    (hlo : -9223372036854775808 ≤ lines) (hhi : lines + n ≤ 9223372036854775807) :
    Calls Try.prog 7 #[.int .i64 lines, .int .i64 line, .bool ended, .slice a n cap] w fun e w' =>
      e = .returned (.tuple #[.int .i64 (sc n zs 0 n lines line ended).1, .int .i64 (sc n zs 0 n lines line ended).2.1, .int .i64 (sc n zs 0 n lines line ended).2.2.1, .bool (sc n zs 0 n lines line ended).2.2.2]) ∧ Below w.heap.size w w' := by
  go_enter Try.func7, Try.ntmps7
  go_wp2_with (go_at_call 13; refine (scan_any lines line ended a n cap zs w hz hrow hn hlo hhi).mono ?_; rintro e w' ⟨rfl, rfl⟩)
  go_quiet (fail)
  go_wp2
  refine bodyPost_ret (results_tmp4 rfl _ _ _) rfl ?_
  exact ⟨rfl, below_drewN ((Below.refl _ _).alloc (Nat.le_refl _) _) nq⟩

/-- The model, said in the scan's words. -/
theorem model_sc (lines line : Int) (ended : Bool) (a : Option Addr) (n cap : Nat) (zs : List Int) (w : World) (hz : zs.length = n) (hrow : Row w a zs) (hn : n ≤ 1048576) (hcap : n ≤ cap)
    (hlo : -9223372036854775808 ≤ lines) (hhi : lines + n ≤ 9223372036854775807) :
    Calls Try.prog 8 #[.int .i64 lines, .int .i64 line, .bool ended, .slice a n cap] w fun e w' =>
      e = .returned (.tuple #[.int .i64 (sc n zs 0 n lines line ended).1, .int .i64 (sc n zs 0 n lines line ended).2.1, .int .i64 (sc n zs 0 n lines line ended).2.2.1, .bool (sc n zs 0 n lines line ended).2.2.2]) ∧ w' = w := by
  have h := model_any lines line ended a n cap zs w hz hrow hn hcap hlo hhi
  subst hz
  rw [← sc_model] at h
  exact h

end Go.Proofs.Qxb6619291a
