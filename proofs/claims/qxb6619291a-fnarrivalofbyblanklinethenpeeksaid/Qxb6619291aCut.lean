/-
  THE CONTRACTS OF ZZHeadScan AND modelScan, their answers given by name; a row cut in two.
-/
import Derived.Test.Qxb6619291aCopy
namespace Go.Proofs.Qxb6619291a
open Go.ChangeShapes Go.WideShapes Go.ChangeAt Go.RowKit
open Plain

theorem head_at {f l s : Int} {e : Bool} (lines line : Int) (ended : Bool) (a : Option Addr) (n cap : Nat) (zs : List Int) (w : World) (hz : zs.length = n) (hrow : Row w a zs) (hn : n ≤ 1048576)
    (hlo : -9223372036854775808 ≤ lines) (hhi : lines + n ≤ 9223372036854775807) (hT : Hid (sc n zs 0 n lines line ended = (f, l, s, e))) :
    Calls Try.prog 7 #[.int .i64 lines, .int .i64 line, .bool ended, .slice a n cap] w fun e' w' =>
      e' = .returned (.tuple #[.int .i64 f, .int .i64 l, .int .i64 s, .bool e]) ∧ Below w.heap.size w w' := by
  have h := head_any lines line ended a n cap zs w hz hrow hn hlo hhi
  rw [hT.out] at h
  exact h
theorem model_at {f l s : Int} {e : Bool} (lines line : Int) (ended : Bool) (a : Option Addr) (n cap : Nat) (zs : List Int) (w : World) (hz : zs.length = n) (hrow : Row w a zs) (hn : n ≤ 1048576) (hcap : n ≤ cap)
    (hlo : -9223372036854775808 ≤ lines) (hhi : lines + n ≤ 9223372036854775807) (hT : Hid (sc n zs 0 n lines line ended = (f, l, s, e))) :
    Calls Try.prog 8 #[.int .i64 lines, .int .i64 line, .bool ended, .slice a n cap] w fun e' w' =>
      e' = .returned (.tuple #[.int .i64 f, .int .i64 l, .int .i64 s, .bool e]) ∧ w' = w := by
  have h := model_sc lines line ended a n cap zs w hz hrow hn hcap hlo hhi
  rw [hT.out] at h
  exact h

theorem Row.front {w : World} {a : Option Addr} {zs : List Int} (h : Row w a zs) (c : Nat) : Row w a (zs.take c) := by
  rcases h with rfl | ⟨b, off, rfl, hlt, hc⟩
  · exact .inl (by simp)
  · refine .inr ⟨b, off, rfl, hlt, fun k hk => ?_⟩
    have h1 : k < c := by simp at hk; omega
    have h2 : k < zs.length := by simp at hk; omega
    rw [hc k h2]
    simp [List.getD_eq_getElem?_getD, h1, h2]
theorem Row.back {w : World} {b off : Nat} {zs : List Int} (h : Row w (some ⟨b, off, none⟩) zs) (c : Nat) : Row w (some ⟨b, off + c, none⟩) (zs.drop c) := by
  rcases h with rfl | ⟨b', off', he, hlt, hc⟩
  · exact .inl (by simp)
  · cases he
    refine .inr ⟨b, off + c, rfl, hlt, fun k hk => ?_⟩
    simp at hk
    rw [Nat.add_assoc, hc (c + k) (by omega)]
    simp [List.getD_eq_getElem?_getD]

/-- The plain law, its answers named. -/
theorem cut_named (zs : List Int) (n c : Nat) (hz : zs.length = n) (hc : c ≤ n) (lines line : Int) (ended : Bool) :
    ∃ f1 l1 s1 e1 f2 l2 s2 e2,
      Hid (sc c (zs.take c) 0 c lines line ended = (f1, l1, s1, e1)) ∧ Hid (sc (n - c : Nat) (zs.drop c) 0 (n - c : Nat) l1 s1 e1 = (f2, l2, s2, e2)) ∧
      Hid (sc n zs 0 n lines line ended = (if f1 < c then f1 else c + f2, l2, s2, e2)) ∧ lines ≤ l1 ∧ l1 ≤ lines + c ∧ 0 ≤ f2 ∧ f2 ≤ n - c := by
  have e1 : (zs.take c).length = c := by simp; omega
  have e2 : (zs.drop c).length = n - c := by simp; omega
  have h := sc_cut (zs.take c) (zs.drop c) lines line ended
  simp only [List.take_append_drop] at h
  rw [e1, e2, hz] at h
  obtain ⟨h2, h1⟩ := h
  have hb := sc_lines c (zs.take c) 0 c lines line ended
  rw [e1] at hb
  generalize hA : sc c (zs.take c) 0 c lines line ended = A at h1 h2 hb
  obtain ⟨f1, l1, s1, E1⟩ := A
  have hf := (sc_fits (n - c : Nat) (zs.drop c) 0 (n - c : Nat) l1 s1 E1).2
  rw [e2] at hf
  simp only at h1 h2 hb
  generalize hB : sc (n - c : Nat) (zs.drop c) 0 (n - c : Nat) l1 s1 E1 = B at h1 h2 hf
  obtain ⟨f2, l2, s2, E2⟩ := B
  simp only at h1 h2 hf
  refine ⟨f1, l1, s1, E1, f2, l2, s2, E2, rfl, hB, ?_, hb.1, hb.2, by omega, by omega⟩
  show _ = _
  generalize hW : sc n zs 0 n lines line ended = W at h1 h2
  obtain ⟨fw, W2⟩ := W
  simp only at h1 h2
  rw [h1, h2]

end Go.Proofs.Qxb6619291a
