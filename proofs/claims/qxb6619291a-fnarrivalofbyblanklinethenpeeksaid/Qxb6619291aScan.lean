/-
  THE WALK of (*head).scan (13): on a head that is the newest block.
-/
import Derived.Test.Qxb6619291aLine
namespace Go.Proofs.Qxb6619291a
open Go.ChangeShapes Go.WideShapes Go.ChangeAt Go.RowKit
open Plain

/-- The cells of a slice of bytes: 'zs', if there are any. -/
def Row (w : World) (a : Option Addr) (zs : List Int) : Prop :=
  zs = [] ∨ ∃ b off, a = some ⟨b, off, none⟩ ∧ b < w.heap.size ∧ ∀ k, k < zs.length → w.cell? ⟨b, off + k, none⟩ = some (.int .u8 (zs.getD k 0))

theorem drop_cons {zs : List Int} {k : Nat} (h : k < zs.length) : zs.drop k = zs.getD k 0 :: zs.drop (k + 1) := by
  rw [List.drop_eq_getElem_cons h]; simp [h]

/-! ### The steps, in plain words -/
section
variable {n : Int} {r : List Int} {i F L S c : Int} {T : Int × Int × Int × Bool}
theorem st_stop (h : T = sc n r i F L S true) : T = (F, L, S, true) := by rw [h, sc_ended]
theorem st_end {E : Bool} (h : T = sc n [] i F L S E) : T = (F, L, S, E) := by rw [h, sc]
theorem st_long (h : T = sc n (10 :: r) i F L 2 false) (h1 : F = n) (h2 : 101 < L + 1) : T = sc n r (i + 1) i (L + 1) 0 false := by rw [h]; simp [sc, h1, h2]
theorem st_line (h : T = sc n (10 :: r) i F L 2 false) (h1 : ¬ (F = n ∧ 101 < L + 1)) : T = sc n r (i + 1) F (L + 1) 0 false := by
  rw [h]; simp only [sc, Bool.false_eq_true, if_false, if_true, if_neg h1]
theorem st_empty (h : T = sc n (10 :: r) i F L S false) (h1 : ¬ S = 2) : T = sc n r (i + 1) F L 0 (decide (0 < L)) := by rw [h]; simp [sc, h1]
theorem st_cr (h : T = sc n (13 :: r) i F L 0 false) : T = sc n r (i + 1) F L 1 false := by rw [h]; simp [sc]
theorem st_text (h : T = sc n (c :: r) i F L S false) (h1 : ¬ c = 10) (h2 : ¬ (c = 13 ∧ S = 0)) : T = sc n r (i + 1) F L 2 false := by
  rw [h]; simp only [sc, Bool.false_eq_true, if_false, if_neg h1, if_neg h2]
end

set_option maxHeartbeats 2000000 in
theorem scan_any (lines line : Int) (ended : Bool) (a : Option Addr) (n cap : Nat) (zs : List Int) (w : World) (hz : zs.length = n) (hrow : Row w a zs) (hn : n ≤ 1048576)
    (hlo : -9223372036854775808 ≤ lines) (hhi : lines + n ≤ 9223372036854775807) :
    Calls Try.prog 13 #[.pointer (some ⟨w.heap.size, 0, none⟩), .slice a n cap] (w.alloc (.cells #[.int .i64 lines, .int .i64 line, .bool ended] 31)) fun e w' =>
      e = .returned (.int .i64 (sc n zs 0 n lines line ended).1) ∧
      w' = w.alloc (.cells #[.int .i64 (sc n zs 0 n lines line ended).2.1, .int .i64 (sc n zs 0 n lines line ended).2.2.1, .bool (sc n zs 0 n lines line ended).2.2.2] 31) := by
  obtain ⟨T, hT⟩ : ∃ T, T = sc n zs 0 n lines line ended := ⟨_, rfl⟩
  rw [← hT]
  have HT : Hid (T = sc n zs 0 n lines line ended) := hT
  clear hT
  go_enter Try.func13, Try.ntmps13
  go_wp2
  go_loopw [5, 12] (fun f i wr => ∃ (k : Nat) (F L S : Int) (E : Bool), k ≤ n ∧ i = .int .i64 k ∧ f = .int .i64 F ∧ lines ≤ L ∧ L ≤ lines + k ∧
      wr = w.alloc (.cells #[.int .i64 L, .int .i64 S, .bool E] 31) ∧ Hid (T = sc n (zs.drop k) k F L S E)) (fun _ i _ => n - (intOf i).toNat)
  case atStart => exact ⟨0, n, lines, line, ended, Nat.zero_le _, rfl, rfl, by omega, by omega, rfl, HT⟩
  case round =>
    obtain ⟨k, F, L, S, E, hk, rfl, rfl, hl1, hl2, rfl, hS⟩ := hrel
    by_cases hlt : k < n
    · rcases hrow with rfl | ⟨b, off, rfl, hb, hcell⟩
      · simp at hz; omega
      obtain ⟨c, hc⟩ : ∃ c, c = zs.getD k 0 := ⟨_, rfl⟩
      have hcc : ∀ X, (w.alloc X).cell? ⟨b, off + k, none⟩ = some (.int .u8 c) := by
        intro X
        rw [hc, ← hcell k (by omega)]
        exact World.cell?_of_block (w := w) (Below.heap_alloc w X b hb)
      have HS : Hid (T = sc n (c :: zs.drop (k + 1)) k F L S E) := by rw [hc, ← drop_cons (by omega)]; exact hS.out
      clear hS hc hcell HT
      cases E
      · by_cases h10 : c = 10
        · subst h10
          by_cases hS2 : S = 2
          · subst hS2
            by_cases hF : F = n
            · subst hF
              by_cases hL : 101 < L + 1
              · go_wp2
                go_roundw
                case rel => exact ⟨k + 1, k, L + 1, 0, false, by omega, by go_num, rfl, by omega, by omega, rfl, st_long HS.out rfl hL⟩
                case measure => simp [intOf]; omega
              · go_wp2
                go_roundw
                case rel => exact ⟨k + 1, n, L + 1, 0, false, by omega, by go_num, rfl, by omega, by omega, rfl, st_line HS.out (fun h => hL h.2)⟩
                case measure => simp [intOf]; omega
            · have hFb : (F == (n : Int)) = false := by simpa using hF
              go_wp2
              go_roundw
              case rel => exact ⟨k + 1, F, L + 1, 0, false, by omega, by go_num, rfl, by omega, by omega, rfl, st_line HS.out (fun h => hF h.1)⟩
              case measure => simp [intOf]; omega
          · have hSb : (S == 2) = false := by simpa using hS2
            go_wp2
            go_roundw
            case rel => exact ⟨k + 1, F, L, 0, decide (0 < L), by omega, by go_num, rfl, by omega, by omega, rfl, st_empty HS.out hS2⟩
            case measure => simp [intOf]; omega
        · have h10b : (c == 10) = false := by simpa using h10
          by_cases h13 : c = 13
          · subst h13
            by_cases hS0 : S = 0
            · subst hS0
              go_wp2
              go_roundw
              case rel => exact ⟨k + 1, F, L, 1, false, by omega, by go_num, rfl, by omega, by omega, rfl, st_cr HS.out⟩
              case measure => simp [intOf]; omega
            · have hSb : (S == 0) = false := by simpa using hS0
              go_wp2
              go_roundw
              case rel => exact ⟨k + 1, F, L, 2, false, by omega, by go_num, rfl, by omega, by omega, rfl, st_text HS.out (by omega) (fun h => hS0 h.2)⟩
              case measure => simp [intOf]; omega
          · have h13b : (c == 13) = false := by simpa using h13
            go_wp2
            go_roundw
            case rel => exact ⟨k + 1, F, L, 2, false, by omega, by go_num, rfl, by omega, by omega, rfl, st_text HS.out h10 (fun h => h13 h.1)⟩
            case measure => simp [intOf]; omega
      · have HE := st_stop HS.out
        go_wp2
        go_ret
        rw [HE]
        exact ⟨rfl, rfl⟩
    · have HE : T = (F, L, S, E) := st_end (n := n) (i := k) (by rw [← List.drop_of_length_le (l := zs) (i := k) (by omega)]; exact hS.out)
      go_wp2
      go_ret
      rw [HE]
      exact ⟨rfl, rfl⟩

end Go.Proofs.Qxb6619291a
