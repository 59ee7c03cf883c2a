/-
  THE WALK of unquoteByRuns (9).
-/
import Derived.Test.Qxb6619350aRuns
namespace Go.Proofs.Qxb6619350a
open Go.ChangeShapes Go.WideShapes Go.ChangeAt Go.RowKit

/-! ### The steps, in plain words -/
section
variable {s : ByteArray} {k n : Nat} {F : Option Nat}
theorem fs_end (hk : k < s.size) (h : F = fi (s.data.toList.drop k) n k) (h34 : (s[k].toNat : Int) = 34) (hp : n % 2 = 0) : F = some k := by
  rw [h, drop_byte s k hk, byte_eq s[k] 34 (by omega) h34]; simp [fi, hp]
theorem fs_odd (hk : k < s.size) (h : F = fi (s.data.toList.drop k) n k) (h34 : (s[k].toNat : Int) = 34) (hp : ¬ n % 2 = 0) : F = fi (s.data.toList.drop (k + 1)) 0 (k + 1) := by
  rw [h, drop_byte s k hk, byte_eq s[k] 34 (by omega) h34]; simp [fi, hp]
theorem fs_bs (hk : k < s.size) (h : F = fi (s.data.toList.drop k) n k) (h92 : (s[k].toNat : Int) = 92) : F = fi (s.data.toList.drop (k + 1)) (n + 1) (k + 1) := by
  rw [h, drop_byte s k hk, byte_eq s[k] 92 (by omega) h92]; simp [fi]
theorem fs_else (hk : k < s.size) (h : F = fi (s.data.toList.drop k) n k) (h34 : ¬ (s[k].toNat : Int) = 34) (h92 : ¬ (s[k].toNat : Int) = 92) : F = fi (s.data.toList.drop (k + 1)) 0 (k + 1) := by
  rw [h, drop_byte s k hk]
  have a : ¬ s[k] = 34 := byte_ne s[k] 34 (by omega) h34
  have b : ¬ s[k] = 92 := byte_ne s[k] 92 (by omega) h92
  simp [fi, a, b]
theorem fs_none (hk : s.size ≤ k) (h : F = fi (s.data.toList.drop k) n k) : F = none := by
  rw [h, List.drop_of_length_le (by simp; exact hk)]; rfl
end

theorem backslashes_int (base : Nat) (v : Value) (acc : List UInt8) (N : Int) (n : Nat) (hN : N = n) (w : World) (hown : OwnB w base v acc) (hb : base ≤ w.heap.size) (hn : n ≤ 1048576) (hlen : acc.length ≤ 1048576) :
    Calls Try.prog 17 #[v, .int .i64 N] w fun e w' => ∃ v', e = .returned v' ∧ OwnB w' base v' (acc ++ List.replicate n 92) ∧ Below base w w' := by
  subst hN
  exact backslashes_any base v acc n w hown hb hn hlen

theorem take_drop_byte {s : ByteArray} {k m : Nat} (h : m < k) (hs : m < s.size) : (s.data.toList.take k).drop m = s[m] :: (s.data.toList.take k).drop (m + 1) := by
  have hsz : s.data.toList.length = s.size := by simp
  have hl : m < (s.data.toList.take k).length := by rw [List.length_take, hsz]; omega
  rw [List.drop_eq_getElem_cons hl, List.getElem_take]
  rfl

set_option maxHeartbeats 4000000 in
set_option maxRecDepth 100000 in
theorem runs_at {t : List UInt8} {ok : Bool} (s : ByteArray) (w : World) (hs : s.size ≤ 1048576) (hT : Hid (uqR (cm (s.data.toList.drop 1) 0 []) = (t, ok))) :
    Calls Try.prog 9 #[.string s] w fun e w' => e = .returned (.tuple #[.string ⟨t.toArray⟩, .bool ok]) ∧ Below w.heap.size w w' := by
  obtain ⟨i0, hi, hz0, hz1, hz2⟩ := info_parts Try.info5
  obtain ⟨F, hF⟩ : ∃ F, F = fi (s.data.toList.drop 1) 0 1 := ⟨_, rfl⟩
  have HF : Hid (F = fi (s.data.toList.drop 1) 0 1) := hF
  clear hF
  go_enter Try.func9, Try.ntmps9
  go_wp2
  go_loop [4, 5, 6] (fun e r j => ∃ (k n : Nat), 1 ≤ k ∧ k ≤ s.size + 1 ∧ n ≤ k ∧ e = .int .i64 (-1) ∧ r = .int .i64 n ∧ j = .int .i64 k ∧ Hid (F = fi (s.data.toList.drop k) n k)) (fun _ _ j => s.size + 1 - (intOf j).toNat)
  case atStart => exact ⟨1, 0, by omega, by omega, by omega, rfl, rfl, rfl, HF⟩
  case round =>
    obtain ⟨k, n, hk1, hk2, hnk, rfl, rfl, rfl, hS⟩ := hrel
    by_cases hlt : k < s.size
    · by_cases h34 : (s[k].toNat : Int) = 34
      · by_cases hp : n % 2 = 0
        · have hpb : ((n : Int) % 2 == 0) = true := by simp; omega
          have HE := fs_end hlt hS.out h34 hp
          subst HE
          have HC : cm (s.data.toList.drop 1) 0 [] = _ := cm_some _ _ 1 k [] HF.out.symm
          have HX := hT.out
          rw [HC] at HX
          have hsz : s.data.toList.length = s.size := by simp
          have HT1 : Hid (t = rb ((s.data.toList.take k).drop 1) 0 []) := by
            have e : (s.data.toList.drop 1).take (k - 1) = (s.data.toList.take k).drop 1 := by rw [List.drop_take]
            rw [e] at HX
            cases HX; rfl
          have HT2 : Hid (ok = ((k : Int) == (s.size : Int) - 1)) := by
            have h2 : ok = decide (k + 1 = 1 + (s.data.toList.drop 1).length) := by cases HX; rfl
            rw [h2, List.length_drop, hsz, Hid, Bool.eq_iff_iff]
            simp
            omega
          clear hS HC HX HF hT hsz
          go_wp2_with (at_make; refine wpList_make_own _ rfl _ _ 27 rfl w.heap.size 5 i0 (.int .u8 0) 1 Try.underlying27 hi hz0 hz1 _ _ _ k rfl rfl (by omega) (by rw [hz2]; omega) (by unfold maxLen; omega) (Nat.le_refl _) ?_; intro w1 hown1 hgrow1; have hB1 : Below w.heap.size w w1 := (Below.refl _ _).grown hgrow1 (Nat.le_refl _) (fun k hk => by cases hk); have HO1 : Hid (OwnB w1 w.heap.size (.slice (some ⟨w.heap.size, 0, none⟩) 0 k) []) := hown1; clear hown1 hgrow1)
          go_loopw [7, 8, 9] (fun v q i wr => ∃ (m n : Nat) (acc : List UInt8), 1 ≤ m ∧ m ≤ k ∧ acc.length + n ≤ m ∧ q = .int .i64 n ∧ i = .int .i64 m ∧ OwnB wr w.heap.size v acc ∧ Below w.heap.size w wr ∧ Hid (t = rb ((s.data.toList.take k).drop m) n acc)) (fun _ _ i _ => k - (intOf i).toNat)
          case atStart => exact ⟨1, 0, [], by omega, by omega, by simp, rfl, rfl, HO1.out, hB1, HT1⟩
          case round =>
            obtain ⟨m, q, acc, hm1, hm2, hmq, rfl, rfl, hO, hBr, hR⟩ := hrel
            have HK : Hid (OwnB wr w.heap.size _ acc) := hO
            have hbr : w.heap.size ≤ wr.heap.size := hBr.size
            clear hO HO1 HT1 hB1 hpb
            by_cases hml : m < k
            · have hms : m < s.size := by omega
              have hdm : (s.data.toList.take k).drop m = s[m] :: (s.data.toList.take k).drop (m + 1) := take_drop_byte hml hms
              by_cases h92 : (s[m].toNat : Int) = 92
              · have HN : Hid (t = rb ((s.data.toList.take k).drop (m + 1)) (q + 1) acc) := by
                  rw [hR.out, hdm, byte_eq s[m] 92 (by omega) h92]; simp [rb, Hid]
                clear hR hdm h34
                go_wp2
                go_roundw
                case rel => exact ⟨m + 1, q + 1, acc, by omega, by omega, by omega, by go_num, by go_num, HK.out, hBr, HN⟩
                case measure => simp [intOf]; omega
              · have b92 : ((s[m].toNat : Int) == 92) = false := by simpa using h92
                have n92 : ¬ s[m] = 92 := byte_ne s[m] 92 (by omega) h92
                have HN : Hid (t = rb ((s.data.toList.take k).drop (m + 1)) 0 ((acc ++ List.replicate (q / 2) 92) ++ [s[m]])) := by
                  rw [hR.out, hdm]; simp [rb, n92, Hid]
                clear hR hdm h34 h92 n92
                have hal : (acc ++ List.replicate (q / 2) 92).length ≤ 140737488355327 := by simp; omega
                go_wp2_with (first
                  | (go_at_call 17; refine (backslashes_int w.heap.size _ acc _ (q / 2) (by omega) wr HK.out hbr (by omega) (by omega)).mono ?_; rintro e w2 ⟨v2, rfl, hO2, hB2⟩)
                  | (at_builtin; refine wp_append_byte w.heap.size _ (acc ++ List.replicate (q / 2) 92) s[m] rfl (.tmp 51) (.tmp 55) rfl rfl rfl hO2 (Nat.le_trans hbr hB2.size) hal ?_; intro v3 w3 hO3 hB3))
                go_roundw
                case rel => exact ⟨m + 1, 0, (acc ++ List.replicate (q / 2) 92) ++ [s[m]], by omega, by omega, by simp; omega, rfl, by go_num, hO3, hBr.trans (hB2.trans hB3), HN⟩
                case measure => simp [intOf]; omega
            · obtain rfl : m = k := by omega
              have HE : t = acc ++ List.replicate (q / 2) 92 := by
                rw [hR.out, List.drop_of_length_le (by rw [List.length_take]; omega)]; rfl
              have HK2 := HT2.out
              subst HE
              subst HK2
              clear hR HT2
              go_wp2_with (go_at_call 17; refine (backslashes_int w.heap.size _ acc _ (q / 2) (by omega) wr HK.out hbr (by omega) (by omega)).mono ?_; rintro e w2 ⟨v2, rfl, hO2, hB2⟩; have hcv := hO2.text)
              go_ret2
              exact ⟨rfl, hBr.trans hB2⟩
        · have hpb : ((n : Int) % 2 == 0) = false := by simp; omega
          have HN := fs_odd hlt hS.out h34 hp
          have HNH : Hid (F = fi (s.data.toList.drop (k + 1)) 0 (k + 1)) := HN
          clear HN hS HF
          go_wp2
          go_round
          case rel => exact ⟨k + 1, 0, by omega, by omega, by omega, rfl, rfl, by go_num, HNH⟩
          case measure => simp [intOf]; omega
      · have b34 : ((s[k].toNat : Int) == 34) = false := by simpa using h34
        by_cases h92 : (s[k].toNat : Int) = 92
        · have HNH : Hid (F = fi (s.data.toList.drop (k + 1)) (n + 1) (k + 1)) := fs_bs hlt hS.out h92
          clear hS HF h34
          go_wp2
          go_round
          case rel => exact ⟨k + 1, n + 1, by omega, by omega, by omega, rfl, by go_num, by go_num, HNH⟩
          case measure => simp [intOf]; omega
        · have b92 : ((s[k].toNat : Int) == 92) = false := by simpa using h92
          have HNH : Hid (F = fi (s.data.toList.drop (k + 1)) 0 (k + 1)) := fs_else hlt hS.out h34 h92
          clear hS HF h34 h92
          go_wp2
          go_round
          case rel => exact ⟨k + 1, 0, by omega, by omega, by omega, rfl, rfl, by go_num, HNH⟩
          case measure => simp [intOf]; omega
    · have HE := fs_none (by omega) hS.out
      subst HE
      have HC : cm (s.data.toList.drop 1) 0 [] = none := cm_none _ _ 1 _ HF.out.symm
      have HX := hT.out
      rw [HC] at HX
      obtain ⟨rfl, rfl⟩ : t = [] ∧ ok = false := by cases HX; exact ⟨rfl, rfl⟩
      clear HC hS HF hT HX
      go_wp2
      go_ret2
      exact ⟨rfl, Below.refl _ _⟩

set_option maxHeartbeats 4000000 in
theorem parity_all (s : ByteArray) (w : World) (hs : s.size ≤ maxLen) :
    Calls Try.prog 3 #[.string s] w fun e w' => e = .returned (.bool true) ∧ Below w.heap.size w w' := by
  unfold maxLen at hs
  by_cases hbig : 1048576 < s.size
  · go_enter Try.func3, Try.ntmps3
    go_wp2
    go_ret
    exact ⟨rfl, Below.refl _ _⟩
  have hs' : s.size ≤ 1048576 := by omega
  obtain ⟨t, ok, H1⟩ : ∃ t ok, Hid (uqR (uq (s.data.toList.drop 1) []) = (t, ok)) := ⟨_, _, rfl⟩
  have H2 : Hid (uqR (cm (s.data.toList.drop 1) 0 []) = (t, ok)) := by rw [← uq_cm]; exact H1
  go_enter Try.func3, Try.ntmps3
  go_wp2_with (first
    | (go_at_call 7; go_in)
    | (go_at_call 8; refine (zzUnquote_at s w hs' H1).mono ?_; rintro e w1 ⟨rfl, hb1⟩)
    | (go_at_call 9; refine (runs_at s _ hs' H2).mono ?_; rintro e w2 ⟨rfl, hb2⟩))
  go_ret
  exact ⟨rfl, hb1.trans (hb2.mono hb1.size)⟩

end Go.Proofs.Qxb6619350a
