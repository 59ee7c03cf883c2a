/-
  THE WALK of FnRsyncURICutAndSingleton (3) on a slice that is not nil.
-/
import Derived.Test.Qxb6619483aCopy
namespace Go.Proofs.Qxb6619483a
open Go.ChangeShapes Go.WideShapes Go.ChangeAt Go.RowKit

set_option maxHeartbeats 4000000 in
set_option maxRecDepth 100000 in
theorem law_some (x : Addr) (n cap c : Nat) (j : Int) (S : Nat → ByteArray) (w : World) (hn : n ≤ 1048576) (hc : c ≤ n) (hcell : ∀ i, i < n → w.cell? (x.add i) = some (.string (S i))) (hS : SRow w (some x) n S) (hsz : ∀ i, i < n → (S i).size ≤ maxLen) :
    Calls Try.prog 3 #[.slice (some x) n cap, .int .i64 c, .int .i64 j] w fun e w' => e = .returned (.bool true) ∧ Below w.heap.size w w' := by
  have hnn := fun (w : World) (a : Option Addr) (n c : Nat) => run_neq_slice_nil_any (P := Try.prog) w 22 9 a n c 0 0 Try.underlying22
  have hmk := run_make_row' (P := Try.prog) 22 9 (.string ByteArray.empty) 16 Try.underlying22 Try.info9 rfl .i64 .i64 n (by omega) (by omega)
  have HS : Hid (∀ i, i < n → (S i).size ≤ maxLen) := hsz
  have HCl : Hid (∀ i, i < n → w.cell? (x.add i) = some (.string (S i))) := hcell
  clear hsz hcell
  go_enter Try.func3, Try.ntmps3
  go_wp2_with (first
    | (go_at_call 4; refine (bytes4_any (some x) n cap _ _ S w hn hS).mono ?_; rintro e w' ⟨⟨r, rfl⟩, rfl⟩)
    | (with_reducible (show wpList _ _ _ ({ dst := some 28, op := _, type := _, pos := _, after := _, guard := _ } :: _) _ _); refine wp_copy_strs x n cap S rfl (.tmp 26) (.tmp 27) rfl rfl rfl HCl.out ?_; intro w1 hr1 hb1))
  · go_ret
    exact ⟨rfl, Below.refl _ _⟩
  clear hS HCl
  go_loop [8, 9] (fun z i => ∃ (k : Nat) (t : Int), k ≤ n ∧ i = .int .i64 k ∧ z = .int .i64 t) (fun _ i => n - (intOf i).toNat)
  case atStart => exact ⟨0, _, Nat.zero_le _, rfl, rfl⟩
  case round =>
    obtain ⟨k, t, hk, rfl, rfl⟩ := hrel
    by_cases hlt : k < n
    · rcases hr1 with rfl | ⟨b, off, he, hb, hcl⟩
      · omega
      cases he
      have hcx := hcl k hlt
      clear hcl
      rw [Nat.zero_add] at hcx
      go_wp2
      · go_ret
        exact ⟨rfl, hb1⟩
      · go_round
        case rel => exact ⟨k + 1, _, by omega, by go_num, rfl⟩
        case measure => simp [intOf]; omega
    · obtain ⟨f, HF⟩ : ∃ f, Hid (fr S 0 c = f) := ⟨_, rfl⟩
      obtain ⟨bk, HB⟩ : ∃ bk, Hid (fr (fun i => S (c + i)) 0 (n - c) = bk) := ⟨_, rfl⟩
      have HWh := fr_whole S n c hc
      rw [HF.out, HB.out] at HWh
      obtain ⟨wh, HW⟩ : ∃ wh, Hid (fr S 0 n = wh) := ⟨_, rfl⟩
      rw [HW.out] at HWh
      have hr0 := hr1.front 0 (Nat.zero_le _)
      have hrf := hr1.front c hc
      have hrb := hr1.back c (n - c) (by omega)
      rw [Nat.zero_add] at hrb
      have HSf : Hid (∀ i, i < c → (S i).size ≤ maxLen) := fun i hi => HS.out i (by omega)
      have HSb : Hid (∀ i, i < n - c → (S (c + i)).size ≤ maxLen) := fun i hi => HS.out (c + i) (by omega)
      have hemp := empty_isEmpty
      have HZ : Hid (fr S 0 0 = ByteArray.empty) := rfl
      by_cases hcn : c = n
      · have hcn' : n = c := hcn.symm
        subst hcn'
        have HB0 : Hid (fr S 0 0 = bk) := by
          have := HB.out
          rw [Nat.sub_self] at this
          exact this
        clear hrb HSb HSf hrf HB
        cases hE : f.toList.isEmpty
        · rw [hE] at HWh
          simp only [Bool.false_eq_true, if_false] at HWh
          subst HWh
          go_wp2_with fail
          refine (rsync_at _ n n S _ hn hr1 HS.out HW).mono ?_
          rintro e w2 ⟨rfl, rfl⟩
          go_wp2_with fail
          refine (rsync_at _ n n S _ hn hr1 HS.out HF).mono ?_
          rintro e w3 ⟨rfl, rfl⟩
          go_wp2_with fail
          refine (rsync_at _ 0 0 S _ (by omega) (.inl rfl) (fun i hi => by omega) HB0).mono ?_
          rintro e w4 ⟨rfl, rfl⟩
          go_wp2_with fail
          refine (rsync_at _ 0 n S _ (by omega) hr0 (fun i hi => by omega) HZ).mono ?_
          rintro e w5 ⟨rfl, rfl⟩
          by_cases hj0 : j < 0
          · go_wp2
            go_ret
            exact ⟨rfl, hb1⟩
          · by_cases hjn : (n : Int) ≤ j
            · go_wp2
              go_ret
              exact ⟨rfl, hb1⟩
            · obtain ⟨m, rfl⟩ : ∃ m : Nat, j = m := ⟨j.toNat, by omega⟩
              have hmn : m < n := by omega
              have hrm := hr1.back m 1 (by omega)
              rw [Nat.zero_add] at hrm
              have HSm : Hid (∀ i, i < 1 → (S (m + i)).size ≤ maxLen) := fun i hi => HS.out (m + i) (by omega)
              have hzm : (S m).size ≤ maxLen := HS.out m hmn
              have hcm : w1.cell? ⟨w.heap.size, m, none⟩ = some (.string (S m)) := by
                rcases hr1 with h0 | ⟨b, off, he, hb, hcl⟩
                · omega
                · cases he
                  have := hcl m hmn
                  rw [Nat.zero_add] at this
                  exact this
              have HG := fr_single S m
              clear hj0 hjn hr0
              cases hi : isR (S m)
              · rw [hi] at HG
                have HGH : Hid (fr (fun i => S (m + i)) 0 1 = ByteArray.empty) := HG
                clear HG
                go_wp2_with fail
                refine (rsync_at _ 1 (n - m) (fun i => S (m + i)) _ (by omega) hrm HSm.out HGH).mono ?_
                rintro e w6 ⟨rfl, rfl⟩
                go_wp2_with fail
                refine (zzIs_any (S m) _ hzm).mono ?_
                rintro e w7 ⟨rfl, hb7⟩
                go_wp2
                go_ret
                exact ⟨rfl, hb1.trans (hb7.mono hb1.size)⟩
              · rw [hi] at HG
                have HGH : Hid (fr (fun i => S (m + i)) 0 1 = S m) := HG
                clear HG
                go_wp2_with fail
                refine (rsync_at _ 1 (n - m) (fun i => S (m + i)) _ (by omega) hrm HSm.out HGH).mono ?_
                rintro e w6 ⟨rfl, rfl⟩
                go_wp2_with fail
                refine (zzIs_any (S m) _ hzm).mono ?_
                rintro e w7 ⟨rfl, hb7⟩
                have hcm7 : w7.cell? ⟨w.heap.size, m, none⟩ = some (.string (S m)) := (hb7.cell (p := ⟨w.heap.size, m, none⟩) (World.block_lt_of_cell? w1 _ hcm)).trans hcm
                go_wp2
                go_ret
                exact ⟨rfl, hb1.trans (hb7.mono hb1.size)⟩
        · rw [hE] at HWh
          simp only [if_true] at HWh
          subst HWh
          go_wp2_with fail
          refine (rsync_at _ n n S _ hn hr1 HS.out HW).mono ?_
          rintro e w2 ⟨rfl, rfl⟩
          go_wp2_with fail
          refine (rsync_at _ n n S _ hn hr1 HS.out HF).mono ?_
          rintro e w3 ⟨rfl, rfl⟩
          go_wp2_with fail
          refine (rsync_at _ 0 0 S _ (by omega) (.inl rfl) (fun i hi => by omega) HB0).mono ?_
          rintro e w4 ⟨rfl, rfl⟩
          go_wp2_with fail
          refine (rsync_at _ 0 n S _ (by omega) hr0 (fun i hi => by omega) HZ).mono ?_
          rintro e w5 ⟨rfl, rfl⟩
          by_cases hj0 : j < 0
          · go_wp2
            go_ret
            exact ⟨rfl, hb1⟩
          · by_cases hjn : (n : Int) ≤ j
            · go_wp2
              go_ret
              exact ⟨rfl, hb1⟩
            · obtain ⟨m, rfl⟩ : ∃ m : Nat, j = m := ⟨j.toNat, by omega⟩
              have hmn : m < n := by omega
              have hrm := hr1.back m 1 (by omega)
              rw [Nat.zero_add] at hrm
              have HSm : Hid (∀ i, i < 1 → (S (m + i)).size ≤ maxLen) := fun i hi => HS.out (m + i) (by omega)
              have hzm : (S m).size ≤ maxLen := HS.out m hmn
              have hcm : w1.cell? ⟨w.heap.size, m, none⟩ = some (.string (S m)) := by
                rcases hr1 with h0 | ⟨b, off, he, hb, hcl⟩
                · omega
                · cases he
                  have := hcl m hmn
                  rw [Nat.zero_add] at this
                  exact this
              have HG := fr_single S m
              clear hj0 hjn hr0
              cases hi : isR (S m)
              · rw [hi] at HG
                have HGH : Hid (fr (fun i => S (m + i)) 0 1 = ByteArray.empty) := HG
                clear HG
                go_wp2_with fail
                refine (rsync_at _ 1 (n - m) (fun i => S (m + i)) _ (by omega) hrm HSm.out HGH).mono ?_
                rintro e w6 ⟨rfl, rfl⟩
                go_wp2_with fail
                refine (zzIs_any (S m) _ hzm).mono ?_
                rintro e w7 ⟨rfl, hb7⟩
                go_wp2
                go_ret
                exact ⟨rfl, hb1.trans (hb7.mono hb1.size)⟩
              · rw [hi] at HG
                have HGH : Hid (fr (fun i => S (m + i)) 0 1 = S m) := HG
                clear HG
                go_wp2_with fail
                refine (rsync_at _ 1 (n - m) (fun i => S (m + i)) _ (by omega) hrm HSm.out HGH).mono ?_
                rintro e w6 ⟨rfl, rfl⟩
                go_wp2_with fail
                refine (zzIs_any (S m) _ hzm).mono ?_
                rintro e w7 ⟨rfl, hb7⟩
                have hcm7 : w7.cell? ⟨w.heap.size, m, none⟩ = some (.string (S m)) := (hb7.cell (p := ⟨w.heap.size, m, none⟩) (World.block_lt_of_cell? w1 _ hcm)).trans hcm
                go_wp2
                go_ret
                exact ⟨rfl, hb1.trans (hb7.mono hb1.size)⟩
      · have hcl : c < n := by omega
        cases hE : f.toList.isEmpty
        · rw [hE] at HWh
          simp only [Bool.false_eq_true, if_false] at HWh
          subst HWh
          go_wp2_with fail
          refine (rsync_at _ n n S _ hn hr1 HS.out HW).mono ?_
          rintro e w2 ⟨rfl, rfl⟩
          go_wp2_with fail
          refine (rsync_at _ c n S _ (by omega) hrf HSf.out HF).mono ?_
          rintro e w3 ⟨rfl, rfl⟩
          go_wp2_with fail
          refine (rsync_at _ (n - c) (n - c) (fun i => S (c + i)) _ (by omega) hrb HSb.out HB).mono ?_
          rintro e w4 ⟨rfl, rfl⟩
          go_wp2_with fail
          refine (rsync_at _ 0 n S _ (by omega) hr0 (fun i hi => by omega) HZ).mono ?_
          rintro e w5 ⟨rfl, rfl⟩
          by_cases hj0 : j < 0
          · go_wp2
            go_ret
            exact ⟨rfl, hb1⟩
          · by_cases hjn : (n : Int) ≤ j
            · go_wp2
              go_ret
              exact ⟨rfl, hb1⟩
            · obtain ⟨m, rfl⟩ : ∃ m : Nat, j = m := ⟨j.toNat, by omega⟩
              have hmn : m < n := by omega
              have hrm := hr1.back m 1 (by omega)
              rw [Nat.zero_add] at hrm
              have HSm : Hid (∀ i, i < 1 → (S (m + i)).size ≤ maxLen) := fun i hi => HS.out (m + i) (by omega)
              have hzm : (S m).size ≤ maxLen := HS.out m hmn
              have hcm : w1.cell? ⟨w.heap.size, m, none⟩ = some (.string (S m)) := by
                rcases hr1 with h0 | ⟨b, off, he, hb, hcl⟩
                · omega
                · cases he
                  have := hcl m hmn
                  rw [Nat.zero_add] at this
                  exact this
              have HG := fr_single S m
              clear hj0 hjn hr0 hrf hrb
              cases hi : isR (S m)
              · rw [hi] at HG
                have HGH : Hid (fr (fun i => S (m + i)) 0 1 = ByteArray.empty) := HG
                clear HG
                go_wp2_with fail
                refine (rsync_at _ 1 (n - m) (fun i => S (m + i)) _ (by omega) hrm HSm.out HGH).mono ?_
                rintro e w6 ⟨rfl, rfl⟩
                go_wp2_with fail
                refine (zzIs_any (S m) _ hzm).mono ?_
                rintro e w7 ⟨rfl, hb7⟩
                go_wp2
                go_ret
                exact ⟨rfl, hb1.trans (hb7.mono hb1.size)⟩
              · rw [hi] at HG
                have HGH : Hid (fr (fun i => S (m + i)) 0 1 = S m) := HG
                clear HG
                go_wp2_with fail
                refine (rsync_at _ 1 (n - m) (fun i => S (m + i)) _ (by omega) hrm HSm.out HGH).mono ?_
                rintro e w6 ⟨rfl, rfl⟩
                go_wp2_with fail
                refine (zzIs_any (S m) _ hzm).mono ?_
                rintro e w7 ⟨rfl, hb7⟩
                have hcm7 : w7.cell? ⟨w.heap.size, m, none⟩ = some (.string (S m)) := (hb7.cell (p := ⟨w.heap.size, m, none⟩) (World.block_lt_of_cell? w1 _ hcm)).trans hcm
                go_wp2
                go_ret
                exact ⟨rfl, hb1.trans (hb7.mono hb1.size)⟩
        · rw [hE] at HWh
          simp only [if_true] at HWh
          subst HWh
          go_wp2_with fail
          refine (rsync_at _ n n S _ hn hr1 HS.out HW).mono ?_
          rintro e w2 ⟨rfl, rfl⟩
          go_wp2_with fail
          refine (rsync_at _ c n S _ (by omega) hrf HSf.out HF).mono ?_
          rintro e w3 ⟨rfl, rfl⟩
          go_wp2_with fail
          refine (rsync_at _ (n - c) (n - c) (fun i => S (c + i)) _ (by omega) hrb HSb.out HB).mono ?_
          rintro e w4 ⟨rfl, rfl⟩
          go_wp2_with fail
          refine (rsync_at _ 0 n S _ (by omega) hr0 (fun i hi => by omega) HZ).mono ?_
          rintro e w5 ⟨rfl, rfl⟩
          by_cases hj0 : j < 0
          · go_wp2
            go_ret
            exact ⟨rfl, hb1⟩
          · by_cases hjn : (n : Int) ≤ j
            · go_wp2
              go_ret
              exact ⟨rfl, hb1⟩
            · obtain ⟨m, rfl⟩ : ∃ m : Nat, j = m := ⟨j.toNat, by omega⟩
              have hmn : m < n := by omega
              have hrm := hr1.back m 1 (by omega)
              rw [Nat.zero_add] at hrm
              have HSm : Hid (∀ i, i < 1 → (S (m + i)).size ≤ maxLen) := fun i hi => HS.out (m + i) (by omega)
              have hzm : (S m).size ≤ maxLen := HS.out m hmn
              have hcm : w1.cell? ⟨w.heap.size, m, none⟩ = some (.string (S m)) := by
                rcases hr1 with h0 | ⟨b, off, he, hb, hcl⟩
                · omega
                · cases he
                  have := hcl m hmn
                  rw [Nat.zero_add] at this
                  exact this
              have HG := fr_single S m
              clear hj0 hjn hr0 hrf hrb
              cases hi : isR (S m)
              · rw [hi] at HG
                have HGH : Hid (fr (fun i => S (m + i)) 0 1 = ByteArray.empty) := HG
                clear HG
                go_wp2_with fail
                refine (rsync_at _ 1 (n - m) (fun i => S (m + i)) _ (by omega) hrm HSm.out HGH).mono ?_
                rintro e w6 ⟨rfl, rfl⟩
                go_wp2_with fail
                refine (zzIs_any (S m) _ hzm).mono ?_
                rintro e w7 ⟨rfl, hb7⟩
                go_wp2
                go_ret
                exact ⟨rfl, hb1.trans (hb7.mono hb1.size)⟩
              · rw [hi] at HG
                have HGH : Hid (fr (fun i => S (m + i)) 0 1 = S m) := HG
                clear HG
                go_wp2_with fail
                refine (rsync_at _ 1 (n - m) (fun i => S (m + i)) _ (by omega) hrm HSm.out HGH).mono ?_
                rintro e w6 ⟨rfl, rfl⟩
                go_wp2_with fail
                refine (zzIs_any (S m) _ hzm).mono ?_
                rintro e w7 ⟨rfl, hb7⟩
                have hcm7 : w7.cell? ⟨w.heap.size, m, none⟩ = some (.string (S m)) := (hb7.cell (p := ⟨w.heap.size, m, none⟩) (World.block_lt_of_cell? w1 _ hcm)).trans hcm
                go_wp2
                go_ret
                exact ⟨rfl, hb1.trans (hb7.mono hb1.size)⟩

end Go.Proofs.Qxb6619483a
