/-
  THE WALKS of arrivalOf (16), headEnds (17), expectArrival (12), ZZArrivalOf (11).
-/
import Derived.Test.Qxb6619291aCut
namespace Go.Proofs.Qxb6619291a
open Go.ChangeShapes Go.WideShapes Go.ChangeAt Go.RowKit
open Plain

/-- What has arrived: 2 the headers whole, 3 enough to serve, 1 a part of the headers. -/
def arrv (n : Nat) (p : Int) (E : Bool) : Int := if E = true then 2 else if p ≤ n then 3 else 1

theorem scan_fresh (a : Option Addr) (n cap : Nat) (zs : List Int) (w : World) (hz : zs.length = n) (hrow : Row w a zs) (hn : n ≤ 1048576) :
    Calls Try.prog 13 #[.pointer (some ⟨w.heap.size, 0, none⟩), .slice a n cap] (w.alloc (.cells #[.int .i64 0, .int .i64 0, .bool false] 31)) fun e w' =>
      ∃ f l s, e = .returned (.int .i64 f) ∧ w' = w.alloc (.cells #[.int .i64 l, .int .i64 s, .bool (he zs [] false)] 31) := by
  refine (scan_any 0 0 false a n cap zs w hz hrow hn (by omega) (by omega)).mono ?_
  rintro e w' ⟨h1, h2⟩
  rw [sc_he] at h2
  exact ⟨_, _, _, h1, h2⟩

set_option maxHeartbeats 1000000 in
theorem arrivalOf_any (a : Option Addr) (n cap : Nat) (p : Int) (zs : List Int) (w : World) (hz : zs.length = n) (hrow : Row w a zs) (hn : n ≤ 1048576) :
    Calls Try.prog 16 #[.slice a n cap, .int .i64 p] w fun e w' => e = .returned (.int .i64 (arrv n p (he zs [] false))) ∧ Below w.heap.size w w' := by
  cases hE : he zs [] false
  · by_cases hp : p ≤ n
    · have hr : arrv n p false = 3 := by simp [arrv, hp]
      rw [hr]
      clear hr
      go_enter Try.func16, Try.ntmps16
      go_wp2_with (go_at_call 13; refine (scan_fresh a n cap zs w hz hrow hn).mono ?_; rintro e w' ⟨f, l, s, rfl, rfl⟩)
      go_ret
      exact ⟨rfl, (Below.refl _ _).alloc (Nat.le_refl _) _⟩
    · have hr : arrv n p false = 1 := by simp [arrv, hp]
      rw [hr]
      clear hr
      go_enter Try.func16, Try.ntmps16
      go_wp2_with (go_at_call 13; refine (scan_fresh a n cap zs w hz hrow hn).mono ?_; rintro e w' ⟨f, l, s, rfl, rfl⟩)
      go_ret
      exact ⟨rfl, (Below.refl _ _).alloc (Nat.le_refl _) _⟩
  · have hr : arrv n p true = 2 := by simp [arrv]
    rw [hr]
    clear hr
    go_enter Try.func16, Try.ntmps16
    go_wp2_with (go_at_call 13; refine (scan_fresh a n cap zs w hz hrow hn).mono ?_; rintro e w' ⟨f, l, s, rfl, rfl⟩)
    go_ret
    exact ⟨rfl, (Below.refl _ _).alloc (Nat.le_refl _) _⟩

/-! ### headEnds: the steps, in plain words -/
section
variable {r sg : List Int} {c : Int} {seen T : Bool}
theorem ht_end (h : T = he [] sg seen) : T = false := by rw [h, he]
theorem ht_go (h : T = he (c :: r) sg seen) (h1 : ¬ c = 10) : T = he r (sg ++ [c]) seen := by rw [h]; simp [he, h1]
theorem ht_yes (h : T = he (10 :: r) sg true) (h1 : sg.length = 0 ∨ (sg.length = 1 ∧ sg.getD 0 0 = 13)) : T = true := by rw [h]; simp only [he, if_true, if_pos h1]
theorem ht_skip (h : T = he (10 :: r) sg false) (h1 : sg.length = 0 ∨ (sg.length = 1 ∧ sg.getD 0 0 = 13)) : T = he r [] false := by rw [h]; simp only [he, if_true, if_pos h1, Bool.false_eq_true, if_false]
theorem ht_line (h : T = he (10 :: r) sg seen) (h1 : ¬ (sg.length = 0 ∨ (sg.length = 1 ∧ sg.getD 0 0 = 13))) : T = he r [] true := by rw [h]; simp only [he, if_true, if_neg h1]
end

set_option maxHeartbeats 2000000 in
theorem headEnds_any (a : Option Addr) (n cap : Nat) (zs : List Int) (w : World) (hz : zs.length = n) (hrow : Row w a zs) (hn : n ≤ 1048576) (hcap : n ≤ cap) :
    Calls Try.prog 17 #[.slice a n cap] w fun e w' => e = .returned (.bool (he zs [] false)) ∧ w' = w := by
  obtain ⟨T, hT⟩ : ∃ T, T = he zs [] false := ⟨_, rfl⟩
  rw [← hT]
  have HT : Hid (T = he zs [] false) := hT
  clear hT
  go_enter Try.func17, Try.ntmps17
  go_wp2
  go_loop [3, 4, 5] (fun sn st i => ∃ (k s : Nat) (S : Bool), k ≤ n ∧ s ≤ k ∧ i = .int .i64 k ∧ st = .int .i64 s ∧ sn = .bool S ∧ Hid (T = he (zs.drop k) (seg zs s k) S)) (fun _ _ i => n - (intOf i).toNat)
  case atStart => exact ⟨0, 0, false, Nat.zero_le _, Nat.zero_le _, rfl, rfl, rfl, by rw [seg_self]; exact HT⟩
  case round =>
    obtain ⟨k, s, S, hk, hs, rfl, rfl, rfl, hS⟩ := hrel
    by_cases hlt : k < n
    · rcases hrow with rfl | ⟨b, off, rfl, hb, hcell⟩
      · simp at hz; omega
      obtain ⟨c, hc⟩ : ∃ c, c = zs.getD k 0 := ⟨_, rfl⟩
      have hcc : w.cell? ⟨b, off + k, none⟩ = some (.int .u8 c) := by rw [hc, ← hcell k (by omega)]
      have HS : Hid (T = he (c :: zs.drop (k + 1)) (seg zs s k) S) := by rw [hc, ← drop_cons (by omega)]; exact hS.out
      by_cases h10 : c = 10
      · subst h10
        have HLn : Hid ((seg zs s k).length = k - s) := seg_length zs s k (by omega)
        have HZ : Hid (seg zs (k + 1) (k + 1) = []) := seg_self zs (k + 1)
        by_cases h0 : k = s
        · subst h0
          have HY : Hid ((seg zs k k).length = 0 ∨ ((seg zs k k).length = 1 ∧ (seg zs k k).getD 0 0 = 13)) := .inl (by rw [HLn.out]; omega)
          clear hS hc hcell HT
          cases S
          · go_wp2
            go_round
            case rel => exact ⟨k + 1, k + 1, false, by omega, by omega, by go_num, by go_num, rfl, by rw [HZ.out]; exact ht_skip HS.out HY.out⟩
            case measure => simp [intOf]; omega
          · go_wp2
            go_ret
            rw [ht_yes HS.out HY.out]
            exact ⟨rfl, rfl⟩
        · by_cases h1 : k = s + 1
          · subst h1
            obtain ⟨c0, hc0⟩ : ∃ c0, c0 = zs.getD s 0 := ⟨_, rfl⟩
            have hcc0 : w.cell? ⟨b, off + s, none⟩ = some (.int .u8 c0) := by rw [hc0, ← hcell s (by omega)]
            have HG : Hid ((seg zs s (s + 1)).getD 0 0 = c0) := by rw [hc0]; exact seg_head zs s (s + 1) (by omega)
            have HL1 : Hid ((seg zs s (s + 1)).length = 1) := by rw [HLn.out, Hid]; omega
            clear hS hc hcell HT hc0 HLn
            by_cases h13 : c0 = 13
            · subst h13
              have HY : Hid ((seg zs s (s + 1)).length = 0 ∨ ((seg zs s (s + 1)).length = 1 ∧ (seg zs s (s + 1)).getD 0 0 = 13)) := .inr ⟨HL1.out, HG.out⟩
              cases S
              · go_wp2
                go_round
                case rel => exact ⟨s + 1 + 1, s + 1 + 1, false, by omega, by omega, by go_num, by go_num, rfl, by rw [HZ.out]; exact ht_skip HS.out HY.out⟩
                case measure => simp [intOf]; omega
              · go_wp2
                go_ret
                rw [ht_yes HS.out HY.out]
                exact ⟨rfl, rfl⟩
            · have HY : Hid (¬ ((seg zs s (s + 1)).length = 0 ∨ ((seg zs s (s + 1)).length = 1 ∧ (seg zs s (s + 1)).getD 0 0 = 13))) := by
                rw [HL1.out, HG.out, Hid]; omega
              have h13b : (c0 == 13) = false := by simpa using h13
              go_wp2
              go_round
              case rel => exact ⟨s + 1 + 1, s + 1 + 1, true, by omega, by omega, by go_num, by go_num, rfl, by rw [HZ.out]; exact ht_line HS.out HY.out⟩
              case measure => simp [intOf]; omega
          · have HY : Hid (¬ ((seg zs s k).length = 0 ∨ ((seg zs s k).length = 1 ∧ (seg zs s k).getD 0 0 = 13))) := by
              rw [HLn.out, Hid]; omega
            obtain ⟨m, hm⟩ : ∃ m, k = s + (m + 2) := ⟨k - s - 2, by omega⟩
            subst hm
            clear hS hc hcell HT HLn
            go_wp2
            go_round
            case rel => exact ⟨s + (m + 2) + 1, s + (m + 2) + 1, true, by omega, by omega, by go_num, by go_num, rfl, by rw [HZ.out]; exact ht_line HS.out HY.out⟩
            case measure => simp [intOf]; omega
      · have HN : Hid (T = he (zs.drop (k + 1)) (seg zs s (k + 1)) S) := by
          rw [seg_snoc _ _ _ hs (by omega), ← hc]; exact ht_go HS.out h10
        have h10b : (c == 10) = false := by simpa using h10
        clear hS hc hcell HT HS
        go_wp2
        go_round
        case rel => exact ⟨k + 1, s, S, by omega, by omega, by go_num, rfl, rfl, HN⟩
        case measure => simp [intOf]; omega
    · have HE : T = false := ht_end (by rw [← List.drop_of_length_le (l := zs) (i := k) (by omega)]; exact hS.out)
      subst HE
      clear HT hS
      go_wp2
      go_ret
      exact ⟨rfl, rfl⟩

theorem expect_any {r : Int} (a : Option Addr) (n cap : Nat) (p : Int) (zs : List Int) (w : World) (hz : zs.length = n) (hrow : Row w a zs) (hn : n ≤ 1048576) (hcap : n ≤ cap) (hT : Hid (arrv n p (he zs [] false) = r)) :
    Calls Try.prog 12 #[.slice a n cap, .int .i64 p] w fun e w' => e = .returned (.int .i64 r) ∧ w' = w := by
  rw [← hT.out]
  clear hT
  cases hE : he zs [] false
  · by_cases hp : p ≤ n
    · have hr : arrv n p false = 3 := by simp [arrv, hp]
      rw [hr]
      clear hr
      go_enter Try.func12, Try.ntmps12
      go_wp2_with (go_at_call 17; refine (headEnds_any a n cap zs w hz hrow hn hcap).mono ?_; rintro e w' ⟨rfl, rfl⟩)
      go_ret
      exact ⟨rfl, rfl⟩
    · have hr : arrv n p false = 1 := by simp [arrv, hp]
      rw [hr]
      clear hr
      go_enter Try.func12, Try.ntmps12
      go_wp2_with (go_at_call 17; refine (headEnds_any a n cap zs w hz hrow hn hcap).mono ?_; rintro e w' ⟨rfl, rfl⟩)
      go_ret
      exact ⟨rfl, rfl⟩
  · have hr : arrv n p true = 2 := by simp [arrv]
    rw [hr]
    clear hr
    go_enter Try.func12, Try.ntmps12
    go_wp2_with (go_at_call 17; refine (headEnds_any a n cap zs w hz hrow hn hcap).mono ?_; rintro e w' ⟨rfl, rfl⟩)
    go_ret
    exact ⟨rfl, rfl⟩

theorem zzArrival_any {r : Int} (a : Option Addr) (n cap : Nat) (p : Int) (zs : List Int) (w : World) (hz : zs.length = n) (hrow : Row w a zs) (hn : n ≤ 1048576) (hT : Hid (arrv n p (he zs [] false) = r)) :
    Calls Try.prog 11 #[.slice a n cap, .int .i64 p] w fun e w' => e = .returned (.int .i64 r) ∧ Below w.heap.size w w' := by
  rw [← hT.out]
  clear hT
  go_enter Try.func11, Try.ntmps11
  go_wp2_with (go_at_call 16; refine (arrivalOf_any a n cap p zs w hz hrow hn).mono ?_; rintro e w1 ⟨rfl, hb⟩)
  go_ret
  exact ⟨rfl, hb⟩

/-- The two answers: of the whole and of a front part. -/
theorem arrv_named (zs : List Int) (n c : Nat) (p : Int) :
    ∃ r q, Hid (arrv n p (he zs [] false) = r) ∧ Hid (arrv c p (he (zs.take c) [] false) = q) ∧ ((q = 2 ∧ r = 2) ∨ (q != 2) = true) := by
  refine ⟨_, _, rfl, rfl, ?_⟩
  cases h : he (zs.take c) [] false
  · right; unfold arrv; by_cases hp : p ≤ c <;> simp [hp]
  · left
    have := he_append (zs.take c) (zs.drop c) h
    rw [List.take_append_drop] at this
    rw [this]
    simp [arrv]

end Go.Proofs.Qxb6619291a
