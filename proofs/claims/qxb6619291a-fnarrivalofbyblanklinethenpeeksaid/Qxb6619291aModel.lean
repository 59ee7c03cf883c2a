/-
  THE WALK of modelScan (8).
-/
import Derived.Test.Qxb6619291aScan
namespace Go.Proofs.Qxb6619291a
open Go.ChangeShapes Go.WideShapes Go.ChangeAt Go.RowKit
open Plain

theorem results_tmp4 {fn : Func} {t u v x : Tmp} (h : fn.results = #[.tmp t, .tmp u, .tmp v, .tmp x]) (tmps : Array Value) (P : Program) (w : World) :
    (results fn tmps).run P w = .ok (.tuple #[tmps.getD t undef, tmps.getD u undef, tmps.getD v undef, tmps.getD x undef]) w := by
  simp [results, h]

/-- The line under way: from 'st' up to 'k'. -/
def seg (zs : List Int) (st k : Nat) : List Int := (zs.drop st).take (k - st)
theorem seg_length (zs : List Int) (st k : Nat) (h : k ≤ zs.length) : (seg zs st k).length = k - st := by simp [seg]; omega
theorem seg_self (zs : List Int) (k : Nat) : seg zs k k = [] := by simp [seg]
theorem seg_snoc (zs : List Int) (st k : Nat) (h : st ≤ k) (hk : k < zs.length) : seg zs st (k + 1) = seg zs st k ++ [zs.getD k 0] := by
  unfold seg
  rw [show k + 1 - st = (k - st) + 1 by omega, List.take_succ_eq_append_getElem (by simp; omega)]
  simp [show st + (k - st) = k by omega, hk]
theorem seg_head (zs : List Int) (st k : Nat) (h : st < k) : (seg zs st k).getD 0 0 = zs.getD st 0 := by
  unfold seg
  simp [List.getD_eq_getElem?_getD, List.getElem?_drop, show 0 < k - st by omega]
theorem seg_rest (zs : List Int) (st : Nat) : seg zs st zs.length = zs.drop st := by
  unfold seg; rw [List.take_of_length_le (by simp)]

/-! ### The steps, in plain words -/
section
variable {line : Int} {r sg : List Int} {i F L c : Int} {p fr : Bool} {T : Int × Int × Int × Bool}
theorem mt_end (h : T = md line [] sg i F p L fr) : T = (F, L, lLeft line fr sg, false) := by rw [h, md]
theorem mt_go (h : T = md line (c :: r) sg i F p L fr) (h1 : ¬ c = 10) : T = md line r (sg ++ [c]) (i + 1) F p L fr := by rw [h]; simp [md, h1]
theorem mt_ended (h : T = md line (10 :: r) sg i F p L fr) (h1 : lEmpty line fr sg = true) (h2 : 0 < L) : T = (F, L, 0, true) := by rw [h]; simp [md, h1, h2]
theorem mt_empty (h : T = md line (10 :: r) sg i F p L fr) (h1 : lEmpty line fr sg = true) (h2 : ¬ 0 < L) : T = md line r [] (i + 1) F p L false := by rw [h]; simp [md, h1, h2]
theorem mt_long (h : T = md line (10 :: r) sg i F false L fr) (h1 : lEmpty line fr sg = false) (h2 : 101 < L + 1) : T = md line r [] (i + 1) i true (L + 1) false := by rw [h]; simp [md, h1, h2]
theorem mt_line (h : T = md line (10 :: r) sg i F p L fr) (h1 : lEmpty line fr sg = false) (h2 : ¬ (p = false ∧ 101 < L + 1)) : T = md line r [] (i + 1) F p (L + 1) false := by
  rw [h]; simp only [md, h1, if_true, Bool.false_eq_true, if_false, if_neg h2]
end

/-- The head of a line under way. -/
theorem head_of {w : World} {b off : Nat} {zs : List Int} (hcell : ∀ k, k < zs.length → w.cell? ⟨b, off + k, none⟩ = some (.int .u8 (zs.getD k 0))) (st k : Nat) (hk : k ≤ zs.length) (a : Option Addr)
    (ha : st < k → a = some ⟨b, off + st, none⟩) : Head w a (seg zs st k) := by
  intro h0
  rw [seg_length _ _ _ hk] at h0
  exact ⟨b, off + st, ha (by omega), by rw [seg_head _ _ _ (by omega)]; exact hcell st (by omega)⟩

set_option maxHeartbeats 2000000 in
theorem model_any (lines line : Int) (ended : Bool) (a : Option Addr) (n cap : Nat) (zs : List Int) (w : World) (hz : zs.length = n) (hrow : Row w a zs) (hn : n ≤ 1048576) (hcap : n ≤ cap)
    (hlo : -9223372036854775808 ≤ lines) (hhi : lines + n ≤ 9223372036854775807) :
    Calls Try.prog 8 #[.int .i64 lines, .int .i64 line, .bool ended, .slice a n cap] w fun e w' =>
      e = .returned (.tuple #[.int .i64 (model n lines line ended zs).1, .int .i64 (model n lines line ended zs).2.1, .int .i64 (model n lines line ended zs).2.2.1, .bool (model n lines line ended zs).2.2.2]) ∧ w' = w := by
  obtain ⟨T, hT⟩ : ∃ T, T = model n lines line ended zs := ⟨_, rfl⟩
  rw [← hT]
  have HT : Hid (T = model n lines line ended zs) := hT
  clear hT
  cases ended
  · have HM : Hid (T = md line zs [] 0 n false lines true) := by rw [HT.out]; simp [model, Hid]
    clear HT
    go_enter Try.func8, Try.ntmps8
    go_wp2
    go_loop [0, 12, 13, 14, 15, 16] (fun l f p st fr i => ∃ (k s : Nat) (F L : Int) (P fst : Bool), k ≤ n ∧ s ≤ k ∧ i = .int .i64 k ∧ st = .int .i64 s ∧ f = .int .i64 F ∧ l = .int .i64 L ∧ p = .bool P ∧ fr = .bool fst ∧ lines ≤ L ∧ L ≤ lines + k ∧
      Hid (T = md line (zs.drop k) (seg zs s k) k F P L fst)) (fun _ _ _ _ _ i => n - (intOf i).toNat)
    case atStart => exact ⟨0, 0, n, lines, false, true, Nat.zero_le _, Nat.zero_le _, rfl, rfl, rfl, rfl, rfl, rfl, by omega, by omega, by rw [seg_self]; exact HM⟩
    case round =>
      obtain ⟨k, s, F, L, P, fst, hk, hs, rfl, rfl, rfl, rfl, rfl, rfl, hl1, hl2, hS⟩ := hrel
      by_cases hlt : k < n
      · rcases hrow with rfl | ⟨b, off, rfl, hb, hcell⟩
        · simp at hz; omega
        obtain ⟨c, hc⟩ : ∃ c, c = zs.getD k 0 := ⟨_, rfl⟩
        have hcc : w.cell? ⟨b, off + k, none⟩ = some (.int .u8 c) := by rw [hc, ← hcell k (by omega)]
        have HS : Hid (T = md line (c :: zs.drop (k + 1)) (seg zs s k) k F P L fst) := by rw [hc, ← drop_cons (by omega)]; exact hS.out
        by_cases h10 : c = 10
        · subst h10
          have HH := head_of hcell s k (by omega) (some ⟨b, off + s, none⟩) (fun _ => rfl)
          have hlen := seg_length zs s k (by omega)
          clear hS hc hcell HM
          have e0 : seg zs (k + 1) (k + 1) = [] := seg_self zs (k + 1)
          have HZ : Hid (seg zs (k + 1) (k + 1) = []) := e0
          have HLn : Hid ((seg zs s k).length = k - s) := hlen
          clear e0 hlen
          cases hE : lEmpty line fst (seg zs s k)
          · by_cases hL : 101 < L + 1
            · cases P
              · go_wp2_with (go_at_call 14; refine (lineEmpty_any _ _ _ _ _ (seg zs s k) _ HLn.out HH).mono ?_; rintro e w' ⟨rfl, rfl⟩)
                go_round
                case rel => exact ⟨k + 1, k + 1, k, L + 1, true, false, by omega, by omega, by go_num, by go_num, rfl, rfl, rfl, rfl, by omega, by omega, by rw [HZ.out]; exact mt_long HS.out hE hL⟩
                case measure => simp [intOf]; omega
              · go_wp2_with (go_at_call 14; refine (lineEmpty_any _ _ _ _ _ (seg zs s k) _ HLn.out HH).mono ?_; rintro e w' ⟨rfl, rfl⟩)
                go_round
                case rel => exact ⟨k + 1, k + 1, F, L + 1, true, false, by omega, by omega, by go_num, by go_num, rfl, rfl, rfl, rfl, by omega, by omega, by rw [HZ.out]; exact mt_line HS.out hE (by simp)⟩
                case measure => simp [intOf]; omega
            · cases P
              all_goals
                go_wp2_with (go_at_call 14; refine (lineEmpty_any _ _ _ _ _ (seg zs s k) _ HLn.out HH).mono ?_; rintro e w' ⟨rfl, rfl⟩)
                go_round
                case rel => exact ⟨k + 1, k + 1, F, L + 1, _, false, by omega, by omega, by go_num, by go_num, rfl, rfl, rfl, rfl, by omega, by omega, by rw [HZ.out]; exact mt_line HS.out hE (fun h => by omega)⟩
                case measure => simp [intOf]; omega
          · by_cases hL : 0 < L
            · go_wp2_with (go_at_call 14; refine (lineEmpty_any _ _ _ _ _ (seg zs s k) _ HLn.out HH).mono ?_; rintro e w' ⟨rfl, rfl⟩)
              refine bodyPost_ret (results_tmp4 rfl _ _ _) rfl ?_
              rw [mt_ended HS.out hE hL]
              exact ⟨rfl, rfl⟩
            · go_wp2_with (go_at_call 14; refine (lineEmpty_any _ _ _ _ _ (seg zs s k) _ HLn.out HH).mono ?_; rintro e w' ⟨rfl, rfl⟩)
              go_round
              case rel => exact ⟨k + 1, k + 1, F, L, P, false, by omega, by omega, by go_num, by go_num, rfl, rfl, rfl, rfl, by omega, by omega, by rw [HZ.out]; exact mt_empty HS.out hE (by omega)⟩
              case measure => simp [intOf]; omega
        · have HN : Hid (T = md line (zs.drop (k + 1)) (seg zs s (k + 1)) (k + 1 : Nat) F P L fst) := by
            rw [seg_snoc _ _ _ hs (by omega), ← hc]; exact mt_go HS.out h10
          have h10b : (c == 10) = false := by simpa using h10
          clear hS hc hcell HM HS
          go_wp2
          go_round
          case rel => exact ⟨k + 1, s, F, L, P, fst, by omega, by omega, by go_num, rfl, rfl, rfl, rfl, rfl, by omega, by omega, HN⟩
          case measure => simp [intOf]; omega
      · have hkn : k = n := by omega
        subst hkn
        have HLn : Hid ((seg zs s k).length = k - s) := seg_length zs s k (by omega)
        have HE : Hid (T = (F, L, lLeft line fst (seg zs s k), false)) := mt_end (by rw [← List.drop_of_length_le (l := zs) (i := k) (by omega)]; exact hS.out)
        by_cases hcs : cap = s
        · have HH : ∀ a', Head w a' (seg zs s k) := fun a' h0 => by rw [HLn.out] at h0; omega
          subst hcs
          clear hS HM hrow
          have HL0 : Hid ((seg zs cap k).length = 0) := by rw [HLn.out, Hid]; omega
          have hk0 : k - cap = 0 := by omega
          go_wp2_with (go_at_call 15; refine (lineLeft_any _ _ _ _ _ (seg zs cap k) _ HL0.out (HH _)).mono ?_; rintro e w' ⟨rfl, rfl⟩)
          refine bodyPost_ret (results_tmp4 rfl _ _ _) rfl ?_
          rw [HE.out]
          exact ⟨rfl, rfl⟩
        · have HH : Head w (Option.map (fun x => x.add s) a) (seg zs s k) := by
            intro h0
            rw [HLn.out] at h0
            rcases hrow with rfl | ⟨b, off, rfl, hb, hcell⟩
            · simp at hz; omega
            · exact ⟨b, off + s, by simp [Addr.add], by rw [seg_head _ _ _ (by omega)]; exact hcell s (by omega)⟩
          clear hS HM hrow
          go_wp2_with (go_at_call 15; refine (lineLeft_any _ _ _ _ _ (seg zs s k) _ HLn.out HH).mono ?_; rintro e w' ⟨rfl, rfl⟩)
          refine bodyPost_ret (results_tmp4 rfl _ _ _) rfl ?_
          rw [HE.out]
          exact ⟨rfl, rfl⟩
  · have HE : T = ((n : Int), lines, line, true) := by rw [HT.out]; simp [model]
    subst HE
    clear HT
    go_enter Try.func8, Try.ntmps8
    go_wp2
    refine bodyPost_ret (results_tmp4 rfl _ _ _) rfl ?_
    exact ⟨rfl, rfl⟩

end Go.Proofs.Qxb6619291a
