/-
  THE WALK of FnMatchesOneTagPutInAnywhere (5): the main road.
-/
import Derived.Test.Qxb6619350aTwo
import Derived.Deep.RegionWith
import Derived.Deep.CutRange
namespace Go.Proofs.Qxb6619350a
open Go.ChangeShapes Go.WideShapes Go.ChangeAt Go.RowKit

theorem bytes11_ok (p s : Bool) (aw : Option Addr) (lw cw : Nat) (ao : Option Addr) (lo co : Nat) (at_ : Int) (wk : Bool) (op cur : ByteArray) (strong : Bool) (S : Nat → ByteArray) (w : World) (hS : SRow w ao lo S) (hlw : lw ≤ maxLen) (hlo : lo ≤ maxLen) :
    Calls Try.prog 11 #[.bool p, .bool s, .slice aw lw cw, .slice ao lo co, .int .i64 at_, .bool wk, .string op, .string cur, .bool strong] w fun e w' => IsBool e ∧ w = w' :=
  (bytes11_any p s aw lw cw ao lo co at_ wk op cur strong S w hS hlw hlo).mono fun _ _ h => ⟨h.1, h.2.symm⟩

theorem with_two0 {w0 wr : World} {B1 B2 : Nat} {p s : Bool} {v1 v2 : Value} {t1 t2 : List (Bool × ByteArray)} (h : Two w0 wr B1 B2 p s v1 v2 t1 t2) (hn : t1.length ≤ 65537) (wk : Bool) (op : ByteArray) :
    Calls Try.prog 13 #[.agg #[.bool p, .bool s, v1], .bool wk, .string op] wr fun e w' => ∃ g cap, e = .returned (.agg #[.bool p, .bool s, .slice (some ⟨g, 0, none⟩) (t1.length + 1) cap]) ∧
      Hid (Two w0 (((w'.setCell ⟨B1, 0, none⟩ (.bool p)).setCell ⟨B1, 1, none⟩ (.bool s)).setCell ⟨B1, 2, none⟩ (.slice (some ⟨g, 0, none⟩) (t1.length + 1) cap)) B1 B2 p s (.slice (some ⟨g, 0, none⟩) (t1.length + 1) cap) v2 (t1 ++ [(wk, op)]) t2) ∧
      w'.cell? ⟨B1, 0, none⟩ = some (.bool p) ∧ w'.cell? ⟨B1, 1, none⟩ = some (.bool s) ∧ w'.cell? ⟨B1, 2, none⟩ = some v1 ∧ w'.frozen? ⟨B1, 0, none⟩ = false ∧ w'.frozen? ⟨B1, 1, none⟩ = false ∧ w'.frozen? ⟨B1, 2, none⟩ = false :=
  with_two h hn wk op 0

/-- The same, seen from the second condition. -/
theorem with_two_b {w0 wr : World} {B1 B2 : Nat} {p s : Bool} {v1 v2 : Value} {t1 t2 : List (Bool × ByteArray)} (h : Two w0 wr B1 B2 p s v1 v2 t1 t2) (hn : t2.length ≤ 65537) (wk : Bool) (op : ByteArray) (q : Nat) :
    Calls Try.prog 13 #[.agg #[.bool p, .bool s, v2], .bool wk, .string op] (wr.drewN q) fun e w' => ∃ g cap, e = .returned (.agg #[.bool p, .bool s, .slice (some ⟨g, 0, none⟩) (t2.length + 1) cap]) ∧
      Hid (Two w0 (((w'.setCell ⟨B2, 0, none⟩ (.bool p)).setCell ⟨B2, 1, none⟩ (.bool s)).setCell ⟨B2, 2, none⟩ (.slice (some ⟨g, 0, none⟩) (t2.length + 1) cap)) B1 B2 p s v1 (.slice (some ⟨g, 0, none⟩) (t2.length + 1) cap) t1 (t2 ++ [(wk, op)])) ∧
      w'.cell? ⟨B2, 0, none⟩ = some (.bool p) ∧ w'.cell? ⟨B2, 1, none⟩ = some (.bool s) ∧ w'.cell? ⟨B2, 2, none⟩ = some v2 ∧ w'.frozen? ⟨B2, 0, none⟩ = false ∧ w'.frozen? ⟨B2, 1, none⟩ = false ∧ w'.frozen? ⟨B2, 2, none⟩ = false := by
  refine (with_two h.symm hn wk op q).mono ?_
  rintro e w' ⟨g, cap, rfl, hT, hc⟩
  exact ⟨g, cap, rfl, hT.out.symm, hc⟩
theorem with_two_b0 {w0 wr : World} {B1 B2 : Nat} {p s : Bool} {v1 v2 : Value} {t1 t2 : List (Bool × ByteArray)} (h : Two w0 wr B1 B2 p s v1 v2 t1 t2) (hn : t2.length ≤ 65537) (wk : Bool) (op : ByteArray) :
    Calls Try.prog 13 #[.agg #[.bool p, .bool s, v2], .bool wk, .string op] wr fun e w' => ∃ g cap, e = .returned (.agg #[.bool p, .bool s, .slice (some ⟨g, 0, none⟩) (t2.length + 1) cap]) ∧
      Hid (Two w0 (((w'.setCell ⟨B2, 0, none⟩ (.bool p)).setCell ⟨B2, 1, none⟩ (.bool s)).setCell ⟨B2, 2, none⟩ (.slice (some ⟨g, 0, none⟩) (t2.length + 1) cap)) B1 B2 p s v1 (.slice (some ⟨g, 0, none⟩) (t2.length + 1) cap) t1 (t2 ++ [(wk, op)])) ∧
      w'.cell? ⟨B2, 0, none⟩ = some (.bool p) ∧ w'.cell? ⟨B2, 1, none⟩ = some (.bool s) ∧ w'.cell? ⟨B2, 2, none⟩ = some v2 ∧ w'.frozen? ⟨B2, 0, none⟩ = false ∧ w'.frozen? ⟨B2, 1, none⟩ = false ∧ w'.frozen? ⟨B2, 2, none⟩ = false :=
  with_two_b h hn wk op 0

set_option maxHeartbeats 8000000 in
set_option maxRecDepth 100000 in
theorem put_build (p s : Bool) (aw ao : Option Addr) (cw co n c : Nat) (wk : Bool) (op cur : ByteArray) (strong : Bool) (Bf : Nat → Bool) (Sf : Nat → ByteArray) (w : World) (hn : n ≤ 65536) (hc : c ≤ n) (hBr : BRow w aw n Bf) (hS : SRow w ao n Sf) (hop : ¬ 65536 < op.size) (hcb : ¬ 65536 < cur.size) :
    Calls Try.prog 5 #[.bool p, .bool s, .slice aw n cw, .slice ao n co, .int .i64 c, .bool wk, .string op, .string cur, .bool strong] w fun e w' => e = .returned (.bool true) ∧ Below w.heap.size w w' := by
  have HM : Hid (n ≤ maxLen) := by unfold Hid maxLen; omega
  go_enter Try.func5, Try.ntmps5
  go_wp2_with (go_at_call 11; refine (bytes11_ok p s aw n cw ao n co c wk op cur strong Sf w hS HM.out HM.out).mono ?_; rintro e w' ⟨⟨r, rfl⟩, rfl⟩)
  · go_ret
    exact ⟨rfl, Below.refl _ _⟩
  go_loop [19, 20] (fun z i => ∃ (k : Nat) (t : Int), k ≤ n ∧ i = .int .i64 k ∧ z = .int .i64 t) (fun _ i => n - (intOf i).toNat)
  case atStart => exact ⟨0, _, Nat.zero_le _, rfl, rfl⟩
  case round =>
    obtain ⟨k, t, hk, rfl, rfl⟩ := hrel
    by_cases hlt : k < n
    · rcases hS with rfl | ⟨bo, oo, rfl, hbo, hco⟩
      · omega
      have hcl := hco k hlt
      clear hco hBr
      go_wp2
      · go_ret
        exact ⟨rfl, Below.refl _ _⟩
      · go_round
        case rel => exact ⟨k + 1, _, by omega, by go_num, rfl⟩
        case measure => simp [intOf]; omega
    · go_wp2_with fail
      refine (new_any p s _).mono ?_
      rintro e w1 ⟨rfl, hb1⟩
      go_wp2_with fail
      refine (new_any p s _).mono ?_
      rintro e w2 ⟨rfl, hb2⟩
      go_wp2_with fail
      have HT0 := Two.start hb1 p s (by simpa using hb2)
      go_loopw [23] (fun i wr => ∃ (k : Nat) (v1 v2 : Value), k ≤ n ∧ i = .int .i64 k ∧ Two w wr w1.heap.size w2.heap.size p s v1 v2 (tg Bf Sf k) (t2 Bf Sf (wk, op) c k)) (fun i _ => n - (intOf i).toNat)
      case atStart => exact ⟨0, _, _, Nat.zero_le _, rfl, by rw [t2_le _ _ _ _ _ (Nat.zero_le _)]; exact HT0⟩
      case round =>
        clear HT0
        obtain ⟨j, v1, v2, hj, rfl, hTw⟩ := hrel
        by_cases hlt2 : j < n
        · rcases hS with rfl | ⟨bo, oo, rfl, hbo, hco⟩
          · omega
          rcases hBr with rfl | ⟨bw, ow, rfl, hbw, hcw⟩
          · omega
          have hxw := hcw j hlt2
          have hxo := hco j hlt2
          have hj0 : (0 : Int) ≤ (j : Int) := by omega
          have hjn : (j : Int) < (n : Int) := by omega
          clear hcw hco
          go_upto_if 106 with (fail)
          go_cut [] from 98 to 130 (fun wx => ∃ v2', Two w wx w1.heap.size w2.heap.size p s v1 v2' (tg Bf Sf j) (t2m Bf Sf (wk, op) c j))
          case first =>
            by_cases hjc : j = c
            · have hjb : ((j : Int) == (c : Int)) = true := by simp; omega
              have HM2 : Hid (t2m Bf Sf (wk, op) c j = t2 Bf Sf (wk, op) c j ++ [(wk, op)]) := by unfold t2m; rw [if_pos hjc]; rfl
              have hlen : (t2 Bf Sf (wk, op) c j).length ≤ 65537 := by have := t2_len Bf Sf (wk, op) c j; omega
              obtain ⟨c0, c1, c2, f0, f1, f2⟩ := hTw.i2.cells
              have HT : Hid (Two w wr w1.heap.size w2.heap.size p s v1 v2 (tg Bf Sf j) (t2 Bf Sf (wk, op) c j)) := hTw
              clear hTw hjc
              go_wp2_with (go_at_call 13; refine (with_two_b0 HT.out hlen wk op).mono ?_; rintro e w3 ⟨g, cap, rfl, HT3, d0, d1, d2, e0, e1, e2⟩)
              go_meet
              exact ⟨_, by rw [HM2.out]; exact HT3.out⟩
            · have hjb : ((j : Int) == (c : Int)) = false := by simp; omega
              go_wp2
              go_meet
              exact ⟨v2, by unfold t2m; rw [if_neg hjc]; exact hTw⟩
          case rest =>
            obtain ⟨v2', hTc⟩ := hcut
            clear hTw
            go_upto_region 23 with (fail)
            go_cut [] from 98 to 130 (fun wx => ∃ v1', Two w wx w1.heap.size w2.heap.size p s v1' v2' (tg Bf Sf (j + 1)) (t2m Bf Sf (wk, op) c j))
            case first =>
              have hyw : wc.cell? ⟨bw, ow + j, none⟩ = some (.bool (Bf j)) := (hTc.hb.cell (p := ⟨bw, ow + j, none⟩) hbw).trans hxw
              have hyo : wc.cell? ⟨bo, oo + j, none⟩ = some (.string (Sf j)) := (hTc.hb.cell (p := ⟨bo, oo + j, none⟩) hbo).trans hxo
              have hlen : (tg Bf Sf j).length ≤ 65537 := by rw [tg_length]; omega
              obtain ⟨c0, c1, c2, f0, f1, f2⟩ := hTc.i1.cells
              have HT : Hid (Two w wc w1.heap.size w2.heap.size p s v1 v2' (tg Bf Sf j) (t2m Bf Sf (wk, op) c j)) := hTc
              clear hTc hxw hxo
              go_region_with ((go_at_call 13; refine (with_two HT.out hlen (Bf j) (Sf j) 1).mono ?_; rintro e w3 ⟨g, cap, rfl, HT3, d0, d1, d2, e0, e1, e2⟩))
              all_goals
                go_wp2_with fail
                go_meet
                exact ⟨_, by rw [tg_succ]; exact HT3.out⟩
            case rest =>
              obtain ⟨v1', hTd⟩ := hcut
              clear hTc
              have hyw : wc.cell? ⟨bw, ow + j, none⟩ = some (.bool (Bf j)) := (hTd.hb.cell (p := ⟨bw, ow + j, none⟩) hbw).trans hxw
              have hyo : wc.cell? ⟨bo, oo + j, none⟩ = some (.string (Sf j)) := (hTd.hb.cell (p := ⟨bo, oo + j, none⟩) hbo).trans hxo
              have hlen : (t2m Bf Sf (wk, op) c j).length ≤ 65537 := by have := t2m_len Bf Sf (wk, op) c j; omega
              obtain ⟨c0, c1, c2, f0, f1, f2⟩ := hTd.i2.cells
              have HT : Hid (Two w wc w1.heap.size w2.heap.size p s v1' v2' (tg Bf Sf (j + 1)) (t2m Bf Sf (wk, op) c j)) := hTd
              clear hTd hxw hxo
              go_wp2_with fail
              go_region_with ((go_at_call 13; refine (with_two_b HT.out hlen (Bf j) (Sf j) 1).mono ?_; rintro e w3 ⟨g, cap, rfl, HT3, d0, d1, d2, e0, e1, e2⟩))
              all_goals
                go_wp2
                go_roundw
                case rel => exact ⟨j + 1, _, _, by omega, by go_num, by rw [t2m_next]; exact HT3.out⟩
                case measure => simp [intOf]; omega
        · obtain rfl : j = n := by omega
          clear hS hBr
          go_upto_if 134 with (fail)
          go_cut [] from 131 to 138 (fun wx => ∃ v2', Two w wx w1.heap.size w2.heap.size p s v1 v2' (tg Bf Sf j) (t2w Bf Sf (wk, op) c j))
          case first =>
            by_cases hjc : c = j
            · subst hjc
              have HM2 : Hid (t2w Bf Sf (wk, op) c c = t2 Bf Sf (wk, op) c c ++ [(wk, op)]) := by rw [t2_le _ _ _ _ _ (Nat.le_refl _), t2w_eq]; rfl
              have hlen : (t2 Bf Sf (wk, op) c c).length ≤ 65537 := by have := t2_len Bf Sf (wk, op) c c; omega
              obtain ⟨c0, c1, c2, f0, f1, f2⟩ := hTw.i2.cells
              have HT : Hid (Two w wr w1.heap.size w2.heap.size p s v1 v2 (tg Bf Sf c) (t2 Bf Sf (wk, op) c c)) := hTw
              clear hTw
              go_wp2_with (go_at_call 13; refine (with_two_b0 HT.out hlen wk op).mono ?_; rintro e w3 ⟨g, cap, rfl, HT3, d0, d1, d2, e0, e1, e2⟩)
              go_meet
              exact ⟨_, by rw [HM2.out]; exact HT3.out⟩
            · have hjb : ((c : Int) == (j : Int)) = false := by simp; omega
              go_wp2
              go_meet
              exact ⟨v2, by rw [← t2w_lt _ _ _ _ _ (by omega)]; exact hTw⟩
          case rest =>
            obtain ⟨v2', hTc⟩ := hcut
            clear hTw
            obtain ⟨a1, cap1, hv1, hT1⟩ := hTc.i1.own.tags
            rw [tg_length] at hv1
            subst hv1
            obtain ⟨a2, cap2, hv2, hT2⟩ := hTc.i2.own.tags
            obtain ⟨m2, hm2⟩ : ∃ m2, (t2w Bf Sf (wk, op) c j).length = m2 := ⟨_, rfl⟩
            rw [hm2] at hv2
            subst hv2
            have HL1 : Hid ((tg Bf Sf j).length = j) := tg_length Bf Sf j
            have HL2 : Hid ((t2w Bf Sf (wk, op) c j).length = m2) := hm2
            have hm3 : m2 ≤ 1048576 := by
              rw [← hm2]; unfold t2w; simp [tg_length]; omega
            clear hm2
            obtain ⟨c0, c1, c2, f0, f1, f2⟩ := hTc.i1.cells
            obtain ⟨d0, d1, d2, e0, e1, e2⟩ := hTc.i2.cells
            have hB2 := hTc.i2.lt
            have hbw := hTc.hb
            have hwr := hbw.size
            clear hTc f0 f1 f2 e0 e1 e2
            go_wp2_with fail
            refine (zzMatches_any p s a1 j cap1 (tg Bf Sf j) cur strong wc HL1.out (by omega) hT1).mono ?_
            rintro e w4 ⟨rfl, hb4⟩
            have g0 := (hb4.cell (p := ⟨w2.heap.size, 0, none⟩) hB2).trans d0
            have g1 := (hb4.cell (p := ⟨w2.heap.size, 1, none⟩) hB2).trans d1
            have g2 := (hb4.cell (p := ⟨w2.heap.size, 2, none⟩) hB2).trans d2
            clear c0 c1 c2 d0 d1 d2 hT1
            go_wp2_with fail
            refine (zzMatches_any p s a2 m2 cap2 (t2w Bf Sf (wk, op) c j) cur strong w4 HL2.out hm3 (hT2.later hb4)).mono ?_
            rintro e w5 ⟨rfl, hb5⟩
            have hBw : Below w.heap.size w w5 := hbw.trans ((hb4.mono hwr).trans (hb5.mono (Nat.le_trans hwr hb4.size)))
            clear g0 g1 g2 hT2 HL1 HL2
            have hfin := match_t2w s Bf Sf (wk, op) c j hc cur strong
            have hz : j = 0 → cur.toList.isEmpty = false → matchB s (tg Bf Sf j) cur strong = s := by
              rintro rfl he
              exact match_none s cur strong he
            have hem := fun h => match_empty s (t2w Bf Sf (wk, op) c j) cur strong h
            have hem1 := fun h => match_empty s (tg Bf Sf j) cur strong h
            generalize matchB s (t2w Bf Sf (wk, op) c j) cur strong = M2 at hfin hem ⊢
            generalize matchB s (tg Bf Sf j) cur strong = M at hfin hz hem1 ⊢
            cases hE : cur.toList.isEmpty
            · have hf := hfin hE
              have hz' : j = 0 → M = s := fun h => hz h hE
              clear hfin hz hem hem1
              unfold hit at hf
              by_cases h0 : j = 0
              · have hMs := hz' h0
                clear hz'
                subst hMs
                have hb0 : ((j : Int) == 0) = true := by simp; omega
                cases hq : (op.toList == cur.toList) <;> cases strong <;> cases wk <;> cases M <;> simp only [hq, Bool.true_or, Bool.false_or, Bool.and_true, Bool.and_false, Bool.not_true, Bool.not_false] at hf <;> subst hf
                all_goals
                  go_wp2
                  go_ret
                  exact ⟨rfl, hBw⟩
              · have hb0 : ((j : Int) == 0) = false := by simp; omega
                clear hz'
                cases hq : (op.toList == cur.toList) <;> cases strong <;> cases wk <;> cases M <;> simp only [hq, Bool.true_or, Bool.false_or, Bool.and_true, Bool.and_false, Bool.not_true, Bool.not_false] at hf <;> subst hf
                all_goals
                  go_wp2
                  go_ret
                  exact ⟨rfl, hBw⟩
            · have hf := hem hE
              have hf1 := hem1 hE
              clear hfin hz hem hem1
              subst hf
              subst hf1
              by_cases h0 : j = 0
              · have hb0 : ((j : Int) == 0) = true := by simp; omega
                go_wp2
                go_ret
                exact ⟨rfl, hBw⟩
              · have hb0 : ((j : Int) == 0) = false := by simp; omega
                go_wp2
                go_ret
                exact ⟨rfl, hBw⟩

end Go.Proofs.Qxb6619350a
