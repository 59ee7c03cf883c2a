/-
  THE WALK of FnMatchesStrongAndWeakDiffer (6).
-/
import Derived.Test.Qxb6619350aInv
import Derived.Deep.RegionWith
namespace Go.Proofs.Qxb6619350a
open Go.ChangeShapes Go.WideShapes Go.ChangeAt Go.RowKit

/-- The first k tags. -/
def tg (B : Nat → Bool) (S : Nat → ByteArray) (k : Nat) : List (Bool × ByteArray) := (List.range k).map fun i => (B i, S i)
theorem tg_succ (B : Nat → Bool) (S : Nat → ByteArray) (k : Nat) : tg B S (k + 1) = tg B S k ++ [(B k, S k)] := by simp [tg, List.range_succ]
theorem tg_length (B : Nat → Bool) (S : Nat → ByteArray) (k : Nat) : (tg B S k).length = k := by simp [tg]

theorem sz_of {w : World} {b : Nat} {o : Obj} (h : w.heap[b]? = some o) : b < w.heap.size := (Array.getElem?_eq_some_iff.1 h).1

/-- Is cur among the weak (true) or the strong (false) tags? -/
def among (cur : ByteArray) (wk : Bool) (ts : List (Bool × ByteArray)) : Bool := ts.any fun t => (t.2.toList == cur.toList) && (t.1 == wk)
theorem among_snoc (cur : ByteArray) (wk : Bool) (ts : List (Bool × ByteArray)) (t : Bool × ByteArray) : among cur wk (ts ++ [t]) = (among cur wk ts || ((t.2.toList == cur.toList) && (t.1 == wk))) := by simp [among]

theorem any_loose (cur : ByteArray) (ts : List (Bool × ByteArray)) : ts.any (hit false cur) = (among cur true ts || among cur false ts) := by
  induction ts with
  | nil => rfl
  | cons t r ih =>
    obtain ⟨b, o⟩ := t
    simp only [among, List.any_cons] at ih ⊢
    rw [ih]
    cases b <;> cases h : (o.toList == cur.toList) <;> simp [hit, h, Bool.or_comm]
theorem any_strict (cur : ByteArray) (ts : List (Bool × ByteArray)) : ts.any (hit true cur) = among cur false ts := by
  induction ts with
  | nil => rfl
  | cons t r ih =>
    obtain ⟨b, o⟩ := t
    simp only [among, List.any_cons] at ih ⊢
    rw [ih]
    cases b <;> simp [hit]

theorem bytes15_ok (p s : Bool) (aw : Option Addr) (lw cw : Nat) (ao : Option Addr) (lo co : Nat) (cur : ByteArray) (S : Nat → ByteArray) (w : World) (hS : SRow w ao lo S) (hlw : lw ≤ 65536) (hlo : lo ≤ 65536) :
    Calls Try.prog 15 #[.bool p, .bool s, .slice aw lw cw, .slice ao lo co, .string cur] w fun e w' => IsBool e ∧ w = w' :=
  (bytes15_any p s aw lw cw ao lo co cur S w hS (by unfold maxLen; omega) (by unfold maxLen; omega)).mono fun _ _ h => ⟨h.1, h.2.symm⟩

/-- ZZWithTag on a condition that lies in a box of the law's own, behind a draw: what the walk reads behind it. -/
theorem with_boxed {w0 wr : World} {B : Nat} {p s : Bool} {v : Value} {ts : List (Bool × ByteArray)} (hI : Inv w0 wr B p s v ts) (hb : Below w0.heap.size w0 wr) (hn : ts.length ≤ 65537) (wk : Bool) (op : ByteArray) (q : Nat) :
    Calls Try.prog 13 #[.agg #[.bool p, .bool s, v], .bool wk, .string op] (wr.drewN q) fun e w' => ∃ g cap, e = .returned (.agg #[.bool p, .bool s, .slice (some ⟨g, 0, none⟩) (ts.length + 1) cap]) ∧
      Own w' w0.heap.size (.slice (some ⟨g, 0, none⟩) (ts.length + 1) cap) (ts ++ [(wk, op)]) ∧ wr.grownBy w' v.ownBlock ∧ (v.ownBlock = some g ∨ wr.heap.size ≤ g) ∧ Below w0.heap.size w0 w' ∧
      w'.cell? ⟨B, 0, none⟩ = some (.bool p) ∧ w'.cell? ⟨B, 1, none⟩ = some (.bool s) ∧ w'.cell? ⟨B, 2, none⟩ = some v ∧ w'.frozen? ⟨B, 0, none⟩ = false ∧ w'.frozen? ⟨B, 1, none⟩ = false ∧ w'.frozen? ⟨B, 2, none⟩ = false := by
  refine (with_any p s v ts wk op w0.heap.size (wr.drewN q) (hI.drew q).own hb.size hn).mono ?_
  rintro e w' ⟨g, cap, rfl, ho, hg, hat⟩
  have hg' : wr.grownBy w' v.ownBlock := ⟨hg.os, hg.tape, hg.output, hg.size, hg.block⟩
  have hbox : w'.heap[B]? = some (.cells #[.bool p, .bool s, v] 32) := (hg'.block B hI.lt (Ne.symm hI.ne)).trans hI.box
  exact ⟨g, cap, rfl, ho, hg', hat, Below.grownOwn hI hb hg', cells3 hbox⟩

set_option maxHeartbeats 4000000 in
set_option maxRecDepth 100000 in
theorem differ_build (p s : Bool) (aw ao : Option Addr) (cw co n : Nat) (cur : ByteArray) (Bf : Nat → Bool) (Sf : Nat → ByteArray) (w : World) (hn : n ≤ 65536) (hBr : BRow w aw n Bf) (hS : SRow w ao n Sf) (hcb : ¬ 65536 < cur.size) :
    Calls Try.prog 6 #[.bool p, .bool s, .slice aw n cw, .slice ao n co, .string cur] w fun e w' => e = .returned (.bool true) ∧ Below w.heap.size w w' := by
  go_enter Try.func6, Try.ntmps6
  go_wp2_with (go_at_call 15; refine (bytes15_ok p s aw n cw ao n co cur Sf w hS hn hn).mono ?_; rintro e w' ⟨⟨r, rfl⟩, rfl⟩)
  · go_ret
    exact ⟨rfl, Below.refl _ _⟩
  go_loop [11, 12] (fun z i => ∃ (k : Nat) (t : Int), k ≤ n ∧ i = .int .i64 k ∧ z = .int .i64 t) (fun _ i => n - (intOf i).toNat)
  case atStart => exact ⟨0, _, Nat.zero_le _, rfl, rfl⟩
  case round =>
    obtain ⟨k, t, hk, rfl, rfl⟩ := hrel
    by_cases hlt : k < n
    · rcases hS with rfl | ⟨bo, oo, rfl, hbo, hco⟩
      · omega
      have hc := hco k hlt
      clear hco hBr
      go_wp2
      · go_ret
        exact ⟨rfl, Below.refl _ _⟩
      · go_round
        case rel => exact ⟨k + 1, _, by omega, by go_num, rfl⟩
        case measure => simp [intOf]; omega
    · go_wp2_with (go_at_call 12; refine (new_any p s w).mono ?_; rintro e w1 ⟨rfl, hb1⟩)
      go_loopw [14] (fun i wr => ∃ (k : Nat) (v : Value), k ≤ n ∧ i = .int .i64 k ∧ Inv w wr w1.heap.size p s v (tg Bf Sf k) ∧ Below w.heap.size w wr) (fun i _ => n - (intOf i).toNat)
      case atStart => exact ⟨0, _, Nat.zero_le _, rfl, Inv.start hb1.size p s, hb1.alloc hb1.size _⟩
      case round =>
        obtain ⟨j, v, hj, rfl, hI, hB⟩ := hrel
        by_cases hlt2 : j < n
        · rcases hS with rfl | ⟨bo, oo, rfl, hbo, hco⟩
          · omega
          rcases hBr with rfl | ⟨bw, ow, rfl, hbw, hcw⟩
          · omega
          obtain ⟨c0, c1, c2, f0, f1, f2⟩ := hI.cells
          have hxw : wr.cell? ⟨bw, ow + j, none⟩ = some (.bool (Bf j)) := (hB.cell (p := ⟨bw, ow + j, none⟩) hbw).trans (hcw j hlt2)
          have hxo : wr.cell? ⟨bo, oo + j, none⟩ = some (.string (Sf j)) := (hB.cell (p := ⟨bo, oo + j, none⟩) hbo).trans (hco j hlt2)
          have hj0 : (0 : Int) ≤ (j : Int) := by omega
          have hjn : (j : Int) < (n : Int) := by omega
          clear hcw hco
          have hIn : (tg Bf Sf j).length ≤ 65537 := by rw [tg_length]; omega
          have HI : Hid (Inv w wr w1.heap.size p s v (tg Bf Sf j)) := hI
          clear hI
          go_wp2
          go_region_with ((go_at_call 13; refine (with_boxed HI.out hB hIn (Bf j) (Sf j) 1).mono ?_; rintro e w2 ⟨g, cap, rfl, ho, hg, hat, hb2, d0, d1, d2, e0, e1, e2⟩))
          all_goals
            go_wp2
            go_roundw
            case rel => exact ⟨j + 1, _, by omega, by go_num, by rw [tg_succ]; exact Inv.step HI.out hg ho hat, ((hb2.setCell (p := ⟨w1.heap.size, 0, none⟩) hb1.size _).setCell (p := ⟨w1.heap.size, 1, none⟩) hb1.size _).setCell (p := ⟨w1.heap.size, 2, none⟩) hb1.size _⟩
            case measure => simp [intOf]; omega
        · obtain rfl : j = n := by omega
          obtain ⟨a, cap, hv, hT⟩ := hI.own.tags
          rw [tg_length] at hv
          subst hv
          have HLn : Hid ((tg Bf Sf j).length = j) := tg_length Bf Sf j
          obtain ⟨c0, c1, c2, f0, f1, f2⟩ := hI.cells
          have hBl := hI.lt
          have hwr := hB.size
          clear hI
          go_wp2_with fail
          refine (zzMatches_any p s a j cap (tg Bf Sf j) cur false wr HLn.out (by omega) hT).mono ?_
          rintro e w2 ⟨rfl, hb2⟩
          have d0 := (hb2.cell (p := ⟨w1.heap.size, 0, none⟩) hBl).trans c0
          have d1 := (hb2.cell (p := ⟨w1.heap.size, 1, none⟩) hBl).trans c1
          have d2 := (hb2.cell (p := ⟨w1.heap.size, 2, none⟩) hBl).trans c2
          clear c0 c1 c2 f0 f1 f2
          go_wp2_with fail
          refine (zzMatches_any p s a j cap (tg Bf Sf j) cur true w2 HLn.out (by omega) (hT.later hb2)).mono ?_
          rintro e w3 ⟨rfl, hb3⟩
          have hBw : Below w.heap.size w w3 := hB.trans ((hb2.mono hwr).trans (hb3.mono (Nat.le_trans hwr hb2.size)))
          clear d0 d1 d2 hT
          go_wp2
          go_loop [17, 18, 19] (fun hw hs i => ∃ (k : Nat) (HW HS : Bool), k ≤ j ∧ i = .int .i64 k ∧ hw = .bool HW ∧ hs = .bool HS ∧ Hid (HW = among cur true (tg Bf Sf k) ∧ HS = among cur false (tg Bf Sf k))) (fun _ _ i => j - (intOf i).toNat)
          case atStart => exact ⟨0, false, false, Nat.zero_le _, rfl, rfl, rfl, rfl, rfl⟩
          case round =>
            obtain ⟨m, HW, HS, hm, rfl, rfl, rfl, hR⟩ := hrel
            by_cases hlt3 : m < j
            · rcases hS with rfl | ⟨bo, oo, rfl, hbo, hco⟩
              · omega
              rcases hBr with rfl | ⟨bw, ow, rfl, hbw, hcw⟩
              · omega
              have hxw : w3.cell? ⟨bw, ow + m, none⟩ = some (.bool (Bf m)) := (hBw.cell (p := ⟨bw, ow + m, none⟩) hbw).trans (hcw m hlt3)
              have hxo : w3.cell? ⟨bo, oo + m, none⟩ = some (.string (Sf m)) := (hBw.cell (p := ⟨bo, oo + m, none⟩) hbo).trans (hco m hlt3)
              clear hcw hco
              have hR1 := hR.out.1
              have hR2 := hR.out.2
              have HN : Hid (among cur true (tg Bf Sf (m + 1)) = (HW || (((Sf m).toList == cur.toList) && (Bf m == true))) ∧ among cur false (tg Bf Sf (m + 1)) = (HS || (((Sf m).toList == cur.toList) && (Bf m == false)))) := by
                rw [tg_succ, among_snoc, among_snoc, ← hR1, ← hR2]; exact ⟨rfl, rfl⟩
              clear hR1 hR2 hR
              generalize hbm : Bf m = bm at hxw HN
              generalize hsm : Sf m = sm at hxo HN
              clear hbm hsm
              by_cases hq : (sm.toList == cur.toList) = true
              · cases bm
                · go_wp2
                  go_round
                  case rel => exact ⟨m + 1, HW, true, by omega, by go_num, rfl, rfl, by rw [HN.out.1]; simp, by rw [HN.out.2]; simp [hq]⟩
                  case measure => simp [intOf]; omega
                · go_wp2
                  go_round
                  case rel => exact ⟨m + 1, true, HS, by omega, by go_num, rfl, rfl, by rw [HN.out.1]; simp [hq], by rw [HN.out.2]; simp⟩
                  case measure => simp [intOf]; omega
              · have hqf : (sm.toList == cur.toList) = false := by simpa using hq
                clear hq
                go_wp2
                go_round
                case rel => exact ⟨m + 1, HW, HS, by omega, by go_num, rfl, rfl, by rw [HN.out.1]; simp [hqf], by rw [HN.out.2]; simp [hqf]⟩
                case measure => simp [intOf]; omega
            · obtain rfl : m = j := by omega
              have hR1 := hR.out.1
              have hR2 := hR.out.2
              have HL := any_loose cur (tg Bf Sf m)
              have HT := any_strict cur (tg Bf Sf m)
              rw [← hR1, ← hR2] at HL
              rw [← hR2] at HT
              clear hR hR1 hR2 hBr hS
              cases hE : cur.toList.isEmpty
              · cases s
                · have M0 : matchB false (tg Bf Sf m) cur false = (HW || HS) := by simp [matchB, hE, HL]
                  have M1 : matchB false (tg Bf Sf m) cur true = HS := by simp [matchB, hE, HT]
                  clear HL HT
                  cases HW <;> cases HS
                  all_goals
                    simp only [Bool.or_false, Bool.or_true, Bool.or_self] at M0
                    go_wp2
                    go_ret
                    exact ⟨rfl, hBw⟩
                · have M0 : matchB true (tg Bf Sf m) cur false = true := by simp [matchB, hE]
                  have M1 : matchB true (tg Bf Sf m) cur true = true := by simp [matchB, hE]
                  clear HL HT
                  go_wp2
                  go_ret
                  exact ⟨rfl, hBw⟩
              · have M0 : matchB s (tg Bf Sf m) cur false = false := by simp [matchB, hE]
                have M1 : matchB s (tg Bf Sf m) cur true = false := by simp [matchB, hE]
                clear HL HT
                go_wp2
                go_ret
                exact ⟨rfl, hBw⟩

end Go.Proofs.Qxb6619350a
