/-
  THE WALKS of (tagCondition).matches (18) and ZZMatches (14).
-/
import Derived.Test.Qxb6619350aTags
namespace Go.Proofs.Qxb6619350a
open Go.ChangeShapes Go.WideShapes Go.ChangeAt Go.RowKit

/-- Does the tag t name cur? -/
def hit (strong : Bool) (cur : ByteArray) (t : Bool × ByteArray) : Bool := (t.2.toList == cur.toList) && !(strong && t.1)
def matchB (star : Bool) (ts : List (Bool × ByteArray)) (cur : ByteArray) (strong : Bool) : Bool :=
  if cur.toList.isEmpty = true then false else if star = true then true else ts.any (hit strong cur)

/-- The tags of a slice, cell by cell. -/
def Tags (w : World) (a : Option Addr) (ts : List (Bool × ByteArray)) : Prop :=
  ts = [] ∨ ∃ g, a = some ⟨g, 0, none⟩ ∧ g < w.heap.size ∧ ∀ k (h : k < ts.length), w.cell? ⟨g, k * 2, none⟩ = some (.bool ts[k].1) ∧ w.cell? ⟨g, k * 2 + 1, none⟩ = some (.string ts[k].2)

set_option maxHeartbeats 1000000 in
theorem matches_any (p star : Bool) (a : Option Addr) (n cap : Nat) (ts : List (Bool × ByteArray)) (cur : ByteArray) (strong : Bool) (w : World) (hn : ts.length = n) (hn2 : n ≤ 1048576) (hT : Tags w a ts) :
    Calls Try.prog 18 #[.agg #[.bool p, .bool star, .slice a n cap], .string cur, .bool strong] w fun e w' => e = .returned (.bool (matchB star ts cur strong)) ∧ Below w.heap.size w w' := by
  cases he : cur.toList.isEmpty
  · cases star
    · have hr : matchB false ts cur strong = ts.any (hit strong cur) := by simp [matchB, he]
      rw [hr]
      clear hr
      obtain ⟨R, hR⟩ : ∃ R, R = ts.any (hit strong cur) := ⟨_, rfl⟩
      rw [← hR]
      have HR : Hid (R = ts.any (hit strong cur)) := hR
      clear hR
      go_enter Try.func18, Try.ntmps18
      go_wp2
      go_loopw [16] (fun i wr => ∃ k : Nat, k ≤ n ∧ i = .int .i64 k ∧ Below w.heap.size w wr ∧ Hid (R = (ts.drop k).any (hit strong cur))) (fun i _ => n - (intOf i).toNat)
      case atStart => exact ⟨0, Nat.zero_le _, rfl, (Below.refl _ _).alloc (Nat.le_refl _) _, HR⟩
      case round =>
        obtain ⟨k, hk, rfl, hB, hS⟩ := hrel
        by_cases hlt : k < n
        · rcases hT with rfl | ⟨g, rfl, hg, hcell⟩
          · simp at hn; omega
          obtain ⟨hc0, hc1⟩ := hcell k (by omega)
          obtain ⟨t, ht⟩ : ∃ t, t = ts[k]'(by omega) := ⟨_, rfl⟩
          rw [← ht] at hc0 hc1
          obtain ⟨wk, op⟩ := t
          have hd0 : wr.cell? ⟨g, k * 2, none⟩ = some (.bool wk) := (hB.cell (p := ⟨g, k * 2, none⟩) hg).trans hc0
          have hd1 : wr.cell? ⟨g, k * 2 + 1, none⟩ = some (.string op) := (hB.cell (p := ⟨g, k * 2 + 1, none⟩) hg).trans hc1
          have HS : Hid (R = (hit strong cur (wk, op) || (ts.drop (k + 1)).any (hit strong cur))) := by
            have := hS.out
            rw [List.drop_eq_getElem_cons (by omega), List.any_cons, ← ht] at this
            exact this
          clear hS ht hcell hc0 hc1 HR
          by_cases hq : (op.toList == cur.toList) = true
          · by_cases hsw : (strong && wk) = true
            · obtain ⟨rfl, rfl⟩ : strong = true ∧ wk = true := by simpa using hsw
              have HN : Hid (R = (ts.drop (k + 1)).any (hit true cur)) := by rw [HS.out]; simp [hit, Hid]
              clear HS
              go_wp2
              go_roundw
              case rel => exact ⟨k + 1, by omega, by go_num, (hB.alloc hB.size _), HN⟩
              case measure => simp [intOf]; omega
            · have HN : R = true := by
                rw [HS.out]
                have h2 : (strong && wk) = false := by simpa using hsw
                simp [hit, hq, h2]
              subst HN
              clear HS
              cases strong
              · go_wp2
                go_ret
                exact ⟨rfl, hB.alloc hB.size _⟩
              · cases wk
                · go_wp2
                  go_ret
                  exact ⟨rfl, hB.alloc hB.size _⟩
                · exact absurd rfl hsw
          · have hqf : (op.toList == cur.toList) = false := by simpa using hq
            have HN : Hid (R = (ts.drop (k + 1)).any (hit strong cur)) := by rw [HS.out]; simp [hit, hqf, Hid]
            clear HS hq
            go_wp2
            go_roundw
            case rel => exact ⟨k + 1, by omega, by go_num, (hB.alloc hB.size _), HN⟩
            case measure => simp [intOf]; omega
        · go_wp2
          go_ret
          refine ⟨?_, hB⟩
          have := hS.out
          rw [List.drop_of_length_le (by omega)] at this
          rw [this]
          rfl
    · have hr : matchB true ts cur strong = true := by simp [matchB, he]
      rw [hr]
      clear hr
      go_enter Try.func18, Try.ntmps18
      go_wp2
      go_ret
      exact ⟨rfl, (Below.refl _ _).alloc (Nat.le_refl _) _⟩
  · have hr : matchB star ts cur strong = false := by simp [matchB, he]
    rw [hr]
    clear hr
    go_enter Try.func18, Try.ntmps18
    go_wp2
    go_ret
    exact ⟨rfl, (Below.refl _ _).alloc (Nat.le_refl _) _⟩

theorem zzMatches_any (p star : Bool) (a : Option Addr) (n cap : Nat) (ts : List (Bool × ByteArray)) (cur : ByteArray) (strong : Bool) (w : World) (hn : ts.length = n) (hn2 : n ≤ 1048576) (hT : Tags w a ts) :
    Calls Try.prog 14 #[.agg #[.bool p, .bool star, .slice a n cap], .string cur, .bool strong] w fun e w' => e = .returned (.bool (matchB star ts cur strong)) ∧ Below w.heap.size w w' := by
  have hT1 : ∀ X, Tags (w.alloc X) a ts := by
    intro X
    rcases hT with rfl | ⟨g, rfl, hg, hcell⟩
    · exact .inl rfl
    · refine .inr ⟨g, rfl, by simp; omega, fun k h => ?_⟩
      have hb : Below w.heap.size w (w.alloc X) := (Below.refl _ _).alloc (Nat.le_refl _) _
      exact ⟨(hb.cell (p := ⟨g, k * 2, none⟩) hg).trans (hcell k h).1, (hb.cell (p := ⟨g, k * 2 + 1, none⟩) hg).trans (hcell k h).2⟩
  go_enter Try.func14, Try.ntmps14
  go_wp2_with (go_at_call 18; refine (matches_any p star a n cap ts cur strong _ hn hn2 (hT1 _)).mono ?_; rintro e w1 ⟨rfl, hb1⟩)
  go_ret
  exact ⟨rfl, ((Below.refl _ _).alloc (Nat.le_refl _) _).trans (hb1.mono (by simp))⟩

end Go.Proofs.Qxb6619350a
