/-
  A TAG CONDITION IN A VARIABLE OF THE LAW's OWN: its box, its row of tags; what a step of the building loop does to it.
-/
import Derived.Test.Qxb6619350aBytes
namespace Go.Proofs.Qxb6619350a
open Go.ChangeShapes Go.WideShapes Go.ChangeAt Go.RowKit

structure Inv (w0 w : World) (B : Nat) (p s : Bool) (v : Value) (ts : List (Bool × ByteArray)) : Prop where
  box : w.heap[B]? = some (.cells #[.bool p, .bool s, v] 32)
  own : Own w w0.heap.size v ts
  ne : v.ownBlock ≠ some B
  hB : w0.heap.size ≤ B

theorem Inv.lt {w0 w : World} {B : Nat} {p s : Bool} {v : Value} {ts : List (Bool × ByteArray)} (h : Inv w0 w B p s v ts) : B < w.heap.size := (Array.getElem?_eq_some_iff.1 h.box).1

theorem Inv.old {w0 w : World} {B : Nat} {p s : Bool} {v : Value} {ts : List (Bool × ByteArray)} (h : Inv w0 w B p s v ts) {b : Nat} (hb : b < w0.heap.size) : v.ownBlock ≠ some b := by
  intro e
  rcases h.own.2 with ⟨rfl, _⟩ | ⟨g, cap, cur, rfl, hg, _⟩
  · cases e
  · have e' : g = b := by simpa [Value.ownBlock] using e
    omega

/-- Behind a draw. -/
theorem Inv.drew {w0 w : World} {B : Nat} {p s : Bool} {v : Value} {ts : List (Bool × ByteArray)} (h : Inv w0 w B p s v ts) (n : Nat) : Inv w0 (w.drewN n) B p s v ts := ⟨h.box, h.own, h.ne, h.hB⟩

theorem Below.grownOwn {w0 w w1 : World} {B : Nat} {p s : Bool} {v : Value} {ts : List (Bool × ByteArray)} (h : Inv w0 w B p s v ts) (hb : Below w0.heap.size w0 w) (hg : w.grownBy w1 v.ownBlock) : Below w0.heap.size w0 w1 :=
  hb.grown hg hb.size (fun k hk => by
    rcases Nat.lt_or_ge k w0.heap.size with h1 | h1
    · exact absurd hk (h.old h1)
    · exact h1)

/-- The box behind the three stores. -/
theorem box_stored {w : World} {B : Nat} {x0 x1 x2 y0 y1 y2 : Value} {t : TypeId} (h : w.heap[B]? = some (.cells #[x0, x1, x2] t)) :
    (((w.setCell ⟨B, 0, none⟩ y0).setCell ⟨B, 1, none⟩ y1).setCell ⟨B, 2, none⟩ y2).heap[B]? = some (.cells #[y0, y1, y2] t) := by
  simp [World.setCell, Array.getElem?_modify, h]

/-- ONE TAG MORE: behind the call and the store. -/
theorem Inv.step {w0 w w1 : World} {B : Nat} {p s : Bool} {v : Value} {ts : List (Bool × ByteArray)} (h : Inv w0 w B p s v ts) (hg : w.grownBy w1 v.ownBlock) {g n cap : Nat} {t : Bool × ByteArray}
    (ho : Own w1 w0.heap.size (.slice (some ⟨g, 0, none⟩) n cap) (ts ++ [t])) (hat : v.ownBlock = some g ∨ w.heap.size ≤ g) :
    Inv w0 (((w1.setCell ⟨B, 0, none⟩ (.bool p)).setCell ⟨B, 1, none⟩ (.bool s)).setCell ⟨B, 2, none⟩ (.slice (some ⟨g, 0, none⟩) n cap)) B p s (.slice (some ⟨g, 0, none⟩) n cap) (ts ++ [t]) := by
  have hlt := h.lt
  have hne : Value.ownBlock (.slice (some ⟨g, 0, none⟩) n cap) ≠ some B := by
    intro e
    have e' : g = B := by simpa [Value.ownBlock] using e
    rcases hat with h2 | h2
    · exact h.ne (h2.trans (by rw [e']))
    · omega
  exact ⟨box_stored (by rw [hg.block B hlt (Ne.symm h.ne)]; exact h.box), owns_setCell (owns_setCell (owns_setCell ho (q := ⟨B, 0, none⟩) hne _) (q := ⟨B, 1, none⟩) hne _) (q := ⟨B, 2, none⟩) hne _, hne, h.hB⟩

/-- Another condition, while this one gets a tag. -/
theorem Inv.aside {w0 w w1 : World} {B B' : Nat} {p' s' : Bool} {v v' : Value} {ts' : List (Bool × ByteArray)} (h' : Inv w0 w B' p' s' v' ts') (hg : w.grownBy w1 v.ownBlock)
    (hbb : B ≠ B') (hv : v'.ownBlock = none ∨ v'.ownBlock ≠ v.ownBlock) (hB : v.ownBlock ≠ some B') (hB' : v'.ownBlock ≠ some B) (y0 y1 y2 : Value) :
    Inv w0 (((w1.setCell ⟨B, 0, none⟩ y0).setCell ⟨B, 1, none⟩ y1).setCell ⟨B, 2, none⟩ y2) B' p' s' v' ts' := by
  have ho : Own w1 w0.heap.size v' ts' := World.ownsRow.kept h'.own hg hv
  refine ⟨?_, owns_setCell (owns_setCell (owns_setCell ho (q := ⟨B, 0, none⟩) hB' _) (q := ⟨B, 1, none⟩) hB' _) (q := ⟨B, 2, none⟩) hB' _, h'.ne, h'.hB⟩
  rw [Below.heap_setCell _ _ _ _ (by simpa using Ne.symm hbb), Below.heap_setCell _ _ _ _ (by simpa using Ne.symm hbb), Below.heap_setCell _ _ _ _ (by simpa using Ne.symm hbb), hg.block B' h'.lt (Ne.symm hB)]
  exact h'.box

/-- A fresh condition in a fresh box. -/
theorem Inv.start {w0 w : World} (hb : w0.heap.size ≤ w.heap.size) (p s : Bool) : Inv w0 (w.alloc (.cells #[.bool p, .bool s, .slice none 0 0] 32)) w.heap.size p s (.slice none 0 0) [] :=
  ⟨heap_alloc_new _ _, World.ownsRow_nil _ _ _ _, by simp [Value.ownBlock], hb⟩

theorem Inv.alloc {w0 w : World} {B : Nat} {p s : Bool} {v : Value} {ts : List (Bool × ByteArray)} (h : Inv w0 w B p s v ts) (o : Obj) : Inv w0 (w.alloc o) B p s v ts :=
  ⟨by rw [Below.heap_alloc _ _ _ h.lt]; exact h.box, World.ownsRow.alloc h.own o, h.ne, h.hB⟩

/-- What the walk reads of it. -/
theorem Inv.cells {w0 w : World} {B : Nat} {p s : Bool} {v : Value} {ts : List (Bool × ByteArray)} (h : Inv w0 w B p s v ts) :
    w.cell? ⟨B, 0, none⟩ = some (.bool p) ∧ w.cell? ⟨B, 1, none⟩ = some (.bool s) ∧ w.cell? ⟨B, 2, none⟩ = some v ∧ w.frozen? ⟨B, 0, none⟩ = false ∧ w.frozen? ⟨B, 1, none⟩ = false ∧ w.frozen? ⟨B, 2, none⟩ = false := cells3 h.box

theorem flat_get (ts : List (Bool × ByteArray)) : ∀ (k : Nat) (h : k < ts.length), (flat ts)[k * 2]? = some (.bool ts[k].1) ∧ (flat ts)[k * 2 + 1]? = some (.string ts[k].2) := by
  unfold flat
  induction ts with
  | nil => intro k h; simp at h
  | cons t r ih =>
    intro k h
    cases k with
    | zero => simp
    | succ k =>
      have := ih k (by simpa using h)
      have e1 : (k + 1) * 2 = k * 2 + 2 := by omega
      have e2 : (k + 1) * 2 + 1 = k * 2 + 1 + 2 := by omega
      simpa [e1, e2] using this

/-- The tags as 'matches' asks them. -/
theorem Own.tags {w : World} {base : Nat} {v : Value} {ts : List (Bool × ByteArray)} (h : Own w base v ts) : ∃ a cap, v = .slice a ts.length cap ∧ Tags w a ts := by
  rcases h.2 with ⟨rfl, h0⟩ | ⟨g, cap, cur, rfl, hb, hh, r⟩
  · exact ⟨none, 0, by rw [h0], .inl (List.eq_nil_of_length_eq_zero h0)⟩
  · refine ⟨some ⟨g, 0, none⟩, cap, rfl, .inr ⟨g, rfl, (Array.getElem?_eq_some_iff.1 hh).1, fun k hk => ?_⟩⟩
    have h1 := World.ownsRow.cellAt h (k * 2) (by omega)
    have h2 := World.ownsRow.cellAt h (k * 2 + 1) (by omega)
    rw [h1, h2]
    exact flat_get ts k hk

theorem Tags.later {w w1 : World} {a : Option Addr} {ts : List (Bool × ByteArray)} (h : Tags w a ts) (hb : Below w.heap.size w w1) : Tags w1 a ts := by
  rcases h with rfl | ⟨g, rfl, hg, hcell⟩
  · exact .inl rfl
  · exact .inr ⟨g, rfl, Nat.lt_of_lt_of_le hg hb.size, fun k h => ⟨(hb.cell (p := ⟨g, k * 2, none⟩) hg).trans (hcell k h).1, (hb.cell (p := ⟨g, k * 2 + 1, none⟩) hg).trans (hcell k h).2⟩⟩

end Go.Proofs.Qxb6619350a
