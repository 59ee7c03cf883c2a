/-
  THE WALKS of ZZNewTagCondition (12), ZZWithTag (13).
-/
import Derived.Test.Qxb6619350aRows
import Derived.WalkKit
import Derived.ProofKit
import Derived.WalkLawsBesides
import Derived.WalkSpells
import Derived.Outline
import Derived.Deep.AppendLies
namespace Go.Proofs.Qxb6619350a
open Go.ChangeShapes Go.WideShapes Go.ChangeAt Go.RowKit

theorem Try.info39 : (Try.prog.info? 39).map (fun i => (i.zero, i.size, i.bytes)) = some (some (.agg #[.bool false, .string ByteArray.empty]), 2, 24) := by kernel_rfl

/-- The tags of a condition, as they lie in memory: two cells each. -/
def flat (ts : List (Bool × ByteArray)) : List Value := ts.flatMap fun t => [.bool t.1, .string t.2]
theorem flat_length (ts : List (Bool × ByteArray)) : (flat ts).length = ts.length * 2 := by
  unfold flat
  induction ts with
  | nil => rfl
  | cons t r ih => simp at ih ⊢; omega
theorem flat_snoc (ts : List (Bool × ByteArray)) (t : Bool × ByteArray) : flat (ts ++ [t]) = flat ts ++ [.bool t.1, .string t.2] := by simp [flat]

/-- The slice value v owns the tags ts, in blocks from base on. -/
def Own (w : World) (base : Nat) (v : Value) (ts : List (Bool × ByteArray)) : Prop := w.ownsRow base 39 2 v ts.length (flat ts)

theorem grownBy_setCell {w w1 : World} {row : Option Nat} (h : w.grownBy w1 row) {q : Addr} (hq : w.heap.size ≤ q.block) (u : Value) : w.grownBy (w1.setCell q u) row :=
  ⟨h.os, h.tape, h.output, by simpa [World.setCell] using h.size, fun k hk hne => (Below.heap_setCell w1 q u k (by omega)).trans (h.block k hk hne)⟩
theorem grownBy_trans {w w1 w2 : World} {row : Option Nat} (h : w.grownBy w1 row) (k : w1.grownBy w2 row) : w.grownBy w2 row :=
  ⟨k.os.trans h.os, k.tape.trans h.tape, k.output.trans h.output, Nat.le_trans h.size k.size, fun i hi hne => (k.block i (Nat.lt_of_lt_of_le hi h.size) hne).trans (h.block i hi hne)⟩
/-- A store into another block. -/
theorem owns_setCell {w : World} {base : Nat} {e : TypeId} {size : Nat} {v : Value} {n : Nat} {xs : List Value} (h : w.ownsRow base e size v n xs) {q : Addr} (hq : v.ownBlock ≠ some q.block) (u : Value) : (w.setCell q u).ownsRow base e size v n xs := by
  obtain ⟨h1, h2⟩ := h
  refine ⟨h1, ?_⟩
  rcases h2 with h2 | ⟨g, cap, cur, rfl, hg, hh, r⟩
  · exact .inl h2
  · refine .inr ⟨g, cap, cur, rfl, hg, ?_, r⟩
    rw [Below.heap_setCell _ _ _ _ (fun e => hq (by rw [← e]; rfl))]
    exact hh
theorem owns_block_lt {w : World} {base : Nat} {e : TypeId} {size : Nat} {v : Value} {n : Nat} {xs : List Value} (h : w.ownsRow base e size v n xs) {g : Nat} (hg : v.ownBlock = some g) : g < w.heap.size := by
  rcases h.2 with ⟨rfl, _⟩ | ⟨g', cap, cur, rfl, _, hh, _⟩
  · cases hg
  · cases hg; exact (Array.getElem?_eq_some_iff.1 hh).1

/-- Two boxes of three cells, behind an append to another row. -/
theorem boxes_after {w w1 : World} {row : Option Nat} {o1 o2 o3 : Obj} (h : (((w.alloc o1).alloc o2).alloc o3).grownBy w1 row) (h0 : row ≠ some w.heap.size) (h1 : row ≠ some (w.heap.size + 1)) :
    w1.heap[w.heap.size]? = some o1 ∧ w1.heap[w.heap.size + 1]? = some o2 ∧ w.heap.size + 1 + 1 < w1.heap.size := by
  have hs := h.size
  simp at hs
  refine ⟨?_, ?_, by omega⟩
  · rw [h.block _ (by simp; omega) (Ne.symm h0), Below.heap_alloc _ _ _ (by simp; omega), Below.heap_alloc _ _ _ (by simp), heap_alloc_new]
  · rw [h.block _ (by simp) (Ne.symm h1), Below.heap_alloc _ _ _ (by simp)]
    have := heap_alloc_new (w.alloc o1) o2
    simpa using this
theorem cells3 {w : World} {b : Nat} {x0 x1 x2 : Value} {t : TypeId} (h : w.heap[b]? = some (.cells #[x0, x1, x2] t)) :
    w.cell? ⟨b, 0, none⟩ = some x0 ∧ w.cell? ⟨b, 1, none⟩ = some x1 ∧ w.cell? ⟨b, 2, none⟩ = some x2 ∧ w.frozen? ⟨b, 0, none⟩ = false ∧ w.frozen? ⟨b, 1, none⟩ = false ∧ w.frozen? ⟨b, 2, none⟩ = false := by
  simp [World.cell?, World.frozen?, h]

theorem new_any (p s : Bool) (w : World) :
    Calls Try.prog 12 #[.bool p, .bool s] w fun e w' => e = .returned (.agg #[.bool p, .bool s, .slice none 0 0]) ∧ Below w.heap.size w w' := by
  go_enter Try.func12, Try.ntmps12
  go_wp2
  exact bodyPost_ret (v := .agg #[.bool p, .bool s, .slice none 0 0]) (by simp [results, Try.results12, go_sem]) rfl ⟨rfl, (Below.refl _ _).alloc (Nat.le_refl _) _⟩

theorem with_any (p s : Bool) (v : Value) (ts : List (Bool × ByteArray)) (wk : Bool) (op : ByteArray) (base : Nat) (w : World) (hown : Own w base v ts) (hb : base ≤ w.heap.size) (hn : ts.length ≤ 65537) :
    Calls Try.prog 13 #[.agg #[.bool p, .bool s, v], .bool wk, .string op] w fun e w' => ∃ g cap, e = .returned (.agg #[.bool p, .bool s, .slice (some ⟨g, 0, none⟩) (ts.length + 1) cap]) ∧
      Own w' base (.slice (some ⟨g, 0, none⟩) (ts.length + 1) cap) (ts ++ [(wk, op)]) ∧ w.grownBy w' v.ownBlock ∧ (v.ownBlock = some g ∨ w.heap.size ≤ g) := by
  obtain ⟨a, cp, rfl⟩ : ∃ a cp, v = .slice a ts.length cp := by
    rcases hown.2 with ⟨rfl, h0⟩ | ⟨g, cap, cur, rfl, _⟩
    · exact ⟨none, 0, by rw [h0]⟩
    · exact ⟨_, _, rfl⟩
  obtain ⟨i0, hi, hz0, hz1, hz2⟩ := info_parts Try.info39
  have hsz : Value.ownBlock (.slice a ts.length cp) ≠ some w.heap.size := fun h => by have := owns_block_lt hown h; omega
  have hsz1 : Value.ownBlock (.slice a ts.length cp) ≠ some (w.heap.size + 1) := fun h => by have := owns_block_lt hown h; omega
  have hown3 : ∀ o1 o2 o3, (((w.alloc o1).alloc o2).alloc o3).ownsRow base 39 2 (.slice a ts.length cp) ts.length (flat ts) := fun o1 o2 o3 => ((World.ownsRow.alloc hown o1).alloc o2).alloc o3
  have hnews : ∀ (o1 o2 : Obj), ∀ j u, [Value.bool wk, Value.string op][j]? = some u → (((w.alloc o1).alloc o2).alloc (.cells #[.bool wk, .string op] 39)).cell? ((⟨w.heap.size + 1 + 1, 0, none⟩ : Addr).add j) = some u := fun o1 o2 =>
    World.news_of_block (cs := #[.bool wk, .string op]) (t := 39) (fr := (0, 0)) (by have := heap_alloc_new ((w.alloc o1).alloc o2) (.cells #[.bool wk, .string op] 39); simpa using this)
  have hone : ∀ u ∈ [Value.bool wk, Value.string op], u.oneCell' = true := by intro u hu; simp at hu; rcases hu with rfl | rfl <;> rfl
  go_enter Try.func13, Try.ntmps13
  go_wp2_with (at_builtin; refine wpList_append_lies _ rfl _ _ _ rfl base 39 i0 (.agg #[.bool false, .string ByteArray.empty]) 2 24 Try.underlying30 hi hz0 hz1 hz2 rfl (by decide) _ ts.length (flat ts) rfl (hown3 _ _ _) ⟨w.heap.size + 1 + 1, 0, none⟩ 1 1 [.bool wk, .string op] rfl rfl (hnews _ _) hone (by omega) ?h63 ?hby ?hbs (w.heap.size + 1 + 1 + 1) (by simp) ?_)
  case h63 => unfold maxLen; omega
  case hby => omega
  case hbs => simp; omega
  intro g cap w1 hown1 hgrow hat hlt
  obtain ⟨hB0, hB1, hS⟩ := boxes_after hgrow hsz hsz1
  obtain ⟨c0, c1, c2, f0, f1, f2⟩ := cells3 hB0
  obtain ⟨d0, d1, d2, e0, e1, e2⟩ := cells3 hB1
  have hs0 : w.heap.size < w1.heap.size := by omega
  have hs1 : w.heap.size + 1 < w1.heap.size := by omega
  have hg0 : Value.ownBlock (.slice (some ⟨g, 0, none⟩) (ts.length + 1) cap) ≠ some w.heap.size := by
    intro h
    have h' : g = w.heap.size := by simpa [Value.ownBlock] using h
    rcases hat with h2 | h2
    · exact hsz (h2.trans (by rw [h']))
    · omega
  have hg1 : Value.ownBlock (.slice (some ⟨g, 0, none⟩) (ts.length + 1) cap) ≠ some (w.heap.size + 1) := by
    intro h
    have h' : g = w.heap.size + 1 := by simpa [Value.ownBlock] using h
    rcases hat with h2 | h2
    · exact hsz1 (h2.trans (by rw [h']))
    · omega
  have HA : Hid (Value.ownBlock (.slice a ts.length cp) = some g ∨ w.heap.size ≤ g) := by
    rcases hat with h2 | h2
    · exact .inl h2
    · exact .inr (by omega)
  have HO : Hid (w1.ownsRow base 39 2 (.slice (some ⟨g, 0, none⟩) (ts.length + 1) cap) (ts.length + 1) (flat ts ++ [.bool wk, .string op])) := hown1
  have HG : Hid (w.grownBy w1 (Value.ownBlock (.slice a ts.length cp))) := grownBy_trans (grownBy_trans (grownBy_trans (World.grownBy_alloc w _ _) (World.grownBy_alloc _ _ _)) (World.grownBy_alloc _ _ _)) hgrow
  clear hown1 hgrow hat hown3 hnews hB0 hB1
  go_wp2
  refine bodyPost_ret (v := .agg #[.bool p, .bool s, .slice (some ⟨g, 0, none⟩) (ts.length + 1) cap]) (by simp [results, Try.results13, go_sem, d0, d1, d2]) rfl ⟨g, cap, rfl, ?_, ?_, HA.out⟩
  · have h5 := owns_setCell (owns_setCell (owns_setCell (owns_setCell HO.out (q := ⟨w.heap.size, 2, none⟩) hg0 (.slice (some ⟨g, 0, none⟩) (ts.length + 1) cap)) (q := ⟨w.heap.size + 1, 0, none⟩) hg1 (.bool p)) (q := ⟨w.heap.size + 1, 1, none⟩) hg1 (.bool s)) (q := ⟨w.heap.size + 1, 2, none⟩) hg1 (.slice (some ⟨g, 0, none⟩) (ts.length + 1) cap)
    unfold Own
    rw [flat_snoc, List.length_append]
    exact h5
  · exact grownBy_setCell (grownBy_setCell (grownBy_setCell (grownBy_setCell HG.out (Nat.le_refl _) _) (Nat.le_succ _) _) (Nat.le_succ _) _) (Nat.le_succ _) _
end Go.Proofs.Qxb6619350a
