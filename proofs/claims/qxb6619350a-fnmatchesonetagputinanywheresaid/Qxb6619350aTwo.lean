/-
  TWO TAG CONDITIONS IN TWO VARIABLES OF THE LAW's OWN; one tag put in anywhere; the plain law.
-/
import Derived.Test.Qxb6619350aDiffer
namespace Go.Proofs.Qxb6619350a
open Go.ChangeShapes Go.WideShapes Go.ChangeAt Go.RowKit

structure Two (w0 w : World) (B1 B2 : Nat) (p s : Bool) (v1 v2 : Value) (t1 t2 : List (Bool × ByteArray)) : Prop where
  i1 : Inv w0 w B1 p s v1 t1
  i2 : Inv w0 w B2 p s v2 t2
  hb : Below w0.heap.size w0 w
  bb : B1 ≠ B2
  vv : ∀ g, v1.ownBlock = some g → v2.ownBlock ≠ some g
  vb : v1.ownBlock ≠ some B2
  bv : v2.ownBlock ≠ some B1

theorem Two.symm {w0 w : World} {B1 B2 : Nat} {p s : Bool} {v1 v2 : Value} {t1 t2 : List (Bool × ByteArray)} (h : Two w0 w B1 B2 p s v1 v2 t1 t2) : Two w0 w B2 B1 p s v2 v1 t2 t1 :=
  ⟨h.i2, h.i1, h.hb, Ne.symm h.bb, fun g h2 h1 => h.vv g h1 h2, h.bv, h.vb⟩

theorem Two.step {w0 w w1 : World} {B1 B2 : Nat} {p s : Bool} {v1 v2 : Value} {t1 t2 : List (Bool × ByteArray)} (h : Two w0 w B1 B2 p s v1 v2 t1 t2) (hg : w.grownBy w1 v1.ownBlock) {g n cap : Nat} {t : Bool × ByteArray}
    (ho : Own w1 w0.heap.size (.slice (some ⟨g, 0, none⟩) n cap) (t1 ++ [t])) (hat : v1.ownBlock = some g ∨ w.heap.size ≤ g) :
    Two w0 (((w1.setCell ⟨B1, 0, none⟩ (.bool p)).setCell ⟨B1, 1, none⟩ (.bool s)).setCell ⟨B1, 2, none⟩ (.slice (some ⟨g, 0, none⟩) n cap)) B1 B2 p s (.slice (some ⟨g, 0, none⟩) n cap) v2 (t1 ++ [t]) t2 := by
  have hB1 := h.i1.hB
  have hb1 : Below w0.heap.size w0 w1 := Below.grownOwn h.i1 h.hb hg
  refine ⟨h.i1.step hg ho hat, Inv.aside h.i2 hg h.bb ?_ h.vb h.bv _ _ _, ((hb1.setCell (p := ⟨B1, 0, none⟩) hB1 _).setCell (p := ⟨B1, 1, none⟩) hB1 _).setCell (p := ⟨B1, 2, none⟩) hB1 _, h.bb, ?_, ?_, h.bv⟩
  · cases hv : v2.ownBlock with
    | none => exact .inl rfl
    | some k => exact .inr (fun e => h.vv k e.symm hv)
  · intro k hk h2
    have e : g = k := by simpa [Value.ownBlock] using hk
    subst e
    rcases hat with h1 | h1
    · exact h.vv g h1 h2
    · have := owns_block_lt h.i2.own h2
      omega
  · intro e
    have e' : g = B2 := by simpa [Value.ownBlock] using e
    subst e'
    rcases hat with h1 | h1
    · exact h.vb h1
    · have := h.i2.lt
      omega

theorem with_two {w0 wr : World} {B1 B2 : Nat} {p s : Bool} {v1 v2 : Value} {t1 t2 : List (Bool × ByteArray)} (h : Two w0 wr B1 B2 p s v1 v2 t1 t2) (hn : t1.length ≤ 65537) (wk : Bool) (op : ByteArray) (q : Nat) :
    Calls Try.prog 13 #[.agg #[.bool p, .bool s, v1], .bool wk, .string op] (wr.drewN q) fun e w' => ∃ g cap, e = .returned (.agg #[.bool p, .bool s, .slice (some ⟨g, 0, none⟩) (t1.length + 1) cap]) ∧
      Hid (Two w0 (((w'.setCell ⟨B1, 0, none⟩ (.bool p)).setCell ⟨B1, 1, none⟩ (.bool s)).setCell ⟨B1, 2, none⟩ (.slice (some ⟨g, 0, none⟩) (t1.length + 1) cap)) B1 B2 p s (.slice (some ⟨g, 0, none⟩) (t1.length + 1) cap) v2 (t1 ++ [(wk, op)]) t2) ∧
      w'.cell? ⟨B1, 0, none⟩ = some (.bool p) ∧ w'.cell? ⟨B1, 1, none⟩ = some (.bool s) ∧ w'.cell? ⟨B1, 2, none⟩ = some v1 ∧ w'.frozen? ⟨B1, 0, none⟩ = false ∧ w'.frozen? ⟨B1, 1, none⟩ = false ∧ w'.frozen? ⟨B1, 2, none⟩ = false := by
  refine (with_boxed h.i1 h.hb hn wk op q).mono ?_
  rintro e w' ⟨g, cap, rfl, ho, hg, hat, _, hc⟩
  exact ⟨g, cap, rfl, h.step hg ho hat, hc⟩

/-- Two fresh conditions. -/
theorem Two.start {w0 w1 w2 : World} (h1 : Below w0.heap.size w0 w1) (p s : Bool) (h2 : Below (w1.heap.size + 1) (w1.alloc (.cells #[.bool p, .bool s, .slice none 0 0] 32)) w2) :
    Two w0 (w2.alloc (.cells #[.bool p, .bool s, .slice none 0 0] 32)) w1.heap.size w2.heap.size p s (.slice none 0 0) (.slice none 0 0) [] [] := by
  have hs := h2.size
  simp at hs
  have hs1 := h1.size
  have hbx : Inv w0 w2 w1.heap.size p s (.slice none 0 0) [] := ⟨by rw [h2.block _ (by omega)]; exact heap_alloc_new _ _, World.ownsRow_nil _ _ _ _, by simp [Value.ownBlock], hs1⟩
  have hbel : Below w0.heap.size w0 w2 := (h1.alloc hs1 _).trans (h2.mono (by omega))
  exact ⟨hbx.alloc _, Inv.start hbel.size p s, hbel.alloc hbel.size _, by omega, by simp [Value.ownBlock], by simp [Value.ownBlock], by simp [Value.ownBlock]⟩

/-! ### One tag put in -/
/-- The first k tags, one more put in ahead of number a. -/
def t2 (B : Nat → Bool) (S : Nat → ByteArray) (x : Bool × ByteArray) (a k : Nat) : List (Bool × ByteArray) := if k ≤ a then tg B S k else tg B S a ++ x :: (tg B S k).drop a

theorem t2_len (B : Nat → Bool) (S : Nat → ByteArray) (x : Bool × ByteArray) (a k : Nat) : (t2 B S x a k).length ≤ k + 1 := by
  unfold t2
  split
  · rw [tg_length]; omega
  · simp [tg_length]; omega
theorem t2_le (B : Nat → Bool) (S : Nat → ByteArray) (x : Bool × ByteArray) (a k : Nat) (h : k ≤ a) : t2 B S x a k = tg B S k := by simp [t2, h]
theorem drop_succ (B : Nat → Bool) (S : Nat → ByteArray) (a k : Nat) (h : a ≤ k) : (tg B S (k + 1)).drop a = (tg B S k).drop a ++ [(B k, S k)] := by
  rw [tg_succ, List.drop_append_of_le_length (by rw [tg_length]; exact h)]
theorem t2_at (B : Nat → Bool) (S : Nat → ByteArray) (x : Bool × ByteArray) (a : Nat) : t2 B S x a (a + 1) = (tg B S a ++ [x]) ++ [(B a, S a)] := by
  unfold t2
  rw [if_neg (by omega), drop_succ _ _ _ _ (Nat.le_refl _), List.drop_of_length_le (by rw [tg_length]; omega)]
  simp
theorem t2_succ (B : Nat → Bool) (S : Nat → ByteArray) (x : Bool × ByteArray) (a k : Nat) (h : k ≠ a) : t2 B S x a (k + 1) = t2 B S x a k ++ [(B k, S k)] := by
  unfold t2
  by_cases hk : k < a
  · rw [if_pos (by omega), if_pos (by omega), tg_succ]
  · rw [if_neg (by omega), if_neg (by omega), drop_succ _ _ _ _ (by omega)]
    simp

/-- Behind the 'if' of the round. -/
def t2m (B : Nat → Bool) (S : Nat → ByteArray) (x : Bool × ByteArray) (a k : Nat) : List (Bool × ByteArray) := if k = a then t2 B S x a k ++ [x] else t2 B S x a k
theorem t2m_next (B : Nat → Bool) (S : Nat → ByteArray) (x : Bool × ByteArray) (a k : Nat) : t2 B S x a (k + 1) = t2m B S x a k ++ [(B k, S k)] := by
  unfold t2m
  by_cases h : k = a
  · subst h; rw [if_pos rfl, t2_at, t2_le _ _ _ _ _ (Nat.le_refl _)]
  · rw [if_neg h, t2_succ _ _ _ _ _ h]
theorem t2m_len (B : Nat → Bool) (S : Nat → ByteArray) (x : Bool × ByteArray) (a k : Nat) : (t2m B S x a k).length ≤ k + 1 := by
  have h := t2_len B S x a (k + 1)
  rw [t2m_next] at h
  simp at h
  omega

/-- The whole: the tag is in. -/
def t2w (B : Nat → Bool) (S : Nat → ByteArray) (x : Bool × ByteArray) (a n : Nat) : List (Bool × ByteArray) := tg B S a ++ x :: (tg B S n).drop a
theorem t2w_lt (B : Nat → Bool) (S : Nat → ByteArray) (x : Bool × ByteArray) (a n : Nat) (h : a < n) : t2 B S x a n = t2w B S x a n := by simp [t2, t2w, show ¬ n ≤ a by omega]
theorem t2w_eq (B : Nat → Bool) (S : Nat → ByteArray) (x : Bool × ByteArray) (n : Nat) : tg B S n ++ [x] = t2w B S x n n := by
  unfold t2w
  rw [List.drop_of_length_le (by rw [tg_length]; omega)]
theorem tg_take (B : Nat → Bool) (S : Nat → ByteArray) (a n : Nat) (h : a ≤ n) : (tg B S n).take a = tg B S a := by
  unfold tg
  rw [← List.map_take, List.take_range, Nat.min_eq_left h]
theorem any_t2w (B : Nat → Bool) (S : Nat → ByteArray) (x : Bool × ByteArray) (a n : Nat) (h : a ≤ n) (f : Bool × ByteArray → Bool) : (t2w B S x a n).any f = ((tg B S n).any f || f x) := by
  unfold t2w
  rw [List.any_append, List.any_cons]
  have e : (tg B S n).any f = ((tg B S a).any f || ((tg B S n).drop a).any f) := by
    rw [← tg_take B S a n h, ← List.any_append, List.take_append_drop]
  rw [e]
  cases (tg B S a).any f <;> cases f x <;> simp

/-- THE PLAIN LAW. -/
theorem match_t2w (star : Bool) (B : Nat → Bool) (S : Nat → ByteArray) (x : Bool × ByteArray) (a n : Nat) (h : a ≤ n) (cur : ByteArray) (strong : Bool) (he : cur.toList.isEmpty = false) :
    matchB star (t2w B S x a n) cur strong = (matchB star (tg B S n) cur strong || hit strong cur x) := by
  unfold matchB
  simp only [he, Bool.false_eq_true, if_false]
  cases star
  · simp only [Bool.false_eq_true, if_false]
    exact any_t2w B S x a n h _
  · simp
theorem match_empty (star : Bool) (ts : List (Bool × ByteArray)) (cur : ByteArray) (strong : Bool) (he : cur.toList.isEmpty = true) : matchB star ts cur strong = false := by simp [matchB, he]
theorem match_none (star : Bool) (cur : ByteArray) (strong : Bool) (he : cur.toList.isEmpty = false) : matchB star [] cur strong = star := by
  cases star <;> simp [matchB, he]

end Go.Proofs.Qxb6619350a
