/-
  WHAT THE LAWS SHARE: a slice of bytes that came in, and its copy.
-/
import Derived.Test.Qxb6619291aHead
import Derived.Laws.CopyOwn
import Derived.Deep.OwnRows
namespace Go.Proofs.Qxb6619291a
open Go.ChangeShapes Go.WideShapes Go.ChangeAt Go.RowKit
open Plain

theorem Try.info5 : (Try.prog.info? 5).map (fun i => (i.zero, i.size, i.bytes)) = some (some (.int .u8 0), 1, 1) := by kernel_rfl
theorem Try.size5 : (Try.prog.info? 5).map (·.size) = some 1 := by kernel_rfl

/-- The cells that go over. -/
def cellsOf (zs : List Int) : List Value := zs.map (Value.int .u8)
theorem cellsOf_length (zs : List Int) : (cellsOf zs).length = zs.length := by simp [cellsOf]
theorem cellsOf_one (zs : List Int) : ∀ v ∈ cellsOf zs, v.oneCell' = true := by
  intro v hv
  obtain ⟨n, _, rfl⟩ := List.mem_map.1 hv
  rfl
theorem cellsOf_src {w : World} {x : Addr} {z : List Int} (h : ∀ i, i < z.length → w.cell? (x.add i) = some (.int .u8 (z.getD i 0))) (n : Nat) (hn : n ≤ z.length) :
    ∀ (j : Nat) (v : Value), (cellsOf (z.take n))[j]? = some v → w.cell? (x.add j) = some v := by
  intro j v hj
  unfold cellsOf at hj
  rw [List.getElem?_map, Option.map_eq_some_iff] at hj
  obtain ⟨c, hc, rfl⟩ := hj
  obtain ⟨hl, hcc⟩ := List.getElem?_eq_some_iff.1 hc
  simp at hl
  rw [h j (by omega)]
  simp at hcc
  simp [show j < z.length by omega, hcc]

/-- The copy, known as a row. -/
theorem row_copy {w : World} {g : Nat} {t : TypeId} {L : List Value} {zs : List Int} (hl : L.length = zs.length) (h : w.heap[g]? = some (.cells (splice L 0 (cellsOf zs)).toArray t (0, 0))) : Row w (some ⟨g, 0, none⟩) zs := by
  refine .inr ⟨g, 0, rfl, (Array.getElem?_eq_some_iff.1 h).1, fun k hk => ?_⟩
  have e : splice L 0 (cellsOf zs) = cellsOf zs := by
    unfold splice
    rw [cellsOf_length, Nat.zero_add, List.drop_of_length_le (by omega)]
    simp
  rw [e] at h
  simp [World.cell?, h, cellsOf, hk]

/-- 'zzc := make([]byte, n); copy(zzc, b)': the copy, as one step of the walk. -/
theorem wp_copy_bytes {w : World} {ops : Array Oper} {rest : List Oper} {o : Oper} {a : Act} {Q : Exit → Act → World → Prop} (x : Addr) (n cap : Nat) (z : List Int) (hgd : o.guard = none) (d s : Operand)
    (ho : o.op = .call { callee := .builtin .copy, args := #[d, s], argTypes := #[22, 22] }) (hd : a.eval d = .slice (some ⟨w.heap.size, 0, none⟩) n n) (hs : a.eval s = .slice (some x) n cap)
    (hcell : ∀ i, i < z.length → w.cell? (x.add i) = some (.int .u8 (z.getD i 0))) (hn : n ≤ z.length)
    (h : ∀ w', Row w' (some ⟨w.heap.size, 0, none⟩) (z.take n) → Below w.heap.size w w' → wpList Try.prog ops Q rest (a.put o.dst (goInt n)) w') :
    wpList Try.prog ops Q (o :: rest) a (w.alloc (.cells (madeCells #[.int .u8 0] n) 5)) := by
  have el : (z.take n).length = n := by simp; omega
  have hcs := cellsOf_length (z.take n)
  rw [el] at hcs
  refine wpList_copy_splice hgd d s 22 22 ho 5 Try.underlying22 Try.size5 _ _ _ _ _ _ hd hs w.heap.size 0 (madeCells #[.int .u8 0] n).toList 5 ?_ (cellsOf (z.take n)) ?_ ?_ ?_ (cellsOf_one _) w.heap.size w ?_ (Nat.le_refl _) ?_
  · rw [Array.toArray_toList]; exact heap_alloc_new _ _
  · rw [hcs]; exact (Nat.min_self n).symm
  · intro _
    refine ⟨rfl, x, rfl, fun j v hj => ?_⟩
    have h1 := cellsOf_src hcell n hn j v hj
    have hb : (x.add j).block < w.heap.size := by
      simp only [World.cell?] at h1
      split at h1
      · rename_i hh; exact (Array.getElem?_eq_some_iff.1 hh).1
      · simp at h1
    rw [← h1]
    exact World.cell?_of_block (w := w) (Below.heap_alloc w _ _ hb)
  · rw [hcs]; simp [size_madeCells]
  · exact (Below.refl _ _).alloc (Nat.le_refl _) _
  · intro w' hw' hb'
    rw [hcs]
    exact h w' (row_copy (by simp [size_madeCells]; omega) hw'.out) hb'

theorem wf_lo {a : Int} (h : (Lit.int .i64 a).wf = true) : -9223372036854775808 ≤ a := by
  simp [Lit.wf, IntKind.min, IntKind.max, IntKind.bits, IntKind.signed] at h; omega
theorem wf_hi {a : Int} (h : (Lit.int .i64 a).wf = true) : a ≤ 9223372036854775807 := by
  simp [Lit.wf, IntKind.min, IntKind.max, IntKind.bits, IntKind.signed] at h; omega

end Go.Proofs.Qxb6619291a
