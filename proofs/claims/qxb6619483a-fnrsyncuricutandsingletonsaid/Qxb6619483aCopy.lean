/-
  FnRsyncURICutAndSingleton (3): zzBytes (4), the copy of a slice of strings, the plain law.
-/
import Derived.Test.Qxb6619483aUri
import Derived.Laws.CopyOwn
import Derived.Deep.OwnRows
namespace Go.Proofs.Qxb6619483a
open Go.ChangeShapes Go.WideShapes Go.ChangeAt Go.RowKit

theorem Try.info9 : (Try.prog.info? 9).map (fun i => (i.zero, i.size, i.bytes)) = some (some (.string ByteArray.empty), 1, 16) := by kernel_rfl
theorem Try.size9 : (Try.prog.info? 9).map (·.size) = some 1 := by kernel_rfl

/-- A bool came back. -/
def IsBool (e : Ending) : Prop := ∃ r, e = .returned (.bool r)

theorem bytes4_big (a : Option Addr) (n cap : Nat) (i j : Int) (w : World) (hn : 1048576 < n) :
    Calls Try.prog 4 #[.slice a n cap, .int .i64 i, .int .i64 j] w fun e w' => e = .returned (.bool false) ∧ w = w' := by
  go_enter Try.func4, Try.ntmps4
  go_wp2
  go_ret
  exact ⟨rfl, rfl⟩

set_option maxHeartbeats 1000000 in
theorem bytes4_any (a : Option Addr) (n cap : Nat) (i j : Int) (S : Nat → ByteArray) (w : World) (hn : n ≤ 1048576) (hS : SRow w a n S) :
    Calls Try.prog 4 #[.slice a n cap, .int .i64 i, .int .i64 j] w fun e w' => IsBool e ∧ w = w' := by
  go_enter Try.func4, Try.ntmps4
  go_wp2
  go_loop [7, 8] (fun z i => ∃ (k : Nat) (t : Int), k ≤ n ∧ i = .int .i64 k ∧ z = .int .i64 t) (fun _ i => n - (intOf i).toNat)
  case atStart => exact ⟨0, _, Nat.zero_le _, rfl, rfl⟩
  case round =>
    obtain ⟨k, t, hk, rfl, rfl⟩ := hrel
    by_cases hlt : k < n
    · rcases hS with rfl | ⟨b, off, rfl, hb, hcell⟩
      · omega
      have hc := hcell k hlt
      clear hcell
      go_wp2
      · go_ret
        exact ⟨⟨_, rfl⟩, rfl⟩
      · go_ret
        exact ⟨⟨_, rfl⟩, rfl⟩
      · go_round
        case rel => exact ⟨k + 1, _, by omega, by go_num, rfl⟩
        case measure => simp [intOf]; omega
    · go_wp2
      go_ret
      exact ⟨⟨_, rfl⟩, rfl⟩

/-! ### The copy -/
def cellsOf (S : Nat → ByteArray) (n : Nat) : List Value := (List.range n).map fun i => Value.string (S i)
theorem cellsOf_length (S : Nat → ByteArray) (n : Nat) : (cellsOf S n).length = n := by simp [cellsOf]
theorem cellsOf_one (S : Nat → ByteArray) (n : Nat) : ∀ v ∈ cellsOf S n, v.oneCell' = true := by
  intro v hv
  obtain ⟨i, _, rfl⟩ := List.mem_map.1 hv
  rfl
theorem cellsOf_get (S : Nat → ByteArray) (n j : Nat) (h : j < n) : (cellsOf S n)[j]? = some (.string (S j)) := by
  simp [cellsOf, h]

theorem srow_copy {w : World} {g n : Nat} {t : TypeId} {L : List Value} {S : Nat → ByteArray} (hl : L.length = n) (h : w.heap[g]? = some (.cells (splice L 0 (cellsOf S n)).toArray t (0, 0))) : SRow w (some ⟨g, 0, none⟩) n S := by
  refine .inr ⟨g, 0, rfl, (Array.getElem?_eq_some_iff.1 h).1, fun k hk => ?_⟩
  have e : splice L 0 (cellsOf S n) = cellsOf S n := by
    unfold splice
    rw [cellsOf_length, Nat.zero_add, List.drop_of_length_le (by omega)]
    simp
  rw [e] at h
  simp only [World.cell?, h, Nat.zero_add, List.getElem?_toArray]
  exact cellsOf_get S n k hk

theorem wp_copy_strs {w : World} {ops : Array Oper} {rest : List Oper} {o : Oper} {a : Act} {Q : Exit → Act → World → Prop} (x : Addr) (n cap : Nat) (S : Nat → ByteArray) (hgd : o.guard = none) (d s : Operand)
    (ho : o.op = .call { callee := .builtin .copy, args := #[d, s], argTypes := #[22, 22] }) (hd : a.eval d = .slice (some ⟨w.heap.size, 0, none⟩) n n) (hs : a.eval s = .slice (some x) n cap)
    (hcell : ∀ i, i < n → w.cell? (x.add i) = some (.string (S i)))
    (h : ∀ w', SRow w' (some ⟨w.heap.size, 0, none⟩) n S → Below w.heap.size w w' → wpList Try.prog ops Q rest (a.put o.dst (goInt n)) w') :
    wpList Try.prog ops Q (o :: rest) a (w.alloc (.cells (madeCells #[.string ByteArray.empty] n) 9)) := by
  have hcs := cellsOf_length S n
  refine wpList_copy_splice hgd d s 22 22 ho 9 Try.underlying22 Try.size9 _ _ _ _ _ _ hd hs w.heap.size 0 (madeCells #[.string ByteArray.empty] n).toList 9 ?_ (cellsOf S n) ?_ ?_ ?_ (cellsOf_one _ _) w.heap.size w ?_ (Nat.le_refl _) ?_
  · rw [Array.toArray_toList]; exact heap_alloc_new _ _
  · rw [hcs]; exact (Nat.min_self n).symm
  · intro _
    refine ⟨rfl, x, rfl, fun j v hj => ?_⟩
    have hjn : j < n := by
      have := (List.getElem?_eq_some_iff.1 hj).1
      omega
    rw [cellsOf_get S n j hjn] at hj
    cases hj
    have h1 := hcell j hjn
    rw [← h1]
    exact World.cell?_of_block (w := w) (Below.heap_alloc w _ _ (World.block_lt_of_cell? w _ h1))
  · rw [hcs]; simp [size_madeCells]
  · exact (Below.refl _ _).alloc (Nat.le_refl _) _
  · intro w' hw' hb'
    rw [hcs]
    exact h w' (srow_copy (by simp [size_madeCells]) hw'.out) hb'

/-! ### Rows cut -/
theorem SRow.front {w : World} {a : Option Addr} {n : Nat} {S : Nat → ByteArray} (h : SRow w a n S) (c : Nat) (hc : c ≤ n) : SRow w a c S := by
  rcases h with rfl | ⟨b, off, rfl, hb, hcell⟩
  · exact .inl (by omega)
  · exact .inr ⟨b, off, rfl, hb, fun i hi => hcell i (by omega)⟩
theorem SRow.back {w : World} {b off n : Nat} {S : Nat → ByteArray} (h : SRow w (some ⟨b, off, none⟩) n S) (c m : Nat) (hc : c + m ≤ n) : SRow w (some ⟨b, off + c, none⟩) m (fun i => S (c + i)) := by
  rcases h with rfl | ⟨b', off', he, hb, hcell⟩
  · exact .inl (by omega)
  · cases he
    exact .inr ⟨b, off + c, rfl, hb, fun i hi => by rw [Nat.add_assoc]; exact hcell (c + i) (by omega)⟩
theorem SRow.later {w w1 : World} {a : Option Addr} {n : Nat} {S : Nat → ByteArray} (h : SRow w a n S) (hb : Below w.heap.size w w1) : SRow w1 a n S := by
  rcases h with rfl | ⟨b, off, rfl, hlt, hcell⟩
  · exact .inl rfl
  · exact .inr ⟨b, off, rfl, Nat.lt_of_lt_of_le hlt hb.size, fun i hi => (hb.cell (p := ⟨b, off + i, none⟩) hlt).trans (hcell i hi)⟩

/-! ### The plain law -/
theorem fr_shift (S : Nat → ByteArray) (c : Nat) : ∀ (m k : Nat), fr (fun i => S (c + i)) k m = fr S (c + k) m := by
  intro m
  induction m with
  | zero => intro k; rfl
  | succ m ih =>
    intro k
    unfold fr
    rw [ih (k + 1), Nat.add_assoc]
theorem fr_succ (S : Nat → ByteArray) (k m : Nat) : fr S k (m + 1) = if isR (S k) = true then S k else fr S (k + 1) m := rfl
theorem empty_isEmpty : ByteArray.empty.toList.isEmpty = true := by rw [Lib.toList_data]; rfl
theorem fr_cut (S : Nat → ByteArray) (b : Nat) : ∀ (a k : Nat), fr S k (a + b) = if (fr S k a).toList.isEmpty = true then fr S (k + a) b else fr S k a := by
  intro a
  induction a with
  | zero =>
    intro k
    rw [Nat.zero_add, Nat.add_zero, if_pos (show (fr S k 0).toList.isEmpty = true from empty_isEmpty)]
  | succ a ih =>
    intro k
    rw [show a + 1 + b = (a + b) + 1 by omega, fr_succ, fr_succ]
    by_cases h : isR (S k) = true
    · rw [if_pos h, if_pos h]
      rw [if_neg]
      intro he
      have h0 : S k = ByteArray.empty := by
        have h1 : (S k).toList = [] := by simpa using he
        rw [Lib.toList_data] at h1
        have := Lib.mk_data (S k)
        rw [h1] at this
        exact this.symm
      rw [h0, isR_nil] at h
      cases h
    · rw [if_neg h, if_neg h, ih (k + 1), show k + 1 + a = k + (a + 1) by omega]

/-- The whole, out of the front and the back. -/
theorem fr_whole (S : Nat → ByteArray) (n c : Nat) (hc : c ≤ n) : fr S 0 n = if (fr S 0 c).toList.isEmpty = true then fr (fun i => S (c + i)) 0 (n - c) else fr S 0 c := by
  have h := fr_cut S (n - c) c 0
  rw [show c + (n - c) = n by omega, Nat.zero_add] at h
  rw [h, fr_shift, Nat.add_zero]
theorem fr_single (S : Nat → ByteArray) (j : Nat) : fr (fun i => S (j + i)) 0 1 = if isR (S j) = true then S j else ByteArray.empty := by
  simp [fr]

theorem rsync_at {T : ByteArray} (a : Option Addr) (n cap : Nat) (S : Nat → ByteArray) (w : World) (hn : n ≤ 1048576) (hS : SRow w a n S) (hsz : ∀ i, i < n → (S i).size ≤ maxLen) (hT : Hid (fr S 0 n = T)) :
    Calls Try.prog 5 #[.slice a n cap] w fun e w' => e = .returned (.string T) ∧ w = w' := by
  rw [← hT.out]
  exact (rsync_any a n cap S w hn hS hsz).mono fun _ _ h => ⟨h.1, h.2.symm⟩

end Go.Proofs.Qxb6619483a
