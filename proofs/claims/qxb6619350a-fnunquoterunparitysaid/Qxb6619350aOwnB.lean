/-
  A SLICE OF BYTES OF THE CALL's OWN: appended to, turned into a string; the walk of appendBackslashes (17).
-/
import Derived.Test.Qxb6619350aUq
import Derived.Lib.AppendStr
import Derived.Laws.IdiomStrings
namespace Go.Proofs.Qxb6619350a
open Go.ChangeShapes Go.WideShapes Go.ChangeAt Go.RowKit

/-- v owns the bytes acc, in blocks from base on. -/
def OwnB (w : World) (base : Nat) (v : Value) (acc : List UInt8) : Prop := w.ownsRow base 5 1 v acc.length (Lib.byteCells acc)

theorem OwnB.ge {w : World} {base : Nat} {v : Value} {acc : List UInt8} (h : OwnB w base v acc) : ∀ k, v.ownBlock = some k → base ≤ k := by
  intro k hk
  rcases h.2 with ⟨rfl, _⟩ | ⟨g, cap, cur, rfl, hg, _⟩
  · cases hk
  · have e : g = k := by simpa [Value.ownBlock] using hk
    omega

/-- 'string(v)'. -/
theorem OwnB.text {w : World} {base : Nat} {v : Value} {acc : List UInt8} (h : OwnB w base v acc) : (convert 27 9 v).run Try.prog w = .ok (.string ⟨acc.toArray⟩) w := by
  rcases h.2 with ⟨rfl, h0⟩ | ⟨g, cap, cur, rfl, hg, r⟩
  · obtain rfl : acc = [] := List.eq_nil_of_length_eq_zero h0
    rw [run_convert_bytes_string w 27 9 5 none 0 0 Try.underlying27 Try.underlying5 Try.underlying9]
    rfl
  · refine run_convert_bytes_back (P := Try.prog) w 27 9 5 ⟨g, 0, none⟩ cap acc Try.underlying27 Try.underlying5 Try.underlying9 ?_
    intro j hj
    have h1 := World.ownsRow.cellAt h j (by omega)
    rw [add_plain, Nat.zero_add, h1]
    simp [Lib.byteCells, hj]

/-- 'b = append(b, c)'. -/
theorem wp_append_byte {w : World} {ops : Array Oper} {rest : List Oper} {o : Oper} {a : Act} {Q : Exit → Act → World → Prop} (base : Nat) (v : Value) (acc : List UInt8) (c : UInt8) (hgd : o.guard = none) (s x : Operand)
    (ho : o.op = .call { callee := .builtin .append, args := #[s, x], argTypes := #[27, 27] }) (hs : a.eval s = v) (hx : a.eval x = .slice (some ⟨w.heap.size, 0, none⟩) 1 1)
    (hown : OwnB w base v acc) (hb : base ≤ w.heap.size) (hlen : acc.length ≤ 140737488355327)
    (h : ∀ v' w', OwnB w' base v' (acc ++ [c]) → Below base w w' → wpList Try.prog ops Q rest (a.put o.dst v') w') :
    wpList Try.prog ops Q (o :: rest) a (w.alloc (.cells #[.int .u8 c.toNat] 5)) := by
  obtain ⟨i0, hi, hz0, hz1, hz2⟩ := info_parts Try.info5
  refine wpList_append_own _ hgd s x 27 ho base 5 i0 (.int .u8 0) 1 1 Try.underlying27 hi hz0 hz1 hz2 rfl (by decide) v acc.length (Lib.byteCells acc) hs (World.ownsRow.alloc hown _) ⟨w.heap.size, 0, none⟩ 1 1 [.int .u8 c.toNat] hx rfl ?_ ?_ ?_ ?_ ?_ ?_
  · intro j u hj
    match j, hj with
    | 0, hj => simp at hj; subst hj; simp [Addr.add]
  · intro u hu; simp at hu; subst hu; rfl
  · unfold maxLen; omega
  · omega
  · simp; omega
  · intro v' w' hown' hgrow _
    refine h v' w' ?_ (((Below.refl _ _).alloc hb _).grown hgrow (by simp; omega) (fun k hk => hown.ge k hk))
    unfold OwnB
    rw [byteCells_snoc, List.length_append]
    exact hown'

/-- 'b = append(b, s...)'. -/
theorem wp_append_text {w : World} {ops : Array Oper} {rest : List Oper} {o : Oper} {a : Act} {Q : Exit → Act → World → Prop} (base : Nat) (v : Value) (acc : List UInt8) (t : ByteArray) (hgd : o.guard = none) (s x : Operand)
    (ho : o.op = .call { callee := .builtin .append, args := #[s, x], argTypes := #[27, 9] }) (hs : a.eval s = v) (hx : a.eval x = .string t)
    (hown : OwnB w base v acc) (hb : base ≤ w.heap.size) (hlen : acc.length + t.size ≤ 140737488355328)
    (h : ∀ v' w', OwnB w' base v' (acc ++ t.data.toList) → Below base w w' → wpList Try.prog ops Q rest (a.put o.dst v') w') :
    wpList Try.prog ops Q (o :: rest) a w := by
  obtain ⟨i0, hi, hz0, hz1, hz2⟩ := info_parts Try.info5
  refine Lib.wpList_append_own_string w hgd s x 27 9 ho base 5 i0 Try.underlying27 Try.underlying9 hi hz0 hz1 hz2 v acc.length (Lib.byteCells acc) hs hown t hx ?_ hlen hb ?_
  · unfold maxLen; omega
  · intro v' w' hown' hgrow _
    refine h v' w' ?_ ((Below.refl _ _).grown hgrow hb (fun k hk => hown.ge k hk))
    unfold OwnB
    have e : Lib.byteCells (acc ++ t.data.toList) = Lib.byteCells acc ++ Lib.strCells t := by simp [Lib.byteCells, Lib.strCells]
    rw [e, List.length_append]
    exact hown'

theorem replicate_snoc (n : Nat) : List.replicate n (92 : UInt8) ++ [92] = List.replicate (n + 1) 92 := by
  rw [List.replicate_succ']

set_option maxHeartbeats 2000000 in
theorem backslashes_any (base : Nat) (v : Value) (acc : List UInt8) (n : Nat) (w : World) (hown : OwnB w base v acc) (hb : base ≤ w.heap.size) (hn : n ≤ 1048576) (hlen : acc.length ≤ 1048576) :
    Calls Try.prog 17 #[v, .int .i64 n] w fun e w' => ∃ v', e = .returned v' ∧ OwnB w' base v' (acc ++ List.replicate n 92) ∧ Below base w w' := by
  have HO : Hid (OwnB w base v acc) := hown
  clear hown
  go_enter Try.func17, Try.ntmps17
  go_wp2
  go_loopw [0, 5] (fun x i wr => ∃ (k : Nat), k ≤ n ∧ i = .int .i64 k ∧ OwnB wr base x (acc ++ List.replicate k 92) ∧ Below base w wr) (fun _ i _ => n - (intOf i).toNat)
  case atStart => exact ⟨0, Nat.zero_le _, rfl, by simpa using HO.out, Below.refl _ _⟩
  case round =>
    obtain ⟨k, hk, rfl, hO, hB⟩ := hrel
    have HK : Hid (OwnB wr base _ (acc ++ List.replicate k 92)) := hO
    clear hO
    have hbr : base ≤ wr.heap.size := Nat.le_trans hb hB.size
    have hal : (acc ++ List.replicate k 92).length ≤ 140737488355327 := by simp; omega
    by_cases hlt : k < n
    · go_wp2_with (at_builtin; refine wp_append_byte base _ (acc ++ List.replicate k 92) 92 rfl (.tmp 11) (.tmp 12) rfl rfl rfl HK.out hbr hal ?_; intro v' w' hO' hB')
      go_roundw
      case rel => exact ⟨k + 1, by omega, by go_num, by rw [← replicate_snoc, ← List.append_assoc]; exact hO', hB.trans hB'⟩
      case measure => simp [intOf]; omega
    · obtain rfl : k = n := by omega
      go_wp2
      go_ret
      exact ⟨_, rfl, HK.out, hB⟩

end Go.Proofs.Qxb6619350a
