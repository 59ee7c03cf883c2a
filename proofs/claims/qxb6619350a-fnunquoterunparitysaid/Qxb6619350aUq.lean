/-
  THE WALK of unquote (16).
-/
import Derived.Test.Qxb6619350aShelf
import Derived.WalkKit
import Derived.ProofKit
import Derived.WalkLawsBesides
import Derived.WalkSpells
import Derived.Outline
namespace Go.Proofs.Qxb6619350a
open Go.ChangeShapes Go.WideShapes Go.ChangeAt Go.RowKit

/-- What 'unquote' reads of the bytes behind the first: the text up to the closing quote, and whether nothing follows. -/
def uq : List UInt8 → List UInt8 → Option (List UInt8 × Bool)
  | [], _ => none
  | [c], acc => if c = 34 then some (acc, true) else none
  | c :: d :: r, acc => if c = 34 then some (acc, false) else if c = 92 then uq r (acc ++ [d]) else uq (d :: r) (acc ++ [c])

/-- The two results. -/
def uqR (o : Option (List UInt8 × Bool)) : List UInt8 × Bool := o.getD ([], false)

theorem byteCells_snoc (l : List UInt8) (c : UInt8) : Lib.byteCells (l ++ [c]) = Lib.byteCells l ++ [.int .u8 c.toNat] := by simp [Lib.byteCells]

theorem uq_quote (acc r : List UInt8) : uq (34 :: r) acc = some (acc, r.isEmpty) := by cases r <;> simp [uq]
theorem uq_esc (d : UInt8) (r acc : List UInt8) : uq (92 :: d :: r) acc = uq r (acc ++ [d]) := by simp [uq]
theorem uq_last (c : UInt8) (acc : List UInt8) (h : ¬ c = 34) : uq [c] acc = none := by simp [uq, h]
theorem uq_plain (c : UInt8) (r acc : List UInt8) (h : ¬ c = 34) (h2 : ¬ c = 92) : uq (c :: r) acc = uq r (acc ++ [c]) := by
  cases r <;> simp [uq, h, h2]

theorem drop_byte (s : ByteArray) (k : Nat) (h : k < s.size) : s.data.toList.drop k = s[k] :: s.data.toList.drop (k + 1) := by
  rw [List.drop_eq_getElem_cons (by simpa using h)]; rfl
theorem byte_eq (c : UInt8) (n : Nat) (hn : n < 256) (h : (c.toNat : Int) = n) : c = UInt8.ofNat n := by
  apply UInt8.toNat_inj.1
  simp
  omega
theorem byte_ne (c : UInt8) (n : Nat) (hn : n < 256) (h : ¬ (c.toNat : Int) = n) : ¬ c = UInt8.ofNat n := by
  rintro rfl
  apply h
  simp
  omega

/-- The ways of the round, in plain words. -/
theorem way_quote {s : ByteArray} {k : Nat} {acc : List UInt8} {T : Option (List UInt8 × Bool)} (h : k < s.size) (hS : T = uq (s.data.toList.drop k) acc) (hq : ((s[k].toNat : Int) == 34) = true) :
    uqR T = (acc, ((k : Int) == (s.size : Int) - 1)) := by
  have hq' : (s[k].toNat : Int) = 34 := by simpa using hq
  have hc : s[k] = 34 := byte_eq s[k] 34 (by omega) hq'
  rw [hS, drop_byte s k h, hc, uq_quote]
  have e : (s.data.toList.drop (k + 1)).isEmpty = ((k : Int) == (s.size : Int) - 1) := by
    rw [Bool.eq_iff_iff]
    simp
    constructor
    · intro h2; have : s.size = s.data.size := rfl; omega
    · intro h2; have : s.size = s.data.size := rfl; omega
  simp [uqR, e]
theorem way_esc {s : ByteArray} {k : Nat} {acc : List UInt8} {T : Option (List UInt8 × Bool)} (h : k + 1 < s.size) (hS : T = uq (s.data.toList.drop k) acc) (hq : (s[k].toNat : Int) = 92) :
    T = uq (s.data.toList.drop (k + 2)) (acc ++ [s[k + 1]]) := by
  have hc : s[k] = 92 := byte_eq s[k] 92 (by omega) hq
  rw [hS, drop_byte s k (by omega), drop_byte s (k + 1) h, hc, uq_esc]
theorem way_last {s : ByteArray} {k : Nat} {acc : List UInt8} {T : Option (List UInt8 × Bool)} (h : k < s.size) (h1 : s.size ≤ k + 1) (hS : T = uq (s.data.toList.drop k) acc) (hq : ((s[k].toNat : Int) == 34) = false) (x : List UInt8) :
    T = uq (s.data.toList.drop (k + 1)) x := by
  have hq' : ¬ (s[k].toNat : Int) = 34 := by simpa using hq
  have hc : ¬ s[k] = 34 := byte_ne s[k] 34 (by omega) hq'
  have e : s.data.toList.drop (k + 1) = [] := List.drop_of_length_le (by simp; exact h1)
  rw [hS, drop_byte s k h, e, uq_last _ _ hc]
  rfl
theorem way_plain {s : ByteArray} {k : Nat} {acc : List UInt8} {T : Option (List UInt8 × Bool)} (h : k < s.size) (hS : T = uq (s.data.toList.drop k) acc) (hq : ((s[k].toNat : Int) == 34) = false) (hq2 : ¬ (s[k].toNat : Int) = 92) :
    T = uq (s.data.toList.drop (k + 1)) (acc ++ [s[k]]) := by
  have hq' : ¬ (s[k].toNat : Int) = 34 := by simpa using hq
  rw [hS, drop_byte s k h, uq_plain _ _ _ (byte_ne s[k] 34 (by omega) hq') (byte_ne s[k] 92 (by omega) hq2)]

set_option maxHeartbeats 2000000 in
set_option maxRecDepth 100000 in
theorem unquote_any (s : ByteArray) (w : World) (hs : s.size ≤ 1048576) :
    Calls Try.prog 16 #[.string s] w fun e w' => e = .returned (.tuple #[.string ⟨(uqR (uq (s.data.toList.drop 1) [])).1.toArray⟩, .bool (uqR (uq (s.data.toList.drop 1) [])).2]) ∧ Below w.heap.size w w' := by
  obtain ⟨T, hT⟩ : ∃ T, T = uq (s.data.toList.drop 1) [] := ⟨_, rfl⟩
  rw [← hT]
  have HT : Hid (T = uq (s.data.toList.drop 1) []) := hT
  clear hT
  go_enter Try.func16, Try.ntmps16
  go_wp2
  go_loopw [5] (fun i wr => ∃ (k : Nat) (acc : List UInt8), 1 ≤ k ∧ k ≤ s.size + 1 ∧ i = .int .i64 k ∧ acc.length ≤ k ∧ Lib.IsBuilder 43 5 w.heap.size w.heap.size (Lib.byteCells acc) wr ∧ Below w.heap.size w wr ∧ Hid (T = uq (s.data.toList.drop k) acc)) (fun i _ => s.size + 1 - (intOf i).toNat)
  case atStart => exact ⟨1, [], by omega, by omega, rfl, by simp, Lib.fresh_isBuilder 43 5 w, (Below.refl _ _).alloc (Nat.le_refl _) _, HT⟩
  case round =>
    obtain ⟨k, acc, hk1, hk2, rfl, hal, hI, hB, hS⟩ := hrel
    by_cases hlt : k < s.size
    · have HI : Hid (Lib.IsBuilder 43 5 w.heap.size w.heap.size (Lib.byteCells acc) wr) := hI
      clear hI HT
      have hbl : (Lib.byteCells acc).length + 1 ≤ 140737488355328 := by rw [Lib.byteCells_length]; omega
      go_wp2_with (first
        | (go_at_call 20; refine (writeByte_any w.heap.size w.heap.size (Lib.byteCells acc) _ wr HI.out hbl hB.size).mono ?_; rintro e w1 ⟨rfl, hb1, hb2⟩)
        | (go_at_call 19; refine (string_any w.heap.size w.heap.size acc wr HI.out hB.size).mono ?_; rintro e w1 ⟨rfl, hb1⟩))
      · have HR := way_quote hlt hS.out (by assumption)
        go_ret2
        rw [HR]
        exact ⟨rfl, hB.trans hb1⟩
      · have hlt1 : k + 1 < s.size := by omega
        go_roundw
        case rel => exact ⟨k + 2, acc ++ [s[k + 1]], by omega, by omega, by go_num, by simp; omega, .inr (by rw [byteCells_snoc]; exact hb1), hB.trans hb2, way_esc hlt1 hS.out (by assumption)⟩
        case measure => simp [intOf]; omega
      · go_roundw
        case rel => exact ⟨k + 1, acc ++ [92], by omega, by omega, by go_num, by simp; omega, .inr (by rw [byteCells_snoc]; exact hb1), hB.trans hb2, way_last hlt (by omega) hS.out (by assumption) _⟩
        case measure => simp [intOf]; omega
      · go_roundw
        case rel => exact ⟨k + 1, acc ++ [s[k]], by omega, by omega, by go_num, by simp; omega, .inr (by rw [byteCells_snoc]; exact hb1), hB.trans hb2, way_plain hlt hS.out (by assumption) (by assumption)⟩
        case measure => simp [intOf]; omega
    · have HN : T = none := by rw [hS.out, List.drop_of_length_le (by simp; omega)]; rfl
      clear hS HT
      subst HN
      go_wp2
      go_ret2
      exact ⟨rfl, hB⟩

theorem unquote_at {t : List UInt8} {ok : Bool} (s : ByteArray) (w : World) (hs : s.size ≤ 1048576) (hT : Hid (uqR (uq (s.data.toList.drop 1) []) = (t, ok))) :
    Calls Try.prog 16 #[.string s] w fun e w' => e = .returned (.tuple #[.string ⟨t.toArray⟩, .bool ok]) ∧ Below w.heap.size w w' := by
  have h := unquote_any s w hs
  rw [hT.out] at h
  exact h
theorem zzUnquote_at {t : List UInt8} {ok : Bool} (s : ByteArray) (w : World) (hs : s.size ≤ 1048576) (hT : Hid (uqR (uq (s.data.toList.drop 1) []) = (t, ok))) :
    Calls Try.prog 8 #[.string s] w fun e w' => e = .returned (.tuple #[.string ⟨t.toArray⟩, .bool ok]) ∧ Below w.heap.size w w' := by
  go_enter Try.func8, Try.ntmps8
  go_wp2_with (go_at_call 16; refine (unquote_at s w hs hT).mono ?_; rintro e w1 ⟨rfl, hb⟩)
  go_ret2
  exact ⟨rfl, hb⟩

end Go.Proofs.Qxb6619350a
