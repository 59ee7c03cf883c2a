/-
  FnUnquoteReadsEveryEscaping (4): the plain law and the walk.
-/
import Derived.Test.Qxb6619350aOwnB
namespace Go.Proofs.Qxb6619350a
open Go.ChangeShapes Go.WideShapes Go.ChangeAt Go.RowKit

/-! ### The plain law -/
/-- One byte of the text, as it is written. -/
def fl (L : List UInt8) (D : Nat → Bool) (i : Nat) : List UInt8 := if D i = true then [92, L.getD i 0] else [L.getD i 0]
/-- m bytes of the text from number k on, as they are written. -/
def enc (L : List UInt8) (D : Nat → Bool) (k m : Nat) : List UInt8 := (List.range' k m).flatMap (fl L D)
theorem enc_snoc (L : List UInt8) (D : Nat → Bool) (m : Nat) : enc L D 0 (m + 1) = enc L D 0 m ++ fl L D m := by
  unfold enc
  rw [List.range'_1_concat]
  simp
theorem enc_cons (L : List UInt8) (D : Nat → Bool) (k m : Nat) : enc L D k (m + 1) = fl L D k ++ enc L D (k + 1) m := by
  unfold enc
  rw [List.range'_succ]
  simp
theorem enc_len (L : List UInt8) (D : Nat → Bool) (m : Nat) : (enc L D 0 m).length ≤ 2 * m := by
  induction m with
  | zero => simp [enc]
  | succ m ih =>
    rw [enc_snoc, List.length_append]
    have : (fl L D m).length ≤ 2 := by unfold fl; split <;> simp
    omega

theorem uq_enc (L : List UInt8) (D : Nat → Bool) (tail : List UInt8) (hD : ∀ i, i < L.length → (L.getD i 0 = 34 ∨ L.getD i 0 = 92) → D i = true) :
    ∀ (m k : Nat), k + m = L.length → uq (enc L D k m ++ 34 :: tail) (L.take k) = some (L, tail.isEmpty) := by
  intro m
  induction m with
  | zero =>
    intro k hk
    have e : L.take k = L := List.take_of_length_le (by omega)
    simp [enc, uq_quote, e]
  | succ m ih =>
    intro k hk
    have hlt : k < L.length := by omega
    have e : L.take (k + 1) = L.take k ++ [L.getD k 0] := by
      rw [List.take_succ_eq_append_getElem hlt]; simp [hlt]
    have h := ih (k + 1) (by omega)
    rw [enc_cons]
    unfold fl
    by_cases hd : D k = true
    · rw [if_pos hd]
      show uq (92 :: L.getD k 0 :: (enc L D (k + 1) m ++ 34 :: tail)) (L.take k) = _
      rw [uq_esc, ← e]
      exact h
    · rw [if_neg hd]
      show uq (L.getD k 0 :: (enc L D (k + 1) m ++ 34 :: tail)) (L.take k) = _
      rw [uq_plain _ _ _ (fun h1 => hd (hD k hlt (.inl h1))) (fun h1 => hd (hD k hlt (.inr h1))), ← e]
      exact h

theorem esc_law (lead : UInt8) (L : List UInt8) (D : Nat → Bool) (tail : List UInt8) (hD : ∀ i, i < L.length → (L.getD i 0 = 34 ∨ L.getD i 0 = 92) → D i = true) :
    uqR (uq ((⟨(((lead :: enc L D 0 L.length) ++ [34]) ++ tail).toArray⟩ : ByteArray).data.toList.drop 1) []) = (L, tail.isEmpty) := by
  have h := uq_enc L D tail hD L.length 0 (by omega)
  have e : ((⟨(((lead :: enc L D 0 L.length) ++ [34]) ++ tail).toArray⟩ : ByteArray).data.toList.drop 1) = enc L D 0 L.length ++ 34 :: tail := by simp
  rw [e]
  rw [List.take_zero] at h
  rw [h]
  rfl

/-! ### The walk -/
/-- The bools of a slice of bools. -/
def BRow2 (w : World) (a : Option Addr) (n : Nat) (B : Nat → Bool) : Prop :=
  n = 0 ∨ ∃ b off, a = some ⟨b, off, none⟩ ∧ b < w.heap.size ∧ ∀ i, i < n → w.cell? ⟨b, off + i, none⟩ = some (.bool (B i))
def IsBool2 (e : Ending) : Prop := ∃ r, e = .returned (.bool r)

set_option maxHeartbeats 1000000 in
theorem bytes10_any (lead : Int) (text : ByteArray) (ae : Option Addr) (le ce : Nat) (tail : ByteArray) (w : World) (h1 : text.size ≤ maxLen) (h2 : le ≤ maxLen) (h3 : tail.size ≤ maxLen) :
    Calls Try.prog 10 #[.int .u8 lead, .string text, .slice ae le ce, .string tail] w fun e w' => IsBool2 e ∧ w = w' := by
  unfold maxLen at h1 h2 h3
  go_enter Try.func10, Try.ntmps10
  go_wp2
  all_goals
    go_ret
    exact ⟨⟨_, rfl⟩, rfl⟩

theorem zzUnquote_text (s : ByteArray) (text : ByteArray) (ok : Bool) (w : World) (hs : s.size ≤ 1048576) (hT : Hid (uqR (uq (s.data.toList.drop 1) []) = (text.data.toList, ok))) :
    Calls Try.prog 8 #[.string s] w fun e w' => e = .returned (.tuple #[.string text, .bool ok]) ∧ Below w.heap.size w w' :=
  zzUnquote_at s w hs hT

/-- The byte number k, written escaped or not. -/
def Dsc (text : ByteArray) (le : Nat) (Bf : Nat → Bool) (i : Nat) : Bool := (text.data.toList.getD i 0 == 34) || (text.data.toList.getD i 0 == 92) || (decide (i < le) && Bf i)

theorem get_byte {text : ByteArray} {k : Nat} (h : k < text.size) : text.data.toList.getD k 0 = text[k] := by
  have h' : k < text.data.toList.length := by simpa using h
  rw [List.getD_eq_getElem?_getD, List.getElem?_eq_getElem h']
  rfl
theorem esc_fin (lead : UInt8) (text tail : ByteArray) (le : Nat) (Bf : Nat → Bool) :
    uqR (uq ((⟨(((lead :: enc text.data.toList (Dsc text le Bf) 0 text.size) ++ [34]) ++ tail.data.toList).toArray⟩ : ByteArray).data.toList.drop 1) []) = (text.data.toList, ((tail.size : Int) == 0)) := by
  have hDs : ∀ i, i < text.data.toList.length → (text.data.toList.getD i 0 = 34 ∨ text.data.toList.getD i 0 = 92) → Dsc text le Bf i = true := by
    intro i _ h
    unfold Dsc
    rcases h with h | h
    · rw [h]; rfl
    · rw [h]; rfl
  have hlaw := esc_law lead text.data.toList (Dsc text le Bf) tail.data.toList hDs
  have e : text.data.toList.length = text.size := by simp
  rw [e] at hlaw
  rw [hlaw]
  have htl : tail.data.toList.isEmpty = ((tail.size : Int) == 0) := by
    have e2 : tail.data.toList.length = tail.size := by simp
    rw [← e2]
    cases tail.data.toList with
    | nil => rfl
    | cons a r => simp; omega
  rw [htl]
theorem esc_size (lead : UInt8) (text tail : ByteArray) (le : Nat) (Bf : Nat → Bool) (h1 : text.size ≤ 262144) (h3 : tail.size ≤ 262144) :
    (⟨(((lead :: enc text.data.toList (Dsc text le Bf) 0 text.size) ++ [34]) ++ tail.data.toList).toArray⟩ : ByteArray).size ≤ 1048576 := by
  have hen := enc_len text.data.toList (Dsc text le Bf) text.size
  have e2 : tail.data.toList.length = tail.size := by simp
  show (((lead :: enc text.data.toList (Dsc text le Bf) 0 text.size) ++ [34]) ++ tail.data.toList).toArray.size ≤ 1048576
  rw [List.size_toArray, List.length_append, List.length_append, List.length_cons, e2]
  simp
  omega
theorem enc_yes {text : ByteArray} {D : Nat → Bool} {lead c : UInt8} {k : Nat} (h : k < text.size) (hc : text[k] = c) (hD : D k = true) :
    lead :: enc text.data.toList D 0 (k + 1) = ((lead :: enc text.data.toList D 0 k) ++ [92]) ++ [c] := by
  rw [enc_snoc, fl, if_pos hD, get_byte h, hc]; simp
theorem enc_no {text : ByteArray} {D : Nat → Bool} {lead : UInt8} {k : Nat} (h : k < text.size) (hD : D k = false) :
    lead :: enc text.data.toList D 0 (k + 1) = (lead :: enc text.data.toList D 0 k) ++ [text[k]] := by
  rw [enc_snoc, fl, if_neg (by simp [hD]), get_byte h]; simp

set_option maxHeartbeats 4000000 in
set_option maxRecDepth 100000 in
theorem esc_build (lead : UInt8) (text : ByteArray) (ae : Option Addr) (le ce : Nat) (tail : ByteArray) (Bf : Nat → Bool) (w : World) (hB : BRow2 w ae le Bf) (h1 : text.size ≤ 262144) (h2 : le ≤ 262144) (h3 : tail.size ≤ 262144) :
    Calls Try.prog 4 #[.int .u8 lead.toNat, .string text, .slice ae le ce, .string tail] w fun e w' => e = .returned (.bool true) ∧ Below w.heap.size w w' := by
  obtain ⟨i0, hi, hz0, hz1, hz2⟩ := info_parts Try.info5
  have HT : Hid (text.size ≤ maxLen) := by unfold Hid maxLen; omega
  have HE : Hid (le ≤ maxLen) := by unfold Hid maxLen; omega
  have HA : Hid (tail.size ≤ maxLen) := by unfold Hid maxLen; omega
  go_enter Try.func4, Try.ntmps4
  go_wp2_with (first
    | (go_at_call 10; refine (bytes10_any _ text ae le ce tail w HT.out HE.out HA.out).mono ?_; rintro e w' ⟨⟨r, rfl⟩, rfl⟩)
    | (at_make; refine wpList_make_own _ rfl _ _ 27 rfl w.heap.size 5 i0 (.int .u8 0) 1 Try.underlying27 hi hz0 hz1 _ _ _ (2 * text.size + 2 + tail.size) rfl rfl (by omega) (by rw [hz2]; omega) (by unfold maxLen; omega) (Nat.le_refl _) ?_; intro w1 hown1 hgrow1; have hB1 : Below w.heap.size w w1 := (Below.refl _ _).grown hgrow1 (Nat.le_refl _) (fun k hk => by cases hk); have HO1 : Hid (OwnB w1 w.heap.size (.slice (some ⟨w.heap.size, 0, none⟩) 0 (2 * text.size + 2 + tail.size)) []) := hown1; clear hown1 hgrow1)
    | (at_builtin; refine wp_append_byte w.heap.size _ [] lead rfl (.tmp 41) (.tmp 43) rfl rfl rfl HO1.out hB1.size (by simp) ?_; intro v2 w2 hO2 hB2))
  · go_ret
    exact ⟨rfl, Below.refl _ _⟩
  have hBw : Below w.heap.size w w2 := hB1.trans hB2
  clear hB1 hB2 HO1
  go_loopw [9, 10] (fun v i wr => ∃ (k : Nat), k ≤ text.size ∧ i = .int .i64 k ∧ OwnB wr w.heap.size v (lead :: enc text.data.toList (Dsc text le Bf) 0 k) ∧ Below w.heap.size w wr) (fun _ i _ => text.size - (intOf i).toNat)
  case atStart => exact ⟨0, Nat.zero_le _, rfl, hO2, hBw⟩
  case round =>
    obtain ⟨k, hk, rfl, hO, hBr⟩ := hrel
    have HK : Hid (OwnB wr w.heap.size _ (lead :: enc text.data.toList (Dsc text le Bf) 0 k)) := hO
    have hbr : w.heap.size ≤ wr.heap.size := hBr.size
    have hen := enc_len text.data.toList (Dsc text le Bf) k
    clear hO hO2 hBw
    by_cases hlt : k < text.size
    · have hal : (lead :: enc text.data.toList (Dsc text le Bf) 0 k).length ≤ 140737488355327 := by simp; omega
      have hal2 : ((lead :: enc text.data.toList (Dsc text le Bf) 0 k) ++ [92]).length ≤ 140737488355327 := by simp; omega
      by_cases h34 : (text[k].toNat : Int) = 34
      · have HN : Hid (lead :: enc text.data.toList (Dsc text le Bf) 0 (k + 1) = ((lead :: enc text.data.toList (Dsc text le Bf) 0 k) ++ [92]) ++ [34]) := enc_yes hlt (byte_eq text[k] 34 (by omega) h34) (by rw [Dsc, get_byte hlt, byte_eq text[k] 34 (by omega) h34]; simp)
        clear hB
        go_wp2_with (first
          | (at_builtin; refine wp_append_byte w.heap.size _ (lead :: enc text.data.toList (Dsc text le Bf) 0 k) 92 rfl (.tmp 72) (.tmp 73) rfl rfl rfl HK.out hbr hal ?_; intro v1 w1 hO1 hB1)
          | (at_builtin; refine wp_append_byte w.heap.size _ ((lead :: enc text.data.toList (Dsc text le Bf) 0 k) ++ [92]) 34 rfl (.tmp 75) (.tmp 77) rfl rfl rfl hO1 (Nat.le_trans hbr hB1.size) hal2 ?_; intro v3 w3 hO3 hB3))
        go_roundw
        case rel => exact ⟨k + 1, by omega, by go_num, by rw [HN.out]; exact hO3, hBr.trans (hB1.trans (hB3.mono (Nat.le_refl _)))⟩
        case measure => simp [intOf]; omega
      by_cases h92 : (text[k].toNat : Int) = 92
      · have HN : Hid (lead :: enc text.data.toList (Dsc text le Bf) 0 (k + 1) = ((lead :: enc text.data.toList (Dsc text le Bf) 0 k) ++ [92]) ++ [92]) := enc_yes hlt (byte_eq text[k] 92 (by omega) h92) (by rw [Dsc, get_byte hlt, byte_eq text[k] 92 (by omega) h92]; simp)
        clear hB
        go_wp2_with (first
          | (at_builtin; refine wp_append_byte w.heap.size _ (lead :: enc text.data.toList (Dsc text le Bf) 0 k) 92 rfl (.tmp 72) (.tmp 73) rfl rfl rfl HK.out hbr hal ?_; intro v1 w1 hO1 hB1)
          | (at_builtin; refine wp_append_byte w.heap.size _ ((lead :: enc text.data.toList (Dsc text le Bf) 0 k) ++ [92]) 92 rfl (.tmp 75) (.tmp 77) rfl rfl rfl hO1 (Nat.le_trans hbr hB1.size) hal2 ?_; intro v3 w3 hO3 hB3))
        go_roundw
        case rel => exact ⟨k + 1, by omega, by go_num, by rw [HN.out]; exact hO3, hBr.trans (hB1.trans (hB3.mono (Nat.le_refl _)))⟩
        case measure => simp [intOf]; omega
      have b34 : ((text[k].toNat : Int) == 34) = false := by simpa using h34
      have b92 : ((text[k].toNat : Int) == 92) = false := by simpa using h92
      have n34 : (text[k] == 34) = false := by simpa using byte_ne text[k] 34 (by omega) h34
      have n92 : (text[k] == 92) = false := by simpa using byte_ne text[k] 92 (by omega) h92
      have HD : Hid (Dsc text le Bf k = (decide (k < le) && Bf k)) := by simp only [Dsc, get_byte hlt, n34, n92, Bool.false_or, Hid]
      clear n34 n92 h34 h92
      by_cases hke : k < le
      · rcases hB with rfl | ⟨b, off, rfl, hbl, hcell⟩
        · omega
        have hc : wr.cell? ⟨b, off + k, none⟩ = some (.bool (Bf k)) := (hBr.cell (p := ⟨b, off + k, none⟩) hbl).trans (hcell k hke)
        clear hcell
        cases hbk : Bf k
        · rw [hbk] at hc
          have HN : Hid (lead :: enc text.data.toList (Dsc text le Bf) 0 (k + 1) = (lead :: enc text.data.toList (Dsc text le Bf) 0 k) ++ [text[k]]) := enc_no hlt (by rw [HD.out, hbk]; simp)
          clear hbk HD
          go_wp2_with (at_builtin; refine wp_append_byte w.heap.size _ (lead :: enc text.data.toList (Dsc text le Bf) 0 k) text[k] rfl (.tmp 75) (.tmp 77) rfl rfl rfl HK.out hbr hal ?_; intro v3 w3 hO3 hB3)
          go_roundw
          case rel => exact ⟨k + 1, by omega, by go_num, by rw [HN.out]; exact hO3, hBr.trans hB3⟩
          case measure => simp [intOf]; omega
        · rw [hbk] at hc
          have HN : Hid (lead :: enc text.data.toList (Dsc text le Bf) 0 (k + 1) = ((lead :: enc text.data.toList (Dsc text le Bf) 0 k) ++ [92]) ++ [text[k]]) := enc_yes hlt rfl (by rw [HD.out, hbk]; simp [hke])
          clear hbk HD
          go_wp2_with (first
            | (at_builtin; refine wp_append_byte w.heap.size _ (lead :: enc text.data.toList (Dsc text le Bf) 0 k) 92 rfl (.tmp 72) (.tmp 73) rfl rfl rfl HK.out hbr hal ?_; intro v1 w1 hO1 hB1)
            | (at_builtin; refine wp_append_byte w.heap.size _ ((lead :: enc text.data.toList (Dsc text le Bf) 0 k) ++ [92]) text[k] rfl (.tmp 75) (.tmp 77) rfl rfl rfl hO1 (Nat.le_trans hbr hB1.size) hal2 ?_; intro v3 w3 hO3 hB3))
          go_roundw
          case rel => exact ⟨k + 1, by omega, by go_num, by rw [HN.out]; exact hO3, hBr.trans (hB1.trans (hB3.mono (Nat.le_refl _)))⟩
          case measure => simp [intOf]; omega
      · have HN : Hid (lead :: enc text.data.toList (Dsc text le Bf) 0 (k + 1) = (lead :: enc text.data.toList (Dsc text le Bf) 0 k) ++ [text[k]]) := enc_no hlt (by rw [HD.out]; simp [hke])
        clear hB HD
        go_wp2_with (at_builtin; refine wp_append_byte w.heap.size _ (lead :: enc text.data.toList (Dsc text le Bf) 0 k) text[k] rfl (.tmp 75) (.tmp 77) rfl rfl rfl HK.out hbr hal ?_; intro v3 w3 hO3 hB3)
        go_roundw
        case rel => exact ⟨k + 1, by omega, by go_num, by rw [HN.out]; exact hO3, hBr.trans hB3⟩
        case measure => simp [intOf]; omega
    · obtain rfl : k = text.size := by omega
      clear hB
      have HL := esc_fin lead text tail le Bf
      have HS := esc_size lead text tail le Bf h1 h3
      have hal : (lead :: enc text.data.toList (Dsc text le Bf) 0 text.size).length ≤ 140737488355327 := by simp; omega
      have hal2 : ((lead :: enc text.data.toList (Dsc text le Bf) 0 text.size) ++ [34]).length + tail.size ≤ 140737488355328 := by simp; omega
      generalize hX : ((lead :: enc text.data.toList (Dsc text le Bf) 0 text.size) ++ [34]) ++ tail.data.toList = X at HL HS
      have HX : Hid (((lead :: enc text.data.toList (Dsc text le Bf) 0 text.size) ++ [34]) ++ tail.data.toList = X) := hX
      clear hX
      have HLH : Hid (uqR (uq ((⟨X.toArray⟩ : ByteArray).data.toList.drop 1) []) = (text.data.toList, ((tail.size : Int) == 0))) := HL
      clear HL
      go_wp2_with (first
        | (at_builtin; refine wp_append_byte w.heap.size _ (lead :: enc text.data.toList (Dsc text le Bf) 0 text.size) 34 rfl (.tmp 79) (.tmp 80) rfl rfl rfl HK.out hbr hal ?_; intro v3 w3 hO3 hB3)
        | (at_builtin; refine wp_append_text w.heap.size _ ((lead :: enc text.data.toList (Dsc text le Bf) 0 text.size) ++ [34]) tail rfl (.tmp 82) (.tmp 83) rfl rfl rfl hO3 (Nat.le_trans hbr hB3.size) hal2 ?_; intro v4 w4 hO4 hB4; rw [HX.out] at hO4; have hcv := hO4.text)
        | (go_at_call 8; refine (zzUnquote_text _ text _ _ HS HLH).mono ?_; rintro e w5 ⟨rfl, hB5⟩))
      go_ret
      exact ⟨rfl, hBr.trans (hB3.trans (hB4.trans (hB5.mono (Nat.le_trans hbr (Nat.le_trans hB3.size hB4.size)))))⟩

set_option maxHeartbeats 4000000 in
set_option maxRecDepth 100000 in
theorem esc_all (lead : Int) (h0 : 0 ≤ lead) (h255 : lead ≤ 255) (text : ByteArray) (ae : Option Addr) (le ce : Nat) (tail : ByteArray) (Bf : Nat → Bool) (w : World) (hB : BRow2 w ae le Bf) (h1 : text.size ≤ maxLen) (h2 : le ≤ maxLen) (h3 : tail.size ≤ maxLen) :
    Calls Try.prog 4 #[.int .u8 lead, .string text, .slice ae le ce, .string tail] w fun e w' => e = .returned (.bool true) ∧ Below w.heap.size w w' := by
  have HT : Hid (text.size ≤ maxLen) := h1
  have HE : Hid (le ≤ maxLen) := h2
  have HA : Hid (tail.size ≤ maxLen) := h3
  unfold maxLen at h1 h2 h3
  by_cases c1 : 262144 < text.size
  · clear hB
    go_enter Try.func4, Try.ntmps4
    go_wp2_with (go_at_call 10; refine (bytes10_any _ text ae le ce tail w HT.out HE.out HA.out).mono ?_; rintro e w' ⟨⟨r, rfl⟩, rfl⟩)
    all_goals
      go_ret
      exact ⟨rfl, Below.refl _ _⟩
  by_cases c2 : 262144 < le
  · clear hB
    go_enter Try.func4, Try.ntmps4
    go_wp2_with (go_at_call 10; refine (bytes10_any _ text ae le ce tail w HT.out HE.out HA.out).mono ?_; rintro e w' ⟨⟨r, rfl⟩, rfl⟩)
    all_goals
      go_ret
      exact ⟨rfl, Below.refl _ _⟩
  by_cases c3 : 262144 < tail.size
  · clear hB
    go_enter Try.func4, Try.ntmps4
    go_wp2_with (go_at_call 10; refine (bytes10_any _ text ae le ce tail w HT.out HE.out HA.out).mono ?_; rintro e w' ⟨⟨r, rfl⟩, rfl⟩)
    all_goals
      go_ret
      exact ⟨rfl, Below.refl _ _⟩
  have e : lead = ((UInt8.ofNat lead.toNat).toNat : Int) := by simp; omega
  rw [e]
  exact esc_build (UInt8.ofNat lead.toNat) text ae le ce tail Bf w hB (by omega) (by omega) (by omega)

theorem brow2_of {w : World} {x : Addr} {n cap : Nat} {B : Nat → Bool} (hn : n ≤ cap) (h : ∀ i, i < cap → w.cell? (x.add i) = some (.bool (B i))) : BRow2 w (some x) n B := by
  by_cases h0 : n = 0
  · exact .inl h0
  obtain ⟨b, off, spot⟩ := x
  have hs : spot = none := by simpa [Addr.add] using World.cell?_spot (h 0 (by omega))
  subst hs
  have hlt := World.block_lt_of_cell? w _ (h 0 (by omega))
  exact .inr ⟨b, off, rfl, by simpa [Addr.add] using hlt, fun i hi => by rw [← add_plain]; exact h i (by omega)⟩

end Go.Proofs.Qxb6619350a
