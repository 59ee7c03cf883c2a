/-
  THE WALKS of strings.HasPrefix (7) at the eight bytes of the rsync prefix, zzIsRsync (6), RsyncURI (5), zzBytes (4).
-/
import Derived.Test.Qxb6619483aRows
import Derived.WalkKit
import Derived.ProofKit
import Derived.WalkLawsBesides
import Derived.WalkSpells
import Derived.Outline
import Derived.Lib.Strings
import Derived.Deep.QuietTactic
import Derived.BigQuiet
namespace Go.Proofs.Qxb6619483a
open Go.ChangeShapes Go.WideShapes Go.ChangeAt Go.RowKit

/-- Does it begin with the eight bytes? -/
def isR (s : ByteArray) : Bool := s.data.toList.take 8 == [114, 115, 121, 110, 99, 58, 47, 47]

theorem isR_short {s : ByteArray} (h : s.size < 8) : isR s = false := by
  unfold isR
  have hl : (s.data.toList.take 8).length ≠ 8 := by
    rw [List.length_take, ← Lib.size_eq]; omega
  rw [beq_eq_false_iff_ne]
  intro e
  rw [e] at hl
  exact hl rfl
theorem isR_long (s : ByteArray) : ((s.extract 0 8).toList == [114, 115, 121, 110, 99, 58, 47, 47]) = isR s := by
  unfold isR
  rw [Lib.extract_toList]
  simp
theorem isR_nil : isR ByteArray.empty = false := isR_short (by decide)

theorem hasPrefix_any (s : ByteArray) (w : World) (hs : s.size ≤ maxLen) :
    Calls Try.prog 7 #[.string s, .string ⟨#[114, 115, 121, 110, 99, 58, 47, 47]⟩] w fun e w' => e = .returned (.bool (isR s)) ∧ w' = w := by
  unfold maxLen at hs
  by_cases h8 : s.size < 8
  · rw [isR_short h8]
    go_enter Try.func7, Try.ntmps7
    go_wp2
    go_ret
    exact ⟨rfl, rfl⟩
  · rw [← isR_long]
    go_enter Try.func7, Try.ntmps7
    go_wp2
    go_ret
    exact ⟨rfl, rfl⟩

/-! ### zzIsRsync -/
/-- The first k of the eight bytes are there. -/
def Upto (s : ByteArray) (k : Nat) : Prop := s.data.toList.take k = [114, 115, 121, 110, 99, 58, 47, 47].take k
theorem take_snoc (s : ByteArray) (k : Nat) (h : k < s.size) : s.data.toList.take (k + 1) = s.data.toList.take k ++ [s[k]] := by
  rw [List.take_succ_eq_append_getElem (by simpa using h)]; rfl
theorem upto_step {s : ByteArray} {k : Nat} (h : k < s.size) (hp : k < (⟨#[114, 115, 121, 110, 99, 58, 47, 47]⟩ : ByteArray).size) (hu : Upto s k)
    (hq : ((s[k].toNat : Int) != (((⟨#[114, 115, 121, 110, 99, 58, 47, 47]⟩ : ByteArray)[k]'hp).toNat : Int)) = false) : Upto s (k + 1) := by
  have e : s[k] = (⟨#[114, 115, 121, 110, 99, 58, 47, 47]⟩ : ByteArray)[k]'hp := by
    apply UInt8.toNat_inj.1
    have := bne_eq_false_iff_eq.1 hq
    omega
  have e2 := take_snoc (⟨#[114, 115, 121, 110, 99, 58, 47, 47]⟩ : ByteArray) k hp
  unfold Upto at hu ⊢
  rw [take_snoc s k h, hu, e]
  exact e2.symm
theorem upto_fail {s : ByteArray} {k : Nat} (h : k < s.size) (hk : k < 8) (hp : k < (⟨#[114, 115, 121, 110, 99, 58, 47, 47]⟩ : ByteArray).size)
    (hq : ((s[k].toNat : Int) != (((⟨#[114, 115, 121, 110, 99, 58, 47, 47]⟩ : ByteArray)[k]'hp).toNat : Int)) = true) : isR s = false := by
  unfold isR
  rw [beq_eq_false_iff_ne]
  intro e
  have e1 : (s.data.toList.take 8).take (k + 1) = ([114, 115, 121, 110, 99, 58, 47, 47] : List UInt8).take (k + 1) := by rw [e]
  have e2 := take_snoc (⟨#[114, 115, 121, 110, 99, 58, 47, 47]⟩ : ByteArray) k hp
  rw [List.take_take, Nat.min_eq_left (by omega), take_snoc s k h] at e1
  have e3 := (List.append_inj' (e1.trans e2) rfl).2
  have e4 : s[k] = (⟨#[114, 115, 121, 110, 99, 58, 47, 47]⟩ : ByteArray)[k]'hp := by simpa using e3
  rw [e4] at hq
  simp at hq
theorem upto_all {s : ByteArray} (h : Upto s 8) : isR s = true := by
  unfold isR
  unfold Upto at h
  rw [h]
  rfl

set_option maxHeartbeats 2000000 in
theorem zzIs_any (s : ByteArray) (w : World) (hs : s.size ≤ maxLen) :
    Calls Try.prog 6 #[.string s] w fun e w' => e = .returned (.bool (isR s)) ∧ Below w.heap.size w w' := by
  unfold maxLen at hs
  by_cases h8 : s.size < 8
  · rw [isR_short h8]
    go_enter Try.func6, Try.ntmps6
    go_wp2
    go_ret
    exact ⟨rfl, Below.refl _ _⟩
  · obtain ⟨T, hT⟩ : ∃ T, T = isR s := ⟨_, rfl⟩
    rw [← hT]
    have HT : Hid (T = isR s) := hT
    clear hT
    go_enter Try.func6, Try.ntmps6
    go_wp2
    go_loopw [3] (fun i wr => ∃ k : Nat, k ≤ 8 ∧ i = .int .i64 k ∧ Upto s k ∧ Below w.heap.size w wr) (fun i _ => 8 - (intOf i).toNat)
    case atStart => exact ⟨0, by omega, rfl, rfl, Below.refl _ _⟩
    case round =>
      obtain ⟨k, hk, rfl, hU, hB⟩ := hrel
      by_cases hlt : k < 8
      · have hks : k < s.size := by omega
        have hj0 : (0 : Int) ≤ (k : Int) := by omega
        have hj8 : (k : Int) < 8 := by omega
        have hjs : (k : Int) < (s.size : Int) := by omega
        have hpz : (⟨#[114, 115, 121, 110, 99, 58, 47, 47]⟩ : ByteArray).size = 8 := rfl
        go_wp2
        go_quiet (fail)
        go_wp2
        · have HE := HT.out
          rw [upto_fail hks hlt (by omega) (by assumption)] at HE
          subst HE
          go_ret
          exact ⟨rfl, below_drewN hB nq⟩
        · go_roundw
          case rel => exact ⟨k + 1, by omega, by go_num, upto_step hks (by omega) hU (by assumption), below_drewN hB nq⟩
          case measure => simp [intOf]; omega
      · obtain rfl : k = 8 := by omega
        have := upto_all hU
        have HE := HT.out
        rw [this] at HE
        subst HE
        clear HT
        go_wp2
        go_ret
        exact ⟨rfl, hB⟩

/-! ### RsyncURI -/
/-- The first, of m from number k on, that begins so; else nothing. -/
def fr (S : Nat → ByteArray) : Nat → Nat → ByteArray
  | _, 0 => ByteArray.empty
  | k, m + 1 => if isR (S k) = true then S k else fr S (k + 1) m

/-- The strings of a slice of strings. -/
def SRow (w : World) (a : Option Addr) (n : Nat) (S : Nat → ByteArray) : Prop :=
  n = 0 ∨ ∃ b off, a = some ⟨b, off, none⟩ ∧ b < w.heap.size ∧ ∀ i, i < n → w.cell? ⟨b, off + i, none⟩ = some (.string (S i))

theorem fr_yes {S : Nat → ByteArray} {n k : Nat} {T : ByteArray} (h : k < n) (hT : T = fr S k (n - k)) (hr : isR (S k) = true) : T = S k := by
  rw [hT, show n - k = (n - (k + 1)) + 1 by omega]; simp [fr, hr]
theorem fr_no {S : Nat → ByteArray} {n k : Nat} {T : ByteArray} (h : k < n) (hT : T = fr S k (n - k)) (hr : isR (S k) = false) : T = fr S (k + 1) (n - (k + 1)) := by
  rw [hT, show n - k = (n - (k + 1)) + 1 by omega]; simp [fr, hr]

set_option maxHeartbeats 2000000 in
theorem rsync_any (a : Option Addr) (n cap : Nat) (S : Nat → ByteArray) (w : World) (hn : n ≤ 1048576) (hS : SRow w a n S) (hsz : ∀ i, i < n → (S i).size ≤ maxLen) :
    Calls Try.prog 5 #[.slice a n cap] w fun e w' => e = .returned (.string (fr S 0 n)) ∧ w' = w := by
  obtain ⟨T, hT⟩ : ∃ T, T = fr S 0 n := ⟨_, rfl⟩
  rw [← hT]
  have HT : Hid (T = fr S 0 (n - 0)) := hT
  clear hT
  go_enter Try.func5, Try.ntmps5
  go_wp2
  go_loop [7] (fun i => ∃ k : Nat, k ≤ n ∧ i = .int .i64 k ∧ Hid (T = fr S k (n - k))) (fun i => n - (intOf i).toNat)
  case atStart => exact ⟨0, by omega, rfl, HT⟩
  case round =>
    obtain ⟨k, hk, rfl, hR⟩ := hrel
    by_cases hlt : k < n
    · rcases hS with rfl | ⟨b, off, rfl, hb, hcell⟩
      · omega
      have hc := hcell k hlt
      have hz := hsz k hlt
      clear hcell hsz HT
      cases hr : isR (S k)
      · have HN : Hid (T = fr S (k + 1) (n - (k + 1))) := fr_no hlt hR.out hr
        clear hR
        go_wp2_with (go_at_call 7; refine (hasPrefix_any (S k) w hz).mono ?_; rintro e w' ⟨rfl, rfl⟩)
        go_round
        case rel => exact ⟨k + 1, by omega, by go_num, HN⟩
        case measure => simp [intOf]; omega
      · have HE := fr_yes hlt hR.out hr
        subst HE
        clear hR
        go_wp2_with (go_at_call 7; refine (hasPrefix_any (S k) w hz).mono ?_; rintro e w' ⟨rfl, rfl⟩)
        go_ret
        exact ⟨rfl, rfl⟩
    · have HE : T = ByteArray.empty := by rw [hR.out, show n - k = 0 by omega]; rfl
      subst HE
      clear hR HT
      go_wp2
      go_ret
      exact ⟨rfl, rfl⟩

end Go.Proofs.Qxb6619483a
