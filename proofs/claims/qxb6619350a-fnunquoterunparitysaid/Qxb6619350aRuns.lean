/-
  FnUnquoteRunParity (3): the plain law.
-/
import Derived.Test.Qxb6619350aOwnB
namespace Go.Proofs.Qxb6619350a
open Go.ChangeShapes Go.WideShapes Go.ChangeAt Go.RowKit

/-- Where the closing quote stands: what is left, the run of backslashes so far, the place. -/
def fi : List UInt8 → Nat → Nat → Option Nat
  | [], _, _ => none
  | c :: r, run, j => if c = 34 ∧ run % 2 = 0 then some j else fi r (if c = 92 then run + 1 else 0) (j + 1)

/-- The text with every run of backslashes halved: what is left, the run so far, what is out. -/
def rb : List UInt8 → Nat → List UInt8 → List UInt8
  | [], k, out => out ++ List.replicate (k / 2) 92
  | c :: r, k, out => if c = 92 then rb r (k + 1) out else rb r 0 ((out ++ List.replicate (k / 2) 92) ++ [c])

/-- Both at once. -/
def cm : List UInt8 → Nat → List UInt8 → Option (List UInt8 × Bool)
  | [], _, _ => none
  | c :: r, k, out => if c = 34 ∧ k % 2 = 0 then some (out ++ List.replicate (k / 2) 92, r.isEmpty) else if c = 92 then cm r (k + 1) out else cm r 0 ((out ++ List.replicate (k / 2) 92) ++ [c])

theorem fi_ge : ∀ (r : List UInt8) (k j e : Nat), fi r k j = some e → j ≤ e ∧ e < j + r.length := by
  intro r
  induction r with
  | nil => intro k j e h; simp [fi] at h
  | cons c r ih =>
    intro k j e h
    unfold fi at h
    by_cases hq : c = 34 ∧ k % 2 = 0
    · rw [if_pos hq] at h
      cases h
      simp
    · rw [if_neg hq] at h
      have := ih _ _ _ h
      simp
      omega

theorem cm_none : ∀ (r : List UInt8) (k j : Nat) (out : List UInt8), fi r k j = none → cm r k out = none := by
  intro r
  induction r with
  | nil => intro k j out _; rfl
  | cons c r ih =>
    intro k j out h
    unfold fi at h
    unfold cm
    by_cases hq : c = 34 ∧ k % 2 = 0
    · rw [if_pos hq] at h; cases h
    · rw [if_neg hq] at h ⊢
      by_cases h92 : c = 92
      · rw [if_pos h92] at h ⊢
        exact ih _ _ _ h
      · rw [if_neg h92] at h ⊢
        exact ih _ _ _ h

theorem cm_some : ∀ (r : List UInt8) (k j e : Nat) (out : List UInt8), fi r k j = some e → cm r k out = some (rb (r.take (e - j)) k out, decide (e + 1 = j + r.length)) := by
  intro r
  induction r with
  | nil => intro k j e out h; simp [fi] at h
  | cons c r ih =>
    intro k j e out h
    have hge := fi_ge _ _ _ _ h
    unfold fi at h
    unfold cm
    by_cases hq : c = 34 ∧ k % 2 = 0
    · rw [if_pos hq] at h ⊢
      cases h
      rw [Nat.sub_self, List.take_zero, rb]
      congr 2
      cases r <;> simp
    · rw [if_neg hq] at h ⊢
      have hlt : j < e := by
        have := fi_ge _ _ _ _ h
        omega
      obtain ⟨m, hm⟩ : ∃ m, e - j = m + 1 := ⟨e - j - 1, by omega⟩
      have hm' : e - (j + 1) = m := by omega
      have hlen : decide (e + 1 = j + (c :: r).length) = decide (e + 1 = j + 1 + r.length) := by
        congr 1; simp; omega
      rw [hm, List.take_succ_cons, hlen]
      unfold rb
      by_cases h92 : c = 92
      · rw [if_pos h92] at h
        simp only [if_pos h92]
        have := ih _ _ _ out h
        rw [hm'] at this
        exact this
      · rw [if_neg h92] at h
        simp only [if_neg h92]
        have := ih _ _ _ ((out ++ List.replicate (k / 2) 92) ++ [c]) h
        rw [hm'] at this
        exact this

/-- An even run is so many written backslashes; an odd one waits for its byte. -/
theorem cm_uq : ∀ (r : List UInt8) (m : Nat) (out : List UInt8),
    cm r (2 * m) out = uq r (out ++ List.replicate m 92) ∧
    cm r (2 * m + 1) out = match r with | [] => none | d :: r' => uq r' ((out ++ List.replicate m 92) ++ [d]) := by
  intro r
  induction r with
  | nil => intro m out; simp [cm, uq]
  | cons c r ih =>
    intro m out
    have e1 : 2 * m % 2 = 0 := by omega
    have e2 : 2 * m / 2 = m := by omega
    have e3 : (2 * m + 1) % 2 = 1 := by omega
    have e4 : (2 * m + 1) / 2 = m := by omega
    refine ⟨?_, ?_⟩
    · unfold cm
      rw [e1, e2]
      by_cases h34 : c = 34
      · subst h34
        simp [uq_quote]
      · rw [if_neg (fun h => h34 h.1)]
        by_cases h92 : c = 92
        · subst h92
          rw [if_pos rfl, (ih m out).2]
          cases r with
          | nil => simp [uq]
          | cons d r' => rw [uq_esc]
        · rw [if_neg h92, uq_plain _ _ _ h34 h92]
          have := (ih 0 ((out ++ List.replicate m 92) ++ [c])).1
          simpa using this
    · show cm (c :: r) (2 * m + 1) out = uq r ((out ++ List.replicate m 92) ++ [c])
      unfold cm
      rw [e3, e4, if_neg (by omega)]
      by_cases h92 : c = 92
      · subst h92
        rw [if_pos rfl]
        have := (ih (m + 1) out).1
        rw [show 2 * m + 1 + 1 = 2 * (m + 1) by omega, this, ← replicate_snoc, List.append_assoc]
      · rw [if_neg h92]
        have := (ih 0 ((out ++ List.replicate m 92) ++ [c])).1
        simpa using this

/-- THE PLAIN LAW. -/
theorem uq_cm (r : List UInt8) : uq r [] = cm r 0 [] := by
  have := (cm_uq r 0 []).1
  simpa using this.symm

end Go.Proofs.Qxb6619350a
