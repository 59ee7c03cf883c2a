/-
  THE PLAIN FUNCTIONS AND THE PLAIN LAWS of seat b6619291a: no Go in sight.
-/
namespace Go.Proofs.Qxb6619291a.Plain

/-- What 'scan' computes: 'n' the length of the whole, then what is left to read, the place, fits, lines, line, ended. -/
def sc (n : Int) : List Int → Int → Int → Int → Int → Bool → Int × Int × Int × Bool
  | [], _, f, L, S, E => (f, L, S, E)
  | c :: r, i, f, L, S, E =>
    if E = true then (f, L, S, E)
    else if c = 10 then
      if S = 2 then sc n r (i + 1) (if f = n ∧ 101 < L + 1 then i else f) (L + 1) 0 false
      else sc n r (i + 1) f L 0 (decide (0 < L))
    else if c = 13 ∧ S = 0 then sc n r (i + 1) f L 1 false
    else sc n r (i + 1) f L 2 false

def lEmpty (line : Int) (first : Bool) (seg : List Int) : Bool :=
  if first = true ∧ line = 2 then false
  else if first = true ∧ line ≠ 0 then decide (seg.length = 0)
  else decide (seg.length = 0 ∨ (seg.length = 1 ∧ seg.getD 0 0 = 13))

def lLeft (line : Int) (first : Bool) (seg : List Int) : Int :=
  if first = true ∧ seg.length = 0 then line
  else if first = true ∧ line ≠ 0 then 2
  else if seg.length = 0 then 0
  else if seg.length = 1 ∧ seg.getD 0 0 = 13 then 1
  else 2

/-- What the loop of 'modelScan' computes: what is left, the line under way, the place, fits, passed, lines, first. -/
def md (line : Int) : List Int → List Int → Int → Int → Bool → Int → Bool → Int × Int × Int × Bool
  | [], seg, _, f, _, L, fr => (f, L, lLeft line fr seg, false)
  | c :: r, seg, i, f, p, L, fr =>
    if c = 10 then
      if lEmpty line fr seg = true then
        if 0 < L then (f, L, 0, true) else md line r [] (i + 1) f p L false
      else if p = false ∧ 101 < L + 1 then md line r [] (i + 1) i true (L + 1) false
      else md line r [] (i + 1) f p (L + 1) false
    else md line r (seg ++ [c]) (i + 1) f p L fr

theorem lEmpty_iff (line : Int) (fr : Bool) (seg : List Int) : lEmpty line fr seg = decide (lLeft line fr seg ≠ 2) := by
  unfold lEmpty lLeft
  cases fr
  · by_cases h0 : seg.length = 0
    · simp [h0]
    · by_cases h1 : seg.length = 1 ∧ seg.getD 0 0 = 13
      · simp only [h1]; simp
      · simp only [h0, h1]; simp
  · by_cases hl : line = 2
    · subst hl
      by_cases h0 : seg.length = 0
      · simp [h0]
      · simp [h0]
    · by_cases hz : line = 0
      · subst hz
        by_cases h0 : seg.length = 0
        · simp [h0]
        · by_cases h1 : seg.length = 1 ∧ seg.getD 0 0 = 13
          · simp only [h1]; simp
          · simp only [h0, h1]; simp
      · by_cases h0 : seg.length = 0
        · simp [h0, hl, hz]
        · simp [h0, hl, hz]

theorem lLeft_snoc (line : Int) (fr : Bool) (seg : List Int) (c : Int) :
    lLeft line fr (seg ++ [c]) = if c = 13 ∧ lLeft line fr seg = 0 then 1 else 2 := by
  unfold lLeft
  cases seg with
  | nil =>
    cases fr
    · by_cases hc : c = 13 <;> simp [hc]
    · by_cases hz : line = 0
      · subst hz; by_cases hc : c = 13 <;> simp [hc]
      · simp [hz]
  | cons a s =>
    have h1 : (a :: s ++ [c]).length ≠ 0 := by simp
    have h2 : (a :: s ++ [c]).length ≠ 1 := by simp
    have h3 : (a :: s).length ≠ 0 := by simp
    cases fr
    · simp only [h1, h2, h3]
      by_cases hh : (a :: s).length = 1 ∧ (a :: s).getD 0 0 = 13
      · simp only [hh]; simp
      · simp only [hh]; simp
    · by_cases hz : line = 0
      · subst hz
        simp only [h1, h2, h3]
        by_cases hh : (a :: s).length = 1 ∧ (a :: s).getD 0 0 = 13
        · simp only [hh]; simp
        · simp only [hh]; simp
      · simp only [h1, h2, h3]; simp [hz]

theorem lLeft_false_nil (line : Int) : lLeft line false [] = 0 := by simp [lLeft]
theorem lLeft_true_nil (line : Int) : lLeft line true [] = line := by simp [lLeft]

theorem sc_ended (n : Int) (r : List Int) (i f L S : Int) : sc n r i f L S true = (f, L, S, true) := by
  cases r <;> simp [sc]

/-- The scan is the line model: 'passed' is 'fits is no longer the length'. -/
theorem sc_md (line n : Int) : ∀ (r seg : List Int) (i f : Int) (p : Bool) (L : Int) (fr : Bool),
    i + r.length = n → (p = decide (f ≠ n)) →
    sc n r i f L (lLeft line fr seg) false = md line r seg i f p L fr := by
  intro r
  induction r with
  | nil => intro seg i f p L fr _ _; simp [sc, md]
  | cons c r ih =>
    intro seg i f p L fr hi hp
    have hi' : i + 1 + (r.length : Int) = n := by simp at hi; omega
    have hin : i ≠ n := by simp at hi; omega
    unfold sc md
    by_cases hc : c = 10
    · simp only [hc, if_true, Bool.false_eq_true, if_false, lEmpty_iff]
      by_cases hS : lLeft line fr seg = 2
      · simp only [hS]
        simp only [if_true, ne_eq, not_true, decide_false, Bool.false_eq_true, if_false]
        have e0 := lLeft_false_nil line
        by_cases hf : f = n ∧ 101 < L + 1
        · have hpf : p = false := by rw [hp, hf.1]; simp
          rw [if_pos hf, if_pos ⟨hpf, hf.2⟩]
          have := ih [] (i + 1) i true (L + 1) false hi' (by simp [hin])
          rw [e0] at this
          exact this
        · rw [if_neg hf, if_neg (by rintro ⟨h1, h2⟩; apply hf; refine ⟨?_, h2⟩; rw [hp] at h1; simpa using h1)]
          have := ih [] (i + 1) f p (L + 1) false hi' hp
          rw [e0] at this
          exact this
      · simp only [hS, if_false, ne_eq, not_false_iff, decide_true, if_true]
        by_cases hL : 0 < L
        · simp only [hL, decide_true, if_true, sc_ended]
        · simp only [hL, decide_false, if_false]
          have := ih [] (i + 1) f p L false hi' hp
          rw [lLeft_false_nil] at this
          exact this
    · simp only [hc, if_false, Bool.false_eq_true]
      have := ih (seg ++ [c]) (i + 1) f p L fr hi' hp
      rw [lLeft_snoc] at this
      rw [← this]
      by_cases h13 : c = 13 ∧ lLeft line fr seg = 0
      · simp only [if_pos h13]
      · simp only [if_neg h13]

/-- What 'modelScan' answers. -/
def model (n lines line : Int) (ended : Bool) (zs : List Int) : Int × Int × Int × Bool :=
  if ended = true then (n, lines, line, true) else md line zs [] 0 n false lines true

theorem sc_model (lines line : Int) (ended : Bool) (zs : List Int) :
    sc zs.length zs 0 zs.length lines line ended = model zs.length lines line ended zs := by
  unfold model
  cases ended
  · simp only [Bool.false_eq_true, if_false]
    have := sc_md line zs.length zs [] 0 zs.length false lines true (by simp) (by simp)
    rw [lLeft_true_nil] at this
    exact this
  · simp [sc_ended]

/-- A step, in two. -/
theorem sc_append (n : Int) : ∀ (xs ys : List Int) (i f L S : Int) (E : Bool),
    sc n (xs ++ ys) i f L S E = sc n ys (i + xs.length) (sc n xs i f L S E).1 (sc n xs i f L S E).2.1 (sc n xs i f L S E).2.2.1 (sc n xs i f L S E).2.2.2 := by
  intro xs
  induction xs with
  | nil => intro ys i f L S E; simp [sc]
  | cons c r ih =>
    intro ys i f L S E
    cases E
    · have e : i + ((c :: r).length : Int) = i + 1 + (r.length : Int) := by simp; omega
      rw [e]
      simp only [List.cons_append, sc, Bool.false_eq_true, if_false]
      by_cases hc : c = 10
      · simp only [hc, if_true]
        by_cases hS : S = 2
        · simp only [hS, if_true]; exact ih _ _ _ _ _ _
        · simp only [hS, if_false]; exact ih _ _ _ _ _ _
      · simp only [hc, if_false]
        by_cases h13 : c = 13 ∧ S = 0
        · simp only [if_pos h13]; exact ih _ _ _ _ _ _
        · simp only [if_neg h13]; exact ih _ _ _ _ _ _
    · simp [sc_ended]

/-- The lines rise by at most one a byte, and the place that is answered lies within. -/
theorem sc_lines (n : Int) : ∀ (r : List Int) (i f L S : Int) (E : Bool), L ≤ (sc n r i f L S E).2.1 ∧ (sc n r i f L S E).2.1 ≤ L + r.length := by
  intro r
  induction r with
  | nil => intro i f L S E; simp [sc]
  | cons c r ih =>
    intro i f L S E
    have e : ((c :: r).length : Int) = r.length + 1 := by simp
    rw [e]
    cases E
    · simp only [sc, Bool.false_eq_true, if_false]
      by_cases hc : c = 10
      · simp only [hc, if_true]
        by_cases hS : S = 2
        · simp only [hS, if_true]; have := ih (i + 1) (if f = n ∧ 101 < L + 1 then i else f) (L + 1) 0 false; omega
        · simp only [hS, if_false]; have := ih (i + 1) f L 0 (decide (0 < L)); omega
      · simp only [hc, if_false]
        by_cases h13 : c = 13 ∧ S = 0
        · simp only [if_pos h13]; have := ih (i + 1) f L 1 false; omega
        · simp only [if_neg h13]; have := ih (i + 1) f L 2 false; omega
    · simp only [sc_ended]; omega

theorem sc_fits (n : Int) : ∀ (r : List Int) (i f L S : Int) (E : Bool), (f ≠ n → (sc n r i f L S E).1 = f) ∧ ((sc n r i f L S E).1 = f ∨ (i ≤ (sc n r i f L S E).1 ∧ (sc n r i f L S E).1 < i + r.length)) := by
  intro r
  induction r with
  | nil => intro i f L S E; simp [sc]
  | cons c r ih =>
    intro i f L S E
    have e : ((c :: r).length : Int) = r.length + 1 := by simp
    rw [e]
    cases E
    · simp only [sc, Bool.false_eq_true, if_false]
      by_cases hc : c = 10
      · simp only [hc, if_true]
        by_cases hS : S = 2
        · simp only [hS, if_true]
          by_cases hf : f = n ∧ 101 < L + 1
          · simp only [if_pos hf]; have := ih (i + 1) i (L + 1) 0 false; omega
          · simp only [if_neg hf]; have := ih (i + 1) f (L + 1) 0 false; omega
        · simp only [hS, if_false]; have := ih (i + 1) f L 0 (decide (0 < L)); omega
      · simp only [hc, if_false]
        by_cases h13 : c = 13 ∧ S = 0
        · simp only [if_pos h13]; have := ih (i + 1) f L 1 false; omega
        · simp only [if_neg h13]; have := ih (i + 1) f L 2 false; omega
    · simp only [sc_ended]; simp

/-- The same bytes scanned at another place, under another length: what is left of the head is the same; fits is 'not yet' in both, or moved by the distance. -/
theorem sc_shift (n n' d : Int) : ∀ (r : List Int) (i f f' L S : Int) (E : Bool), i + d + r.length ≤ n → i + r.length ≤ n' →
    ((f = n ∧ f' = n') ∨ (f = f' + d ∧ f ≠ n ∧ f' ≠ n')) →
    (sc n r (i + d) f L S E).2 = (sc n' r i f' L S E).2 ∧
    (((sc n r (i + d) f L S E).1 = n ∧ (sc n' r i f' L S E).1 = n') ∨ ((sc n r (i + d) f L S E).1 = (sc n' r i f' L S E).1 + d ∧ (sc n r (i + d) f L S E).1 ≠ n ∧ (sc n' r i f' L S E).1 ≠ n')) := by
  intro r
  induction r with
  | nil => intro i f f' L S E _ _ h; simpa [sc] using h
  | cons c r ih =>
    intro i f f' L S E h1 h2 h
    have e : ((c :: r).length : Int) = r.length + 1 := by simp
    rw [e] at h1 h2
    have ei : i + d + 1 = i + 1 + d := by omega
    cases E
    · simp only [sc, Bool.false_eq_true, if_false, ei]
      by_cases hc : c = 10
      · simp only [hc, if_true]
        by_cases hS : S = 2
        · simp only [hS, if_true]
          refine ih (i + 1) _ _ (L + 1) 0 false (by omega) (by omega) ?_
          by_cases hL : 101 < L + 1
          · rcases h with ⟨ha, hb⟩ | ⟨ha, hb, hd⟩
            · rw [if_pos ⟨ha, hL⟩, if_pos ⟨hb, hL⟩]; right; omega
            · rw [if_neg (fun x => hb x.1), if_neg (fun x => hd x.1)]; right; exact ⟨ha, hb, hd⟩
          · rw [if_neg (fun x => hL x.2), if_neg (fun x => hL x.2)]; exact h
        · simp only [hS, if_false]; exact ih (i + 1) _ _ _ _ _ (by omega) (by omega) h
      · simp only [hc, if_false]
        by_cases h13 : c = 13 ∧ S = 0
        · simp only [if_pos h13]; exact ih (i + 1) _ _ _ _ _ (by omega) (by omega) h
        · simp only [if_neg h13]; exact ih (i + 1) _ _ _ _ _ (by omega) (by omega) h
    · simp only [sc_ended]; exact ⟨trivial, h⟩

/-- THE CUT: two scans in a row are one scan. -/
theorem sc_cut (xs ys : List Int) (lines line : Int) (ended : Bool) :
    let A := sc xs.length xs 0 xs.length lines line ended
    let B := sc ys.length ys 0 ys.length A.2.1 A.2.2.1 A.2.2.2
    let W := sc ((xs ++ ys).length : Int) (xs ++ ys) 0 ((xs ++ ys).length : Int) lines line ended
    W.2 = B.2 ∧ W.1 = if A.1 < xs.length then A.1 else xs.length + B.1 := by
  intro A B W
  have el : ((xs ++ ys).length : Int) = xs.length + ys.length := by simp
  have hA := sc_shift ((xs ++ ys).length : Int) xs.length 0 xs 0 ((xs ++ ys).length : Int) xs.length lines line ended (by omega) (by omega) (.inl ⟨rfl, rfl⟩)
  simp only [Int.add_zero] at hA
  have hW : W = _ := sc_append ((xs ++ ys).length : Int) xs ys 0 ((xs ++ ys).length : Int) lines line ended
  obtain ⟨hA2, hA1⟩ := hA
  rw [hA2, Int.zero_add] at hW
  have hfa := (sc_fits (xs.length : Int) xs 0 xs.length lines line ended).2
  have hfa' := (sc_fits ((xs ++ ys).length : Int) xs 0 ((xs ++ ys).length : Int) lines line ended).2
  rw [Int.zero_add] at hfa hfa'
  generalize hZ : sc ((xs ++ ys).length : Int) xs 0 ((xs ++ ys).length : Int) lines line ended = Z at hA1 hW hfa'
  have hAA : sc (xs.length : Int) xs 0 xs.length lines line ended = A := rfl
  rw [hAA] at hA1 hfa hW
  rcases hA1 with ⟨h1, h2⟩ | ⟨h1, h2, h3⟩
  · -- nothing passed in the first piece
    have hB := sc_shift ((xs ++ ys).length : Int) ys.length xs.length ys 0 ((xs ++ ys).length : Int) ys.length A.2.1 A.2.2.1 A.2.2.2 (by omega) (by omega) (.inl ⟨rfl, rfl⟩)
    rw [Int.zero_add] at hB
    rw [h1] at hW
    rw [← hW] at hB
    have hBB : sc (ys.length : Int) ys 0 ys.length A.2.1 A.2.2.1 A.2.2.2 = B := rfl
    rw [hBB] at hB
    refine ⟨hB.1, ?_⟩
    rw [if_neg (by omega)]
    have := hB.2
    omega
  · -- it passed in the first
    have hk := (sc_fits ((xs ++ ys).length : Int) ys xs.length Z.1 A.2.1 A.2.2.1 A.2.2.2).1 h2
    rw [← hW] at hk
    refine ⟨?_, ?_⟩
    · have hs : ∀ (m : Int) (r : List Int) (i i' f f' m' L S : Int) (E : Bool), (sc m r i f L S E).2 = (sc m' r i' f' L S E).2 := by
        intro m r
        induction r with
        | nil => intros; simp [sc]
        | cons c r ih =>
          intro i i' f f' m' L S E
          cases E
          · simp only [sc, Bool.false_eq_true, if_false]
            by_cases hc : c = 10
            · simp only [hc, if_true]
              by_cases hS : S = 2
              · simp only [hS, if_true]; exact ih _ _ _ _ _ _ _ _
              · simp only [hS, if_false]; exact ih _ _ _ _ _ _ _ _
            · simp only [hc, if_false]
              by_cases h13 : c = 13 ∧ S = 0
              · simp only [if_pos h13]; exact ih _ _ _ _ _ _ _ _
              · simp only [if_neg h13]; exact ih _ _ _ _ _ _ _ _
          · simp only [sc_ended]
      rw [hW]
      exact hs _ _ _ _ _ _ _ _ _ _
    · rw [if_pos (by omega)]; omega

/-! ### The head's end -/
/-- What the loop of 'headEnds' computes: what is left, the line under way, seen. -/
def he : List Int → List Int → Bool → Bool
  | [], _, _ => false
  | c :: r, seg, seen =>
    if c = 10 then
      if seg.length = 0 ∨ (seg.length = 1 ∧ seg.getD 0 0 = 13) then (if seen = true then true else he r [] seen)
      else he r [] true
    else he r (seg ++ [c]) seen

theorem lEmpty_plain (line : Int) (seg : List Int) : lEmpty line false seg = decide (seg.length = 0 ∨ (seg.length = 1 ∧ seg.getD 0 0 = 13)) := by
  simp [lEmpty]

theorem md_he : ∀ (r seg : List Int) (i f : Int) (p : Bool) (L : Int), 0 ≤ L → (md 0 r seg i f p L false).2.2.2 = he r seg (decide (0 < L)) := by
  intro r
  induction r with
  | nil => intro seg i f p L _; simp [md, he]
  | cons c r ih =>
    intro seg i f p L hL
    unfold md he
    by_cases hc : c = 10
    · simp only [hc, if_true, lEmpty_plain]
      by_cases hs : seg.length = 0 ∨ (seg.length = 1 ∧ seg.getD 0 0 = 13)
      · simp only [hs, decide_true, if_true]
        by_cases h0 : 0 < L
        · simp [h0]
        · simp only [h0, if_false]
          rw [ih [] (i + 1) f p L hL]
          simp [h0]
      · simp only [hs, decide_false, Bool.false_eq_true, if_false]
        have h1 : decide (0 < L + 1) = true := by simp; omega
        by_cases hp : p = false ∧ 101 < L + 1
        · rw [if_pos hp, ih [] (i + 1) i true (L + 1) (by omega), h1]
        · rw [if_neg hp, ih [] (i + 1) f p (L + 1) (by omega), h1]
    · simp only [hc, if_false]
      exact ih _ _ _ _ _ hL

theorem lLeft_zero (fr : Bool) (seg : List Int) : lLeft 0 fr seg = lLeft 0 false seg := by
  cases fr
  · rfl
  · unfold lLeft; by_cases h : seg.length = 0 <;> simp [h]
theorem lEmpty_zero (fr : Bool) (seg : List Int) : lEmpty 0 fr seg = lEmpty 0 false seg := by
  rw [lEmpty_iff, lEmpty_iff, lLeft_zero]
theorem md_zero : ∀ (r seg : List Int) (i f : Int) (p : Bool) (L : Int), md 0 r seg i f p L true = md 0 r seg i f p L false := by
  intro r
  induction r with
  | nil => intro seg i f p L; simp only [md]; rw [lLeft_zero]
  | cons c r ih =>
    intro seg i f p L
    unfold md
    rw [lEmpty_zero true, ih]

/-- The head of a connection that has sent 'zs' has ended. -/
theorem sc_he (n f : Int) (zs : List Int) : (sc n zs 0 f 0 0 false).2.2.2 = he zs [] false := by
  have hs : ∀ (m : Int) (r : List Int) (i i' f f' m' L S : Int) (E : Bool), (sc m r i f L S E).2 = (sc m' r i' f' L S E).2 := by
    intro m r
    induction r with
    | nil => intros; simp [sc]
    | cons c r ih =>
      intro i i' f f' m' L S E
      cases E
      · simp only [sc, Bool.false_eq_true, if_false]
        by_cases hc : c = 10
        · simp only [hc, if_true]
          by_cases hS : S = 2
          · simp only [hS, if_true]; exact ih _ _ _ _ _ _ _ _
          · simp only [hS, if_false]; exact ih _ _ _ _ _ _ _ _
        · simp only [hc, if_false]
          by_cases h13 : c = 13 ∧ S = 0
          · simp only [if_pos h13]; exact ih _ _ _ _ _ _ _ _
          · simp only [if_neg h13]; exact ih _ _ _ _ _ _ _ _
      · simp only [sc_ended]
  rw [hs n zs 0 0 f zs.length zs.length 0 0 false]
  have h := sc_model 0 0 false zs
  rw [h]
  unfold model
  simp only [Bool.false_eq_true, if_false]
  rw [md_zero, md_he _ _ _ _ _ _ (by omega)]
  simp

theorem he_append (xs ys : List Int) (h : he xs [] false = true) : he (xs ++ ys) [] false = true := by
  rw [← sc_he 0 0] at h ⊢
  rw [sc_append, h, sc_ended]

end Go.Proofs.Qxb6619291a.Plain
