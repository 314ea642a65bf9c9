/-
  THE PLAIN FUNCTION of statementStarts, and its plain laws: shape, concatenation.
-/
import Derived.Test.Qxb6001362aPlainEnd
namespace Go.Proofs.Qxb6001362a.Pl

/-- The comment's end: the first line break from i on, or the text's end. -/
def cmF (g : Nat → Nat) (n : Nat) : Nat → Nat → Nat
  | 0, i => i
  | f + 1, i => if i < n ∧ ¬ g i = 10 then cmF g n f (i + 1) else i

def cmt (g : Nat → Nat) (n i : Nat) : Nat := cmF g n n i

theorem cmF_fuel (g : Nat → Nat) (n : Nat) : ∀ f f' i, n ≤ i + f → n ≤ i + f' → cmF g n f i = cmF g n f' i
  | 0, 0, _, _, _ => rfl
  | 0, f' + 1, i, h, _ => by
    unfold cmF
    rw [if_neg (by omega)]
  | f + 1, 0, i, _, h => by
    unfold cmF
    rw [if_neg (by omega)]
  | f + 1, f' + 1, i, h, h' => by
    unfold cmF
    by_cases hc : i < n ∧ ¬ g i = 10
    · rw [if_pos hc, if_pos hc]
      exact cmF_fuel g n f f' (i + 1) (by omega) (by omega)
    · rw [if_neg hc, if_neg hc]

theorem cmt_step (g : Nat → Nat) (n i : Nat) (h : i < n) (hq : ¬ g i = 10) : cmt g n i = cmt g n (i + 1) := by
  unfold cmt
  rw [cmF_fuel g n n (n + 1) i (by omega) (by omega)]
  show (if i < n ∧ ¬ g i = 10 then cmF g n n (i + 1) else i) = _
  rw [if_pos ⟨h, hq⟩]

theorem cmt_stop (g : Nat → Nat) (n i : Nat) (h : ¬ (i < n ∧ ¬ g i = 10)) : cmt g n i = i := by
  unfold cmt
  rw [cmF_fuel g n n (n + 1) i (by omega) (by omega)]
  show (if i < n ∧ ¬ g i = 10 then cmF g n n (i + 1) else i) = _
  rw [if_neg h]

theorem cmt_eq (g : Nat → Nat) (n : Nat) : ∀ d i, (∀ j, i ≤ j → j < i + d → j < n ∧ ¬ g j = 10) → ¬ (i + d < n ∧ ¬ g (i + d) = 10) → cmt g n i = i + d
  | 0, i, _, h' => cmt_stop g n i h'
  | d + 1, i, h, h' => by
    rw [cmt_step g n i (h i (by omega) (by omega)).1 (h i (by omega) (by omega)).2, cmt_eq g n d (i + 1) (fun j a b => h j (by omega) (by omega)) (by rw [show i + 1 + d = i + (d + 1) from by omega]; exact h')]
    omega

/-- What the comment's end is: between i and it no line break; and it is the end or a line break. -/
theorem cmt_is (g : Nat → Nat) (n : Nat) : ∀ d i, n ≤ i + d → i ≤ n → i ≤ cmt g n i ∧ cmt g n i ≤ n ∧ (∀ j, i ≤ j → j < cmt g n i → ¬ g j = 10) ∧ ¬ (cmt g n i < n ∧ ¬ g (cmt g n i) = 10)
  | 0, i, h, hi => by
    rw [cmt_stop g n i (by omega)]
    exact ⟨by omega, by omega, fun j a b => by omega, by omega⟩
  | d + 1, i, h, hi => by
    by_cases hc : i < n ∧ ¬ g i = 10
    · rw [cmt_step g n i hc.1 hc.2]
      have ih := cmt_is g n d (i + 1) (by omega) (by omega)
      refine ⟨by omega, ih.2.1, fun j a b => ?_, ih.2.2.2⟩
      by_cases e : j = i
      · subst e; exact hc.2
      · exact ih.2.2.1 j (by omega) b
    · rw [cmt_stop g n i hc]
      exact ⟨by omega, by omega, fun j a b => by omega, hc⟩

theorem cmt_gt (g : Nat → Nat) (n i : Nat) (h : i < n) (hq : ¬ g i = 10) : i < cmt g n i ∧ cmt g n i ≤ n := by
  rw [cmt_step g n i h hq]
  have := cmt_is g n n (i + 1) (by omega) (by omega)
  omega

/-- The starts that are found from place i on, at depth d (with fuel). -/
def stF (g : Nat → Nat) (n : Nat) : Nat → Nat → Int → List Nat
  | 0, _, _ => []
  | f + 1, i, d =>
    if i < n then
      if g i = 10 then (if d = 0 then (i + 1) :: stF g n f (i + 1) d else stF g n f (i + 1) d)
      else if g i = 35 then stF g n f (cmt g n i) d
      else if g i = 34 ∨ g i = 39 then stF g n f (strEnd g n i) d
      else if g i = 91 ∨ g i = 123 then stF g n f (i + 1) (d + 1)
      else if g i = 93 ∨ g i = 125 then stF g n f (i + 1) (d - 1)
      else stF g n f (i + 1) d
    else []

theorem stF_fuel (g : Nat → Nat) (n : Nat) : ∀ f f' i d, n ≤ i + f → n ≤ i + f' → stF g n f i d = stF g n f' i d
  | 0, 0, _, _, _, _ => rfl
  | 0, f' + 1, i, d, h, _ => by
    unfold stF
    rw [if_neg (by omega)]
  | f + 1, 0, i, d, _, h => by
    unfold stF
    rw [if_neg (by omega)]
  | f + 1, f' + 1, i, d, h, h' => by
    unfold stF
    by_cases hi : i < n
    · rw [if_pos hi, if_pos hi]
      have ih := fun j e (hj : i < j) => stF_fuel g n f f' j e (by omega) (by omega)
      by_cases h1 : g i = 10
      · rw [if_pos h1, if_pos h1, ih (i + 1) d (by omega)]
      · rw [if_neg h1, if_neg h1]
        by_cases h2 : g i = 35
        · rw [if_pos h2, if_pos h2, ih _ d (cmt_gt g n i hi h1).1]
        · rw [if_neg h2, if_neg h2]
          by_cases h3 : g i = 34 ∨ g i = 39
          · rw [if_pos h3, if_pos h3, ih _ d (strEnd_bounds g n i hi).1]
          · rw [if_neg h3, if_neg h3]
            by_cases h4 : g i = 91 ∨ g i = 123
            · rw [if_pos h4, if_pos h4, ih _ _ (by omega)]
            · rw [if_neg h4, if_neg h4]
              by_cases h5 : g i = 93 ∨ g i = 125
              · rw [if_pos h5, if_pos h5, ih _ _ (by omega)]
              · rw [if_neg h5, if_neg h5, ih _ _ (by omega)]
    · rw [if_neg hi, if_neg hi]

def st (g : Nat → Nat) (n i : Nat) (d : Int) : List Nat := stF g n n i d

theorem st_eq (g : Nat → Nat) (n i : Nat) (d : Int) : st g n i d =
    if i < n then
      if g i = 10 then (if d = 0 then (i + 1) :: st g n (i + 1) d else st g n (i + 1) d)
      else if g i = 35 then st g n (cmt g n i) d
      else if g i = 34 ∨ g i = 39 then st g n (strEnd g n i) d
      else if g i = 91 ∨ g i = 123 then st g n (i + 1) (d + 1)
      else if g i = 93 ∨ g i = 125 then st g n (i + 1) (d - 1)
      else st g n (i + 1) d
    else [] := by
  have e : st g n i d = stF g n (n + 1) i d := stF_fuel g n n (n + 1) i d (by omega) (by omega)
  rw [e]
  rfl

theorem st_past (g : Nat → Nat) (n i : Nat) (d : Int) (h : ¬ i < n) : st g n i d = [] := by rw [st_eq, if_neg h]
theorem st_line0 (g : Nat → Nat) (n i : Nat) (d : Int) (h : i < n) (h1 : g i = 10) (h0 : d = 0) : st g n i d = (i + 1) :: st g n (i + 1) d := by rw [st_eq, if_pos h, if_pos h1, if_pos h0]
theorem st_line (g : Nat → Nat) (n i : Nat) (d : Int) (h : i < n) (h1 : g i = 10) (h0 : ¬ d = 0) : st g n i d = st g n (i + 1) d := by rw [st_eq, if_pos h, if_pos h1, if_neg h0]
theorem st_cmt (g : Nat → Nat) (n i : Nat) (d : Int) (h : i < n) (h1 : g i = 35) : st g n i d = st g n (cmt g n i) d := by rw [st_eq, if_pos h, if_neg (by omega), if_pos h1]
theorem st_str (g : Nat → Nat) (n i : Nat) (d : Int) (h : i < n) (h1 : g i = 34 ∨ g i = 39) : st g n i d = st g n (strEnd g n i) d := by rw [st_eq, if_pos h, if_neg (by omega), if_neg (by omega), if_pos h1]
theorem st_open (g : Nat → Nat) (n i : Nat) (d : Int) (h : i < n) (h1 : g i = 91 ∨ g i = 123) : st g n i d = st g n (i + 1) (d + 1) := by rw [st_eq, if_pos h, if_neg (by omega), if_neg (by omega), if_neg (by omega), if_pos h1]
theorem st_shut (g : Nat → Nat) (n i : Nat) (d : Int) (h : i < n) (h1 : g i = 93 ∨ g i = 125) : st g n i d = st g n (i + 1) (d - 1) := by rw [st_eq, if_pos h, if_neg (by omega), if_neg (by omega), if_neg (by omega), if_neg (by omega), if_pos h1]
theorem st_on (g : Nat → Nat) (n i : Nat) (d : Int) (h : i < n) (h1 : ¬ g i = 10) (h2 : ¬ g i = 35) (h3 : ¬ (g i = 34 ∨ g i = 39)) (h4 : ¬ (g i = 91 ∨ g i = 123)) (h5 : ¬ (g i = 93 ∨ g i = 125)) : st g n i d = st g n (i + 1) d := by
  rw [st_eq, if_pos h, if_neg h1, if_neg h2, if_neg h3, if_neg h4, if_neg h5]

/-- ONE STEP, in one word: the place rises, the rest follows; a start is laid only at a line break. -/
theorem st_cases (g : Nat → Nat) (n i : Nat) (d : Int) (h : i < n) : (g i = 10 ∧ d = 0 ∧ st g n i d = (i + 1) :: st g n (i + 1) d) ∨ ∃ j e, i < j ∧ j ≤ n ∧ st g n i d = st g n j e := by
  by_cases h1 : g i = 10
  · by_cases h0 : d = 0
    · exact .inl ⟨h1, h0, st_line0 g n i d h h1 h0⟩
    · exact .inr ⟨i + 1, d, by omega, by omega, st_line g n i d h h1 h0⟩
  · by_cases h2 : g i = 35
    · have := cmt_gt g n i h h1
      exact .inr ⟨_, d, this.1, this.2, st_cmt g n i d h h2⟩
    · by_cases h3 : g i = 34 ∨ g i = 39
      · have := strEnd_bounds g n i h
        exact .inr ⟨_, d, this.1, this.2.1, st_str g n i d h h3⟩
      · by_cases h4 : g i = 91 ∨ g i = 123
        · exact .inr ⟨_, _, by omega, by omega, st_open g n i d h h4⟩
        · by_cases h5 : g i = 93 ∨ g i = 125
          · exact .inr ⟨_, _, by omega, by omega, st_shut g n i d h h5⟩
          · exact .inr ⟨_, _, by omega, by omega, st_on g n i d h h1 h2 h3 h4 h5⟩

/-- THE SHAPE: read from place b on: each start lies beyond the one ahead of it, within the text, behind a line break. -/
def Shape (g : Nat → Nat) (n : Nat) : Nat → List Nat → Prop
  | _, [] => True
  | b, x :: l => b < x ∧ x ≤ n ∧ g (x - 1) = 10 ∧ Shape g n x l

theorem Shape.low {g : Nat → Nat} {n b c : Nat} {l : List Nat} (h : Shape g n c l) (hb : b ≤ c) : Shape g n b l := by
  cases l with
  | nil => exact True.intro
  | cons x l => exact ⟨Nat.lt_of_le_of_lt hb h.1, h.2⟩

theorem st_shape (g : Nat → Nat) (n : Nat) : ∀ k i d, n ≤ i + k → Shape g n i (st g n i d)
  | 0, i, d, h => by
    rw [st_past g n i d (by omega)]
    exact True.intro
  | k + 1, i, d, h => by
    by_cases hi : i < n
    · rcases st_cases g n i d hi with ⟨h1, _, e⟩ | ⟨j, d', hj, _, e⟩
      · rw [e]
        exact ⟨by omega, by omega, by rw [Nat.add_sub_cancel]; exact h1, st_shape g n k (i + 1) d (by omega)⟩
      · rw [e]
        exact (st_shape g n k j d' (by omega)).low (by omega)
    · rw [st_past g n i d hi]
      exact True.intro

theorem Shape.place {g : Nat → Nat} {n : Nat} : ∀ {b : Nat} {l : List Nat}, Shape g n b l → ∀ k, k < l.length → (b :: l).getD k 0 < l.getD k 0 ∧ l.getD k 0 ≤ n ∧ g (l.getD k 0 - 1) = 10
  | b, [], _, k, hk => by simp at hk
  | b, x :: l, h, 0, _ => ⟨h.1, h.2.1, h.2.2.1⟩
  | b, x :: l, h, k + 1, hk => h.2.2.2.place k (by simpa using hk)

theorem st_length (g : Nat → Nat) (n : Nat) : ∀ k i d, n ≤ i + k → (st g n i d).length ≤ k
  | 0, i, d, h => by
    rw [st_past g n i d (by omega)]
    exact Nat.le_refl _
  | k + 1, i, d, h => by
    by_cases hi : i < n
    · rcases st_cases g n i d hi with ⟨_, _, e⟩ | ⟨j, d', hj, _, e⟩
      · rw [e]
        have := st_length g n k (i + 1) d (by omega)
        simp only [List.length_cons]
        omega
      · rw [e]
        have := st_length g n k j d' (by omega)
        omega
    · rw [st_past g n i d hi]
      exact Nat.zero_le _

/-! ### Concatenation -/
theorem cmt_shift (g g' : Nat → Nat) (n p : Nat) (hg : ∀ i, g' (p + i) = g i) : ∀ k i, n ≤ i + k → cmt g' (p + n) (p + i) = p + cmt g n i
  | 0, i, h => by rw [cmt_stop g n i (by omega), cmt_stop g' (p + n) (p + i) (by omega)]
  | k + 1, i, h => by
    by_cases hc : i < n ∧ ¬ g i = 10
    · rw [cmt_step g n i hc.1 hc.2, cmt_step g' (p + n) (p + i) (by omega) (by rw [hg]; exact hc.2)]
      exact cmt_shift g g' n p hg k (i + 1) (by omega)
    · rw [cmt_stop g n i hc, cmt_stop g' (p + n) (p + i) (by rw [hg]; intro x; exact hc ⟨by omega, x.2⟩)]

theorem cmt_ext (g g' : Nat → Nat) (n n' : Nat) (hg : ∀ i, i < n → g' i = g i) (hn : n ≤ n') (i : Nat) (hi : i ≤ n) (h : cmt g n i < n) : cmt g' n' i = cmt g n i := by
  have c := cmt_is g n n i (by omega) hi
  have e : i + (cmt g n i - i) = cmt g n i := by omega
  rw [cmt_eq g' n' (cmt g n i - i) i (fun j a b => ⟨by omega, by rw [hg j (by omega)]; exact c.2.2.1 j a (by omega)⟩) ?_, e]
  rw [e, hg _ h]
  exact fun x => c.2.2.2 ⟨h, x.2⟩

theorem st_shift (g g' : Nat → Nat) (n p : Nat) (hg : ∀ i, g' (p + i) = g i) : ∀ k i d, n ≤ i + k → st g' (p + n) (p + i) d = (st g n i d).map (p + ·)
  | 0, i, d, h => by
    rw [st_past g n i d (by omega), st_past g' (p + n) (p + i) d (by omega)]
    rfl
  | k + 1, i, d, h => by
    by_cases hi : i < n
    · have hi' : p + i < p + n := by omega
      have hgi := hg i
      have ih := fun j e (hj : i < j) => st_shift g g' n p hg k j e (by omega)
      by_cases h1 : g i = 10
      · by_cases h0 : d = 0
        · rw [st_line0 g n i d hi h1 h0, st_line0 g' (p + n) (p + i) d hi' (by rw [hgi]; exact h1) h0, Nat.add_assoc, ih (i + 1) d (by omega)]
          rfl
        · rw [st_line g n i d hi h1 h0, st_line g' (p + n) (p + i) d hi' (by rw [hgi]; exact h1) h0, Nat.add_assoc, ih (i + 1) d (by omega)]
      · by_cases h2 : g i = 35
        · rw [st_cmt g n i d hi h2, st_cmt g' (p + n) (p + i) d hi' (by rw [hgi]; exact h2), cmt_shift g g' n p hg n i (by omega), ih _ d (cmt_gt g n i hi h1).1]
        · by_cases h3 : g i = 34 ∨ g i = 39
          · rw [st_str g n i d hi h3, st_str g' (p + n) (p + i) d hi' (by rw [hgi]; exact h3), strEnd_shift g g' n p hg i, ih _ d (strEnd_bounds g n i hi).1]
          · by_cases h4 : g i = 91 ∨ g i = 123
            · rw [st_open g n i d hi h4, st_open g' (p + n) (p + i) d hi' (by rw [hgi]; exact h4), Nat.add_assoc, ih (i + 1) _ (by omega)]
            · by_cases h5 : g i = 93 ∨ g i = 125
              · rw [st_shut g n i d hi h5, st_shut g' (p + n) (p + i) d hi' (by rw [hgi]; exact h5), Nat.add_assoc, ih (i + 1) _ (by omega)]
              · rw [st_on g n i d hi h1 h2 h3 h4 h5, st_on g' (p + n) (p + i) d hi' (by rw [hgi]; exact h1) (by rw [hgi]; exact h2) (by rw [hgi]; exact h3) (by rw [hgi]; exact h4) (by rw [hgi]; exact h5), Nat.add_assoc, ih (i + 1) _ (by omega)]
    · rw [st_past g n i d hi, st_past g' (p + n) (p + i) d (by omega)]
      rfl

/-- The run from (i, d) comes to the text's end at a start. -/
def Ends (g : Nat → Nat) (n i : Nat) (d : Int) : Prop := (i = n ∧ d = 0) ∨ (st g n i d).getLast? = some n

theorem st_ext (g g' : Nat → Nat) (n n' : Nat) (hg : ∀ i, i < n → g' i = g i) (hn : n ≤ n') : ∀ k i d, n ≤ i + k → i ≤ n → Ends g n i d → st g' n' i d = st g n i d ++ st g' n' n 0
  | 0, i, d, h, hin, he => by
    rw [st_past g n i d (by omega)]
    rcases he with ⟨rfl, rfl⟩ | he
    · rfl
    · rw [st_past g n i d (by omega)] at he
      cases he
  | k + 1, i, d, h, hin, he => by
    by_cases hi : i < n
    · have hi' : i < n' := by omega
      have hgi := hg i hi
      have hl : (st g n i d).getLast? = some n := by
        rcases he with he | he
        · omega
        · exact he
      have ih := fun j e (hj : i < j) (hj' : j ≤ n) (hE : Ends g n j e) => st_ext g g' n n' hg hn k j e (by omega) hj' hE
      by_cases h1 : g i = 10
      · by_cases h0 : d = 0
        · rw [st_line0 g n i d hi h1 h0] at hl ⊢
          rw [st_line0 g' n' i d hi' (by rw [hgi]; exact h1) h0]
          have hE : Ends g n (i + 1) d := by
            cases hs : st g n (i + 1) d with
            | nil =>
              rw [hs] at hl
              simp at hl
              exact .inl ⟨hl, h0⟩
            | cons x l =>
              rw [hs, List.getLast?_cons_cons] at hl
              exact .inr (by rw [hs]; exact hl)
          rw [ih (i + 1) d (by omega) (by omega) hE]
          rfl
        · rw [st_line g n i d hi h1 h0] at hl ⊢
          rw [st_line g' n' i d hi' (by rw [hgi]; exact h1) h0, ih (i + 1) d (by omega) (by omega) (.inr hl)]
      · by_cases h2 : g i = 35
        · rw [st_cmt g n i d hi h2] at hl ⊢
          have c := cmt_gt g n i hi h1
          have hlt : cmt g n i < n := by
            rcases Nat.lt_or_ge (cmt g n i) n with x | x
            · exact x
            · rw [st_past g n _ d (by omega)] at hl
              cases hl
          rw [st_cmt g' n' i d hi' (by rw [hgi]; exact h2), cmt_ext g g' n n' hg hn i (by omega) hlt, ih _ d c.1 c.2 (.inr hl)]
        · by_cases h3 : g i = 34 ∨ g i = 39
          · rw [st_str g n i d hi h3] at hl ⊢
            have c := strEnd_bounds g n i hi
            have hlt : strEnd g n i < n := by
              rcases Nat.lt_or_ge (strEnd g n i) n with x | x
              · exact x
              · rw [st_past g n _ d (by omega)] at hl
                cases hl
            rw [st_str g' n' i d hi' (by rw [hgi]; exact h3), strEnd_ext g g' n n' hg hn i hi hlt, ih _ d c.1 c.2.1 (.inr hl)]
          · by_cases h4 : g i = 91 ∨ g i = 123
            · rw [st_open g n i d hi h4] at hl ⊢
              rw [st_open g' n' i d hi' (by rw [hgi]; exact h4), ih (i + 1) _ (by omega) (by omega) (.inr hl)]
            · by_cases h5 : g i = 93 ∨ g i = 125
              · rw [st_shut g n i d hi h5] at hl ⊢
                rw [st_shut g' n' i d hi' (by rw [hgi]; exact h5), ih (i + 1) _ (by omega) (by omega) (.inr hl)]
              · rw [st_on g n i d hi h1 h2 h3 h4 h5] at hl ⊢
                rw [st_on g' n' i d hi' (by rw [hgi]; exact h1) (by rw [hgi]; exact h2) (by rw [hgi]; exact h3) (by rw [hgi]; exact h4) (by rw [hgi]; exact h5), ih (i + 1) _ (by omega) (by omega) (.inr hl)]
    · rw [st_past g n i d hi]
      rcases he with ⟨rfl, rfl⟩ | he
      · rfl
      · rw [st_past g n i d hi] at he
        cases he

/-- The starts of a text. -/
def starts (g : Nat → Nat) (n : Nat) : List Nat := 0 :: st g n 0 0

/-- THE LAW OF CONCATENATION. -/
theorem starts_concat (g gb g' : Nat → Nat) (n m : Nat) (hg : ∀ i, i < n → g' i = g i) (hb : ∀ i, g' (n + i) = gb i) (hl : (starts g n).getLast? = some n) :
    starts g' (n + m) = starts g n ++ (st gb m 0 0).map (n + ·) := by
  have hE : Ends g n 0 0 := by
    unfold starts at hl
    cases hs : st g n 0 0 with
    | nil =>
      rw [hs] at hl
      simp at hl
      exact .inl ⟨hl, rfl⟩
    | cons x l =>
      rw [hs, List.getLast?_cons_cons] at hl
      exact .inr (by rw [hs]; exact hl)
  have h1 := st_ext g g' n (n + m) hg (by omega) n 0 0 (by omega) (by omega) hE
  have h2 := st_shift gb g' m n hb m 0 0 (by omega)
  rw [Nat.add_zero] at h2
  unfold starts
  rw [h1, h2]
  rfl

end Go.Proofs.Qxb6001362a.Pl
