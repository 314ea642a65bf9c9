/-
  THE PLAIN FUNCTIONS: no Go in sight. 'g': a byte's number by its place; 'n': the text's length; 'q': the quote's number.
-/
namespace Go.Proofs.Qxb6001362a.Pl

/-- The first place from i on that is past the text or holds no q (with fuel f). -/
def runF (g : Nat → Nat) (n q : Nat) : Nat → Nat → Nat
  | 0, i => i
  | f + 1, i => if i < n ∧ g i = q then runF g n q f (i + 1) else i

def runEnd (g : Nat → Nat) (n q i : Nat) : Nat := runF g n q n i

theorem runF_fuel (g : Nat → Nat) (n q : Nat) : ∀ f f' i, n ≤ i + f → n ≤ i + f' → runF g n q f i = runF g n q f' i
  | 0, 0, _, _, _ => rfl
  | 0, f' + 1, i, h, _ => by
    unfold runF
    rw [if_neg (by omega)]
  | f + 1, 0, i, _, h => by
    unfold runF
    rw [if_neg (by omega)]
  | f + 1, f' + 1, i, h, h' => by
    unfold runF
    by_cases hc : i < n ∧ g i = q
    · rw [if_pos hc, if_pos hc]
      exact runF_fuel g n q f f' (i + 1) (by omega) (by omega)
    · rw [if_neg hc, if_neg hc]

theorem runEnd_step (g : Nat → Nat) (n q i : Nat) (h : i < n) (hq : g i = q) : runEnd g n q i = runEnd g n q (i + 1) := by
  unfold runEnd
  rw [runF_fuel g n q n (n + 1) i (by omega) (by omega)]
  show (if i < n ∧ g i = q then runF g n q n (i + 1) else i) = _
  rw [if_pos ⟨h, hq⟩]

theorem runEnd_stop (g : Nat → Nat) (n q i : Nat) (h : ¬ (i < n ∧ g i = q)) : runEnd g n q i = i := by
  unfold runEnd
  rw [runF_fuel g n q n (n + 1) i (by omega) (by omega)]
  show (if i < n ∧ g i = q then runF g n q n (i + 1) else i) = _
  rw [if_neg h]

theorem runF_le (g : Nat → Nat) (n q : Nat) : ∀ f i, i ≤ runF g n q f i ∧ (i ≤ n → runF g n q f i ≤ n)
  | 0, i => ⟨Nat.le_refl _, fun h => h⟩
  | f + 1, i => by
    unfold runF
    by_cases hc : i < n ∧ g i = q
    · rw [if_pos hc]
      have := runF_le g n q f (i + 1)
      exact ⟨by omega, fun h => this.2 (by omega)⟩
    · rw [if_neg hc]
      exact ⟨Nat.le_refl _, fun h => h⟩

theorem runEnd_ge (g : Nat → Nat) (n q i : Nat) : i ≤ runEnd g n q i := (runF_le g n q n i).1
theorem runEnd_le (g : Nat → Nat) (n q i : Nat) (h : i ≤ n) : runEnd g n q i ≤ n := (runF_le g n q n i).2 h

/-- What stands between i and the run's end is q. -/
theorem runF_mid (g : Nat → Nat) (n q : Nat) : ∀ f i j, i ≤ j → j < runF g n q f i → g j = q
  | 0, i, j, h, h' => by unfold runF at h'; omega
  | f + 1, i, j, h, h' => by
    unfold runF at h'
    by_cases hc : i < n ∧ g i = q
    · rw [if_pos hc] at h'
      by_cases e : i = j
      · subst e; exact hc.2
      · exact runF_mid g n q f (i + 1) j (by omega) h'
    · rw [if_neg hc] at h'
      omega

theorem runEnd_mid (g : Nat → Nat) (n q i j : Nat) (h : i ≤ j) (h' : j < runEnd g n q i) : g j = q := runF_mid g n q n i j h h'

/-- At the run's end no q stands. -/
theorem runF_end (g : Nat → Nat) (n q : Nat) : ∀ f i, n ≤ i + f → ¬ (runF g n q f i < n ∧ g (runF g n q f i) = q)
  | 0, i, h => by unfold runF; omega
  | f + 1, i, h => by
    unfold runF
    by_cases hc : i < n ∧ g i = q
    · rw [if_pos hc]
      exact runF_end g n q f (i + 1) (by omega)
    · rw [if_neg hc]
      exact hc

theorem runEnd_end (g : Nat → Nat) (n q i : Nat) : ¬ (runEnd g n q i < n ∧ g (runEnd g n q i) = q) := runF_end g n q n i (by omega)

/-- Where the run's end is known. -/
theorem runEnd_eq (g : Nat → Nat) (n q : Nat) : ∀ d i, (∀ j, i ≤ j → j < i + d → j < n ∧ g j = q) → ¬ (i + d < n ∧ g (i + d) = q) → runEnd g n q i = i + d
  | 0, i, _, h' => runEnd_stop g n q i h'
  | d + 1, i, h, h' => by
    rw [runEnd_step g n q i (h i (by omega) (by omega)).1 (h i (by omega) (by omega)).2, runEnd_eq g n q d (i + 1) (fun j a b => h j (by omega) (by omega)) (by rw [show i + 1 + d = i + (d + 1) from by omega]; exact h')]
    omega

/-- The scan of a string's inside, from i on (with fuel f): the place just past the string. -/
def scanF (g : Nat → Nat) (n q : Nat) (m : Bool) : Nat → Nat → Nat
  | 0, _ => n
  | f + 1, i =>
    if i < n then
      if g i = 92 then scanF g n q m f (if q = 34 then i + 2 else i + 1)
      else if g i = q then
        if m = true then
          if i + 3 ≤ runEnd g n q i then runEnd g n q i else scanF g n q m f (runEnd g n q i)
        else i + 1
      else scanF g n q m f (i + 1)
    else n

theorem runEnd_gt (g : Nat → Nat) (n q i : Nat) (h : i < n) (hq : g i = q) : i < runEnd g n q i := by
  rw [runEnd_step g n q i h hq]
  exact runEnd_ge g n q (i + 1)

theorem scanF_fuel (g : Nat → Nat) (n q : Nat) (m : Bool) : ∀ f f' i, n ≤ i + f → n ≤ i + f' → scanF g n q m f i = scanF g n q m f' i
  | 0, 0, _, _, _ => rfl
  | 0, f' + 1, i, h, _ => by
    unfold scanF
    rw [if_neg (by omega)]
  | f + 1, 0, i, _, h => by
    unfold scanF
    rw [if_neg (by omega)]
  | f + 1, f' + 1, i, h, h' => by
    unfold scanF
    by_cases hi : i < n
    · rw [if_pos hi, if_pos hi]
      by_cases hb : g i = 92
      · rw [if_pos hb, if_pos hb]
        by_cases h34 : q = 34
        · rw [if_pos h34]
          exact scanF_fuel g n q m f f' _ (by omega) (by omega)
        · rw [if_neg h34]
          exact scanF_fuel g n q m f f' _ (by omega) (by omega)
      · rw [if_neg hb, if_neg hb]
        by_cases hq : g i = q
        · rw [if_pos hq, if_pos hq]
          have := runEnd_gt g n q i hi hq
          by_cases hm : m = true
          · rw [if_pos hm, if_pos hm]
            by_cases h3 : i + 3 ≤ runEnd g n q i
            · rw [if_pos h3, if_pos h3]
            · rw [if_neg h3, if_neg h3]
              exact scanF_fuel g n q m f f' _ (by omega) (by omega)
          · rw [if_neg hm, if_neg hm]
        · rw [if_neg hq, if_neg hq]
          exact scanF_fuel g n q m f f' _ (by omega) (by omega)
    · rw [if_neg hi, if_neg hi]

def scan (g : Nat → Nat) (n q : Nat) (m : Bool) (i : Nat) : Nat := scanF g n q m n i

theorem scan_eq (g : Nat → Nat) (n q : Nat) (m : Bool) (i : Nat) : scan g n q m i =
    if i < n then
      if g i = 92 then scan g n q m (if q = 34 then i + 2 else i + 1)
      else if g i = q then
        if m = true then
          if i + 3 ≤ runEnd g n q i then runEnd g n q i else scan g n q m (runEnd g n q i)
        else i + 1
      else scan g n q m (i + 1)
    else n := by
  have e : scan g n q m i = scanF g n q m (n + 1) i := scanF_fuel g n q m n (n + 1) i (by omega) (by omega)
  rw [e]
  rfl

theorem scan_past (g : Nat → Nat) (n q : Nat) (m : Bool) (i : Nat) (h : ¬ i < n) : scan g n q m i = n := by
  rw [scan_eq, if_neg h]
theorem scan_esc2 (g : Nat → Nat) (n q : Nat) (m : Bool) (i : Nat) (h : i < n) (hb : g i = 92) (h34 : q = 34) : scan g n q m i = scan g n q m (i + 2) := by
  rw [scan_eq, if_pos h, if_pos hb, if_pos h34]
theorem scan_esc1 (g : Nat → Nat) (n q : Nat) (m : Bool) (i : Nat) (h : i < n) (hb : g i = 92) (h34 : ¬ q = 34) : scan g n q m i = scan g n q m (i + 1) := by
  rw [scan_eq, if_pos h, if_pos hb, if_neg h34]
theorem scan_one (g : Nat → Nat) (n q : Nat) (m : Bool) (i : Nat) (h : i < n) (hb : ¬ g i = 92) (hq : g i = q) (hm : m = false) : scan g n q m i = i + 1 := by
  rw [scan_eq, if_pos h, if_neg hb, if_pos hq, if_neg (by simp [hm])]
theorem scan_run (g : Nat → Nat) (n q : Nat) (m : Bool) (i : Nat) (h : i < n) (hb : ¬ g i = 92) (hq : g i = q) (hm : m = true) (h3 : i + 3 ≤ runEnd g n q i) : scan g n q m i = runEnd g n q i := by
  rw [scan_eq, if_pos h, if_neg hb, if_pos hq, if_pos hm, if_pos h3]
theorem scan_few (g : Nat → Nat) (n q : Nat) (m : Bool) (i : Nat) (h : i < n) (hb : ¬ g i = 92) (hq : g i = q) (hm : m = true) (h3 : ¬ i + 3 ≤ runEnd g n q i) : scan g n q m i = scan g n q m (runEnd g n q i) := by
  rw [scan_eq, if_pos h, if_neg hb, if_pos hq, if_pos hm, if_neg h3]
theorem scan_on (g : Nat → Nat) (n q : Nat) (m : Bool) (i : Nat) (h : i < n) (hb : ¬ g i = 92) (hq : ¬ g i = q) : scan g n q m i = scan g n q m (i + 1) := by
  rw [scan_eq, if_pos h, if_neg hb, if_neg hq]

/-- Do three equal bytes stand at i? -/
def triple (g : Nat → Nat) (n i : Nat) : Bool := decide (i + 2 < n ∧ g (i + 1) = g i ∧ g (i + 2) = g i)

/-- The place just past the string that opens at i. -/
def strEnd (g : Nat → Nat) (n i : Nat) : Nat := scan g n (g i) (triple g n i) (if triple g n i then i + 3 else i + 1)

end Go.Proofs.Qxb6001362a.Pl
