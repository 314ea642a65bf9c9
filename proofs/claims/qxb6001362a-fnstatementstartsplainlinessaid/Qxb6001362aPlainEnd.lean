/-
  THE PLAIN LAWS of 'strEnd': its bounds; it shifts with what is put ahead; what is put behind leaves it.
-/
import Derived.Test.Qxb6001362aPlain
namespace Go.Proofs.Qxb6001362a.Pl

/-- Where the scan ends: at the text's end, or just past a quote. -/
theorem scan_bounds (g : Nat → Nat) (n q : Nat) (m : Bool) : ∀ d i, n ≤ i + d → scan g n q m i ≤ n ∧ (scan g n q m i = n ∨ (i + 1 ≤ scan g n q m i ∧ g (scan g n q m i - 1) = q ∧ (m = true → i + 3 ≤ scan g n q m i)))
  | 0, i, h => by
    rw [scan_past g n q m i (by omega)]
    exact ⟨Nat.le_refl _, .inl rfl⟩
  | d + 1, i, h => by
    by_cases hi : i < n
    · by_cases hb : g i = 92
      · by_cases h34 : q = 34
        · rw [scan_esc2 g n q m i hi hb h34]
          have := scan_bounds g n q m d (i + 2) (by omega)
          refine ⟨this.1, ?_⟩
          rcases this.2 with x | x
          · exact .inl x
          · exact .inr ⟨by omega, x.2.1, fun hm => by have := x.2.2 hm; omega⟩
        · rw [scan_esc1 g n q m i hi hb h34]
          have := scan_bounds g n q m d (i + 1) (by omega)
          refine ⟨this.1, ?_⟩
          rcases this.2 with x | x
          · exact .inl x
          · exact .inr ⟨by omega, x.2.1, fun hm => by have := x.2.2 hm; omega⟩
      · by_cases hq : g i = q
        · cases m with
          | false =>
            rw [scan_one g n q false i hi hb hq rfl]
            exact ⟨by omega, .inr ⟨by omega, by rw [Nat.add_sub_cancel]; exact hq, fun e => by cases e⟩⟩
          | true =>
            have gt := runEnd_gt g n q i hi hq
            by_cases h3 : i + 3 ≤ runEnd g n q i
            · rw [scan_run g n q true i hi hb hq rfl h3]
              exact ⟨runEnd_le g n q i (by omega), .inr ⟨by omega, runEnd_mid g n q i _ (by omega) (by omega), fun _ => h3⟩⟩
            · rw [scan_few g n q true i hi hb hq rfl h3]
              have := scan_bounds g n q true d (runEnd g n q i) (by omega)
              refine ⟨this.1, ?_⟩
              rcases this.2 with x | x
              · exact .inl x
              · exact .inr ⟨by omega, x.2.1, fun hm => by have := x.2.2 hm; omega⟩
        · rw [scan_on g n q m i hi hb hq]
          have := scan_bounds g n q m d (i + 1) (by omega)
          refine ⟨this.1, ?_⟩
          rcases this.2 with x | x
          · exact .inl x
          · exact .inr ⟨by omega, x.2.1, fun hm => by have := x.2.2 hm; omega⟩
    · rw [scan_past g n q m i hi]
      exact ⟨Nat.le_refl _, .inl rfl⟩

/-- The bounds law. -/
theorem strEnd_bounds (g : Nat → Nat) (n i : Nat) (h : i < n) : i < strEnd g n i ∧ strEnd g n i ≤ n ∧ (strEnd g n i = n ∨ (g (strEnd g n i - 1) = g i ∧ i + 2 ≤ strEnd g n i ∧ (triple g n i = true → i + 6 ≤ strEnd g n i))) := by
  unfold strEnd
  cases hm : triple g n i with
  | false =>
    have := scan_bounds g n (g i) false n (i + 1) (by omega)
    rw [if_neg (by simp)]
    refine ⟨by omega, this.1, ?_⟩
    rcases this.2 with x | x
    · exact .inl x
    · exact .inr ⟨x.2.1, by omega, fun e => by cases e⟩
  | true =>
    have := scan_bounds g n (g i) true n (i + 3) (by omega)
    rw [if_pos rfl]
    refine ⟨by omega, this.1, ?_⟩
    rcases this.2 with x | x
    · exact .inl x
    · have := x.2.2 rfl
      exact .inr ⟨x.2.1, by omega, fun _ => by omega⟩

theorem runF_shift (g g' : Nat → Nat) (n p : Nat) (hg : ∀ i, g' (p + i) = g i) (q : Nat) : ∀ f i, runF g' (p + n) q f (p + i) = p + runF g n q f i
  | 0, _ => rfl
  | f + 1, i => by
    unfold runF
    rw [hg i]
    by_cases h : i < n ∧ g i = q
    · rw [if_pos h, if_pos ⟨by omega, h.2⟩]
      exact runF_shift g g' n p hg q f (i + 1)
    · rw [if_neg h, if_neg (fun c => h ⟨by omega, c.2⟩)]
theorem runEnd_shift (g g' : Nat → Nat) (n p : Nat) (hg : ∀ i, g' (p + i) = g i) (q i : Nat) : runEnd g' (p + n) q (p + i) = p + runEnd g n q i := by
  unfold runEnd
  rw [← runF_shift g g' n p hg q n i]
  exact runF_fuel g' (p + n) q (p + n) n (p + i) (by omega) (by omega)
theorem scan_shift (g g' : Nat → Nat) (n p : Nat) (hg : ∀ i, g' (p + i) = g i) (q : Nat) (m : Bool) : ∀ d i, n ≤ i + d → scan g' (p + n) q m (p + i) = p + scan g n q m i
  | 0, i, h => by rw [scan_past g n q m i (by omega), scan_past g' (p + n) q m (p + i) (by omega)]
  | d + 1, i, h => by
    by_cases hi : i < n
    · have hi' : p + i < p + n := by omega
      have hgi := hg i
      by_cases hb : g i = 92
      · by_cases h34 : q = 34
        · rw [scan_esc2 g n q m i hi hb h34, scan_esc2 g' (p + n) q m (p + i) hi' (by rw [hgi]; exact hb) h34]
          exact scan_shift g g' n p hg q m d (i + 2) (by omega)
        · rw [scan_esc1 g n q m i hi hb h34, scan_esc1 g' (p + n) q m (p + i) hi' (by rw [hgi]; exact hb) h34]
          exact scan_shift g g' n p hg q m d (i + 1) (by omega)
      · by_cases hq : g i = q
        · cases m with
          | false => rw [scan_one g n q false i hi hb hq rfl, scan_one g' (p + n) q false (p + i) hi' (by rw [hgi]; exact hb) (by rw [hgi]; exact hq) rfl]; rfl
          | true =>
            have gt := runEnd_gt g n q i hi hq
            have e := runEnd_shift g g' n p hg q i
            by_cases h3 : i + 3 ≤ runEnd g n q i
            · rw [scan_run g n q true i hi hb hq rfl h3, scan_run g' (p + n) q true (p + i) hi' (by rw [hgi]; exact hb) (by rw [hgi]; exact hq) rfl (by omega), e]
            · rw [scan_few g n q true i hi hb hq rfl h3, scan_few g' (p + n) q true (p + i) hi' (by rw [hgi]; exact hb) (by rw [hgi]; exact hq) rfl (by omega), e]
              exact scan_shift g g' n p hg q true d (runEnd g n q i) (by omega)
        · rw [scan_on g n q m i hi hb hq, scan_on g' (p + n) q m (p + i) hi' (by rw [hgi]; exact hb) (by rw [hgi]; exact hq)]
          exact scan_shift g g' n p hg q m d (i + 1) (by omega)
    · rw [scan_past g n q m i hi, scan_past g' (p + n) q m (p + i) (by omega)]
theorem triple_shift (g g' : Nat → Nat) (n p : Nat) (hg : ∀ i, g' (p + i) = g i) (i : Nat) : triple g' (p + n) (p + i) = triple g n i := by
  unfold triple
  rw [Nat.add_assoc p i 1, Nat.add_assoc p i 2, hg, hg, hg]
  congr 1
  exact propext ⟨fun x => ⟨by omega, x.2⟩, fun x => ⟨by omega, x.2⟩⟩
/-- What is put ahead shifts the end. -/
theorem strEnd_shift (g g' : Nat → Nat) (n p : Nat) (hg : ∀ i, g' (p + i) = g i) (i : Nat) : strEnd g' (p + n) (p + i) = p + strEnd g n i := by
  unfold strEnd
  rw [triple_shift g g' n p hg i, hg i]
  cases triple g n i with
  | false => exact scan_shift g g' n p hg (g i) false n (i + 1) (by omega)
  | true => exact scan_shift g g' n p hg (g i) true n (i + 3) (by omega)

theorem runEnd_ext (g g' : Nat → Nat) (n n' : Nat) (hg : ∀ i, i < n → g' i = g i) (hn : n ≤ n') (q i : Nat) (h : runEnd g n q i < n) : runEnd g' n' q i = runEnd g n q i := by
  have hge := runEnd_ge g n q i
  have e : i + (runEnd g n q i - i) = runEnd g n q i := by omega
  rw [runEnd_eq g' n' q (runEnd g n q i - i) i (fun j a b => ⟨by omega, by rw [hg j (by omega)]; exact runEnd_mid g n q i j a (by omega)⟩) ?_]
  · exact e
  · rw [e, hg _ h]
    exact fun c => runEnd_end g n q i ⟨h, c.2⟩
theorem scan_ext (g g' : Nat → Nat) (n n' : Nat) (hg : ∀ i, i < n → g' i = g i) (hn : n ≤ n') (q : Nat) (m : Bool) : ∀ d i, n ≤ i + d → scan g n q m i < n → scan g' n' q m i = scan g n q m i
  | 0, i, h, hl => by
    rw [scan_past g n q m i (by omega)] at hl
    omega
  | d + 1, i, h, hl => by
    by_cases hi : i < n
    · have hi' : i < n' := by omega
      have hgi := hg i hi
      by_cases hb : g i = 92
      · by_cases h34 : q = 34
        · rw [scan_esc2 g n q m i hi hb h34] at hl ⊢
          rw [scan_esc2 g' n' q m i hi' (by rw [hgi]; exact hb) h34]
          exact scan_ext g g' n n' hg hn q m d (i + 2) (by omega) hl
        · rw [scan_esc1 g n q m i hi hb h34] at hl ⊢
          rw [scan_esc1 g' n' q m i hi' (by rw [hgi]; exact hb) h34]
          exact scan_ext g g' n n' hg hn q m d (i + 1) (by omega) hl
      · by_cases hq : g i = q
        · cases m with
          | false => rw [scan_one g n q false i hi hb hq rfl, scan_one g' n' q false i hi' (by rw [hgi]; exact hb) (by rw [hgi]; exact hq) rfl]
          | true =>
            have gt := runEnd_gt g n q i hi hq
            by_cases h3 : i + 3 ≤ runEnd g n q i
            · rw [scan_run g n q true i hi hb hq rfl h3] at hl ⊢
              have e := runEnd_ext g g' n n' hg hn q i hl
              rw [scan_run g' n' q true i hi' (by rw [hgi]; exact hb) (by rw [hgi]; exact hq) rfl (by omega), e]
            · rw [scan_few g n q true i hi hb hq rfl h3] at hl ⊢
              have hr : runEnd g n q i < n := by
                rcases Nat.lt_or_ge (runEnd g n q i) n with x | x
                · exact x
                · rw [scan_past g n q true _ (by omega)] at hl
                  omega
              have e := runEnd_ext g g' n n' hg hn q i hr
              rw [scan_few g' n' q true i hi' (by rw [hgi]; exact hb) (by rw [hgi]; exact hq) rfl (by omega), e]
              exact scan_ext g g' n n' hg hn q true d (runEnd g n q i) (by omega) hl
        · rw [scan_on g n q m i hi hb hq] at hl ⊢
          rw [scan_on g' n' q m i hi' (by rw [hgi]; exact hb) (by rw [hgi]; exact hq)]
          exact scan_ext g g' n n' hg hn q m d (i + 1) (by omega) hl
    · rw [scan_past g n q m i hi] at hl
      omega
theorem scan_late (g : Nat → Nat) (n : Nat) (q i : Nat) (h : n ≤ i + 1) : scan g n q false i = n := by
  by_cases hi : i < n
  · by_cases hb : g i = 92
    · by_cases h34 : q = 34
      · rw [scan_esc2 g n q false i hi hb h34, scan_past g n q false _ (by omega)]
      · rw [scan_esc1 g n q false i hi hb h34, scan_past g n q false _ (by omega)]
    · by_cases hq : g i = q
      · rw [scan_one g n q false i hi hb hq rfl]
        omega
      · rw [scan_on g n q false i hi hb hq, scan_past g n q false _ (by omega)]
  · exact scan_past g n q false i hi
/-- Where the string closes ahead of the text's end, what is put behind leaves the end where it was. -/
theorem strEnd_ext (g g' : Nat → Nat) (n n' : Nat) (hg : ∀ i, i < n → g' i = g i) (hn : n ≤ n') (i : Nat) (hi : i < n) (h : strEnd g n i < n) : strEnd g' n' i = strEnd g n i := by
  have ht : triple g' n' i = triple g n i := by
    by_cases h2 : i + 2 < n
    · unfold triple
      rw [hg i hi, hg (i + 1) (by omega), hg (i + 2) h2]
      congr 1
      exact propext ⟨fun x => ⟨h2, x.2⟩, fun x => ⟨by omega, x.2⟩⟩
    · exfalso
      have hf : triple g n i = false := by
        unfold triple
        exact decide_eq_false (fun c => h2 c.1)
      unfold strEnd at h
      rw [hf] at h
      have h' : scan g n (g i) false (i + 1) < n := h
      rw [scan_late g n (g i) (i + 1) (by omega)] at h'
      omega
  unfold strEnd at h ⊢
  rw [ht, hg i hi]
  exact scan_ext g g' n n' hg hn _ _ n _ (by omega) h
end Go.Proofs.Qxb6001362a.Pl
