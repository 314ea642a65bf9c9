/-
  THE PLAIN LAW OF THE ROUND TRIP: a body that is written out between quotes is scanned to the end of its closing quotes.
-/
import Derived.Test.Qxb6001362aPlainEnd
namespace Go.Proofs.Qxb6001362a.Pl

/-- The byte at place i of a list, as a number (0 past the end). -/
def btl (l : List UInt8) (i : Nat) : Nat := (l.getD i 0).toNat

theorem btl_right (a b : List UInt8) (i : Nat) : btl (a ++ b) (a.length + i) = btl b i := by
  unfold btl
  rw [List.getD_eq_getElem?_getD, List.getElem?_append_right (by omega), Nat.add_sub_cancel_left, List.getD_eq_getElem?_getD]

theorem btl_left (a b : List UInt8) (i : Nat) (h : i < a.length) : btl (a ++ b) i = btl a i := by
  unfold btl
  rw [List.getD_eq_getElem?_getD, List.getElem?_append_left h, List.getD_eq_getElem?_getD]

theorem btl_at (a b : List UInt8) : btl (a ++ b) a.length = btl b 0 := btl_right a b 0

theorem btl_cons_zero (c : UInt8) (l : List UInt8) : btl (c :: l) 0 = c.toNat := rfl
theorem btl_cons_succ (c : UInt8) (l : List UInt8) (i : Nat) : btl (c :: l) (i + 1) = btl l i := rfl

/-- One byte, written out. -/
def enc1 (lit : Bool) (c : UInt8) : List UInt8 := if lit = false ∧ (c.toNat = 34 ∨ c.toNat = 92) then [92, c] else [c]

/-- The body, written out. -/
def encL (lit : Bool) : List UInt8 → List UInt8
  | [] => []
  | c :: l => enc1 lit c ++ encL lit l

theorem encL_append (lit : Bool) : ∀ a b, encL lit (a ++ b) = encL lit a ++ encL lit b
  | [], b => rfl
  | c :: a, b => by
    show enc1 lit c ++ encL lit (a ++ b) = (enc1 lit c ++ encL lit a) ++ encL lit b
    rw [encL_append lit a b, List.append_assoc]

theorem enc1_len (lit : Bool) (c : UInt8) : 1 ≤ (enc1 lit c).length ∧ (enc1 lit c).length ≤ 2 := by
  unfold enc1
  split <;> simp

theorem encL_len (lit : Bool) : ∀ l, l.length ≤ (encL lit l).length ∧ (encL lit l).length ≤ 2 * l.length
  | [] => by simp [encL]
  | c :: l => by
    have h1 := enc1_len lit c
    have h2 := encL_len lit l
    simp only [encL, List.length_append, List.length_cons]
    omega

theorem encL_lit : ∀ l, encL true l = l
  | [] => rfl
  | c :: l => by
    show enc1 true c ++ encL true l = c :: l
    rw [encL_lit l]
    unfold enc1
    rw [if_neg (by simp)]
    rfl

/-- THE INSIDE, where no quote stands bare: basic (escaped), or literal without a quote: the scan comes to its end. -/
theorem scan_basic (m : Bool) : ∀ (body a b : List UInt8), scan (btl (a ++ encL false body ++ b)) (a ++ encL false body ++ b).length 34 m a.length = scan (btl (a ++ encL false body ++ b)) (a ++ encL false body ++ b).length 34 m (a ++ encL false body).length
  | [], a, b => by simp [encL]
  | c :: body, a, b => by
    have e : a ++ encL false (c :: body) = (a ++ enc1 false c) ++ encL false body := by
      show a ++ (enc1 false c ++ encL false body) = _
      rw [List.append_assoc]
    rw [e]
    rw [← scan_basic m body (a ++ enc1 false c) b]
    have hl : a.length < (a ++ enc1 false c ++ encL false body ++ b).length := by
      have := enc1_len false c
      simp only [List.length_append]
      omega
    have e2 : a ++ enc1 false c ++ encL false body ++ b = a ++ (enc1 false c ++ (encL false body ++ b)) := by simp only [List.append_assoc]
    have hb : btl (a ++ enc1 false c ++ encL false body ++ b) a.length = btl (enc1 false c ++ (encL false body ++ b)) 0 := by rw [e2, btl_at]
    by_cases hc : c.toNat = 34 ∨ c.toNat = 92
    · have e1 : enc1 false c = [92, c] := if_pos ⟨rfl, hc⟩
      have hx : (a ++ enc1 false c).length = a.length + 2 := by rw [List.length_append, e1]; rfl
      rw [scan_esc2 _ _ _ _ _ hl (by rw [hb, e1]; rfl) rfl, hx]
    · have e1 : enc1 false c = [c] := if_neg (fun x => hc x.2)
      have hv : btl (enc1 false c ++ (encL false body ++ b)) 0 = c.toNat := by rw [e1]; rfl
      have hx : (a ++ enc1 false c).length = a.length + 1 := by rw [List.length_append, e1]; rfl
      rw [scan_on _ _ _ _ _ hl (by rw [hb, hv]; omega) (by rw [hb, hv]; omega), hx]

theorem scan_literal (m : Bool) : ∀ (body a b : List UInt8), (∀ c ∈ body, ¬ c.toNat = 39) → scan (btl (a ++ body ++ b)) (a ++ body ++ b).length 39 m a.length = scan (btl (a ++ body ++ b)) (a ++ body ++ b).length 39 m (a ++ body).length
  | [], a, b, _ => by simp
  | c :: body, a, b, h => by
    have e : a ++ (c :: body) = (a ++ [c]) ++ body := by simp
    rw [e]
    rw [← scan_literal m body (a ++ [c]) b (fun x hx => h x (by simp [hx]))]
    have hl : a.length < (a ++ [c] ++ body ++ b).length := by
      simp only [List.length_append, List.length_cons]
      omega
    have e2 : a ++ [c] ++ body ++ b = a ++ (c :: (body ++ b)) := by simp
    have hb : btl (a ++ [c] ++ body ++ b) a.length = c.toNat := by rw [e2, btl_at]; rfl
    have hc := h c (by simp)
    by_cases h92 : c.toNat = 92
    · rw [scan_esc1 _ _ _ _ _ hl (by rw [hb, h92]) (by omega)]
      simp
    · rw [scan_on _ _ _ _ _ hl (by rw [hb]; exact h92) (by rw [hb]; exact hc)]
      simp

/-- THE INSIDE of a literal of several lines: no three quotes in a row; behind it three quotes and no fourth. -/
theorem scan_multi (a body b : List UInt8) (q : UInt8) (hq : q.toNat = 39) (h3 : ∀ k, k + 2 < body.length → ¬ (btl body k = 39 ∧ btl body (k + 1) = 39 ∧ btl body (k + 2) = 39)) (hb : b = [] ∨ ¬ btl b 0 = 39) :
    ∀ d k, body.length ≤ k + d → k ≤ body.length → scan (btl (a ++ body ++ ([q, q, q] ++ b))) (a ++ body ++ ([q, q, q] ++ b)).length 39 true (a.length + k) = a.length + body.length + 3 := by
  have hlen : (a ++ body ++ ([q, q, q] ++ b)).length = a.length + body.length + 3 + b.length := by simp only [List.length_append, List.length_cons, List.length_nil]; omega
  have hin : ∀ k, k < body.length → btl (a ++ body ++ ([q, q, q] ++ b)) (a.length + k) = btl body k := by
    intro k hk
    rw [List.append_assoc, btl_right, btl_left _ _ _ hk]
  have hcl : ∀ j, j < 3 → btl (a ++ body ++ ([q, q, q] ++ b)) (a.length + body.length + j) = 39 := by
    intro j hj
    rw [show a.length + body.length + j = (a ++ body).length + j from by simp, btl_right, btl_left _ _ _ (by simpa using hj)]
    match j, hj with
    | 0, _ => exact hq
    | 1, _ => exact hq
    | 2, _ => exact hq
  have hbe : ¬ (a.length + body.length + 3 < (a ++ body ++ ([q, q, q] ++ b)).length ∧ btl (a ++ body ++ ([q, q, q] ++ b)) (a.length + body.length + 3) = 39) := by
    rintro ⟨h1, h2⟩
    rw [show a.length + body.length + 3 = (a ++ body ++ [q, q, q]).length + 0 from by simp only [List.length_append, List.length_cons, List.length_nil], ← List.append_assoc, btl_right] at h2
    rcases hb with hb | hb
    · subst hb
      simp at h1
      omega
    · exact hb h2
  generalize btl (a ++ body ++ ([q, q, q] ++ b)) = g at hin hcl hbe ⊢
  generalize (a ++ body ++ ([q, q, q] ++ b)).length = n at hlen hbe ⊢
  -- a run that comes to the closing quotes ends behind them
  have hfin : ∀ k, k ≤ body.length → (∀ j, k ≤ j → j < body.length → btl body j = 39) → runEnd g n 39 (a.length + k) = a.length + body.length + 3 := by
    intro k hk hall
    have e : a.length + k + (body.length - k + 3) = a.length + body.length + 3 := by omega
    rw [runEnd_eq g n 39 (body.length - k + 3) (a.length + k) ?_ (by rw [e]; exact hbe), e]
    intro j h1 h2
    refine ⟨by omega, ?_⟩
    by_cases hj : j < a.length + body.length
    · have := hin (j - a.length) (by omega)
      rw [show a.length + (j - a.length) = j from by omega] at this
      rw [this]
      exact hall _ (by omega) (by omega)
    · have := hcl (j - (a.length + body.length)) (by omega)
      rw [show a.length + body.length + (j - (a.length + body.length)) = j from by omega] at this
      exact this
  intro d
  induction d with
  | zero =>
    intro k h1 h2
    have hk : k = body.length := by omega
    subst hk
    have h0 := hcl 0 (by omega)
    rw [scan_run g n 39 true _ (by omega) (by rw [Nat.add_zero] at h0; omega) (by simpa using h0) rfl (by rw [hfin _ (by omega) (fun j a b => by omega)]; omega), hfin _ (by omega) (fun j a b => by omega)]
  | succ d ih =>
    intro k h1 h2
    by_cases hk : k < body.length
    · have hg := hin k hk
      have hkn : a.length + k < n := by omega
      by_cases h92 : btl body k = 92
      · rw [scan_esc1 g n 39 true _ hkn (by rw [hg]; exact h92) (by omega), Nat.add_assoc]
        exact ih (k + 1) (by omega) (by omega)
      · by_cases h39 : btl body k = 39
        · -- a run opens at k
          have gt := runEnd_gt g n 39 (a.length + k) hkn (by rw [hg]; exact h39)
          by_cases hall : ∀ j, k ≤ j → j < body.length → btl body j = 39
          · have e := hfin k h2 hall
            rw [scan_run g n 39 true _ hkn (by rw [hg]; exact h92) (by rw [hg]; exact h39) rfl (by rw [e]; omega), e]
          · -- it closes inside the body
            have hlt : runEnd g n 39 (a.length + k) < a.length + body.length := by
              rcases Nat.lt_or_ge (runEnd g n 39 (a.length + k)) (a.length + body.length) with x | x
              · exact x
              · exfalso
                refine hall fun j j1 j2 => ?_
                have := runEnd_mid g n 39 (a.length + k) (a.length + j) (by omega) (by omega)
                rw [hin j j2] at this
                exact this
            have hfew : ¬ a.length + k + 3 ≤ runEnd g n 39 (a.length + k) := by
              intro x
              have m0 := runEnd_mid g n 39 (a.length + k) (a.length + k) (by omega) (by omega)
              have m1 := runEnd_mid g n 39 (a.length + k) (a.length + (k + 1)) (by omega) (by omega)
              have m2 := runEnd_mid g n 39 (a.length + k) (a.length + (k + 2)) (by omega) (by omega)
              rw [hin _ (by omega)] at m0 m1 m2
              exact h3 k (by omega) ⟨m0, m1, m2⟩
            rw [scan_few g n 39 true _ hkn (by rw [hg]; exact h92) (by rw [hg]; exact h39) rfl hfew]
            have := ih (runEnd g n 39 (a.length + k) - a.length) (by omega) (by omega)
            rw [show a.length + (runEnd g n 39 (a.length + k) - a.length) = runEnd g n 39 (a.length + k) from by omega] at this
            exact this
        · rw [scan_on g n 39 true _ hkn (by rw [hg]; exact h92) (by rw [hg]; exact h39), Nat.add_assoc]
          exact ih (k + 1) (by omega) (by omega)
    · exact ih k (by omega) h2

/-- Three quotes and no fourth close the string. -/
theorem scan_close (a b : List UInt8) (q : UInt8) (h92 : ¬ q.toNat = 92) (hb : b = [] ∨ ¬ btl b 0 = q.toNat) : scan (btl (a ++ ([q, q, q] ++ b))) (a ++ ([q, q, q] ++ b)).length q.toNat true a.length = a.length + 3 := by
  have hlen : (a ++ ([q, q, q] ++ b)).length = a.length + 3 + b.length := by simp only [List.length_append, List.length_cons, List.length_nil]; omega
  have hcl : ∀ j, j < 3 → btl (a ++ ([q, q, q] ++ b)) (a.length + j) = q.toNat := by
    intro j hj
    rw [btl_right, btl_left _ _ _ (by simpa using hj)]
    match j, hj with
    | 0, _ => rfl
    | 1, _ => rfl
    | 2, _ => rfl
  have hbe : ¬ (a.length + 3 < (a ++ ([q, q, q] ++ b)).length ∧ btl (a ++ ([q, q, q] ++ b)) (a.length + 3) = q.toNat) := by
    rintro ⟨h1, h2⟩
    rw [show a.length + 3 = (a ++ [q, q, q]).length + 0 from by simp, ← List.append_assoc, btl_right] at h2
    rcases hb with hb | hb
    · subst hb
      simp at h1
    · exact hb h2
  generalize btl (a ++ ([q, q, q] ++ b)) = g at hcl hbe ⊢
  generalize (a ++ ([q, q, q] ++ b)).length = n at hlen hbe ⊢
  have e : runEnd g n q.toNat a.length = a.length + 3 := by
    refine runEnd_eq g n q.toNat 3 a.length (fun j h1 h2 => ⟨by omega, ?_⟩) hbe
    have := hcl (j - a.length) (by omega)
    rw [show a.length + (j - a.length) = j from by omega] at this
    exact this
  have h0 := hcl 0 (by omega)
  rw [Nat.add_zero] at h0
  rw [scan_run g n q.toNat true a.length (by omega) (by rw [h0]; exact h92) h0 rfl (by rw [e]; omega), e]

/-- The quotes. -/
def quotes (multi : Bool) (q : UInt8) : List UInt8 := if multi = true then [q, q, q] else [q]

/-- The text behind what stands ahead. -/
def written (lit multi : Bool) (q : UInt8) (body suf : List UInt8) : List UInt8 := quotes multi q ++ encL lit body ++ (quotes multi q ++ suf)

theorem triple_three (q : UInt8) (l : List UInt8) : triple (btl ([q, q, q] ++ l)) ([q, q, q] ++ l).length 0 = true := by
  unfold triple
  refine decide_eq_true ⟨?_, rfl, rfl⟩
  simp

theorem law_multi_basic (q : UInt8) (hq : q.toNat = 34) (body suf : List UInt8) (hs : suf = [] ∨ ¬ btl suf 0 = q.toNat) :
    strEnd (btl (written false true q body suf)) (written false true q body suf).length 0 = 6 + (encL false body).length := by
  unfold written quotes strEnd
  rw [if_pos rfl, List.append_assoc, triple_three, if_pos rfl, ← List.append_assoc]
  have h0 : btl ([q, q, q] ++ encL false body ++ ([q, q, q] ++ suf)) 0 = q.toNat := by rw [List.append_assoc]; rfl
  have h1 := scan_basic true body [q, q, q] ([q, q, q] ++ suf)
  have h2 := scan_close ([q, q, q] ++ encL false body) suf q (by omega) hs
  rw [h0]
  rw [hq] at h2 ⊢
  show scan _ _ 34 true ([q, q, q] : List UInt8).length = _
  rw [h1, h2]
  simp only [List.length_append, List.length_cons, List.length_nil]
  omega

theorem law_multi_literal (q : UInt8) (hq : q.toNat = 39) (body suf : List UInt8) (hs : suf = [] ∨ ¬ btl suf 0 = q.toNat)
    (h3 : ∀ k, k + 2 < body.length → ¬ (btl body k = 39 ∧ btl body (k + 1) = 39 ∧ btl body (k + 2) = 39)) :
    strEnd (btl (written true true q body suf)) (written true true q body suf).length 0 = 6 + (encL true body).length := by
  unfold written quotes strEnd
  rw [if_pos rfl, List.append_assoc, triple_three, if_pos rfl, ← List.append_assoc, encL_lit]
  have h0 : btl ([q, q, q] ++ body ++ ([q, q, q] ++ suf)) 0 = q.toNat := by rw [List.append_assoc]; rfl
  rw [hq] at hs
  have h1 := scan_multi [q, q, q] body suf q hq h3 hs body.length 0 (by omega) (by omega)
  rw [h0, hq]
  show scan _ _ 39 true (([q, q, q] : List UInt8).length + 0) = _
  rw [h1]
  simp only [List.length_cons, List.length_nil]
  omega

theorem single_false (q : UInt8) (E suf : List UInt8) (hE : ¬ E = [] → ¬ btl E 0 = q.toNat) (hs : suf = [] ∨ ¬ btl suf 0 = q.toNat ∨ ¬ E = []) :
    triple (btl ([q] ++ E ++ ([q] ++ suf))) ([q] ++ E ++ ([q] ++ suf)).length 0 = false := by
  unfold triple
  refine decide_eq_false ?_
  rintro ⟨h1, h2, h3⟩
  match E, hE, hs, h1, h2, h3 with
  | [], _, hs, h1, h2, h3 =>
    rcases hs with hs | hs | hs
    · subst hs
      simp at h1
    · exact hs h3
    · exact hs rfl
  | c :: E', hE, _, _, h2, _ => exact hE (by simp) h2

theorem scan_single (a b : List UInt8) (q : UInt8) (h92 : ¬ q.toNat = 92) : scan (btl (a ++ ([q] ++ b))) (a ++ ([q] ++ b)).length q.toNat false a.length = a.length + 1 := by
  have h0 : btl (a ++ ([q] ++ b)) a.length = q.toNat := btl_at a ([q] ++ b)
  exact scan_one _ _ _ _ _ (by simp) (by rw [h0]; exact h92) h0 rfl

theorem encL_head (body : List UInt8) (h : ¬ encL false body = []) : ¬ btl (encL false body) 0 = 34 := by
  match body, h with
  | [], h => exact absurd rfl h
  | c :: body, _ =>
    show ¬ btl (enc1 false c ++ encL false body) 0 = 34
    by_cases hc : c.toNat = 34 ∨ c.toNat = 92
    · have e1 : enc1 false c = [92, c] := if_pos ⟨rfl, hc⟩
      rw [e1]
      show ¬ (92 : UInt8).toNat = 34
      decide
    · have e1 : enc1 false c = [c] := if_neg (fun x => hc x.2)
      rw [e1]
      show ¬ c.toNat = 34
      omega

theorem law_single_basic (q : UInt8) (hq : q.toNat = 34) (body suf : List UInt8) (hs : suf = [] ∨ ¬ btl suf 0 = q.toNat ∨ ¬ body = []) :
    strEnd (btl (written false false q body suf)) (written false false q body suf).length 0 = 2 + (encL false body).length := by
  unfold written quotes strEnd
  rw [if_neg (by simp)]
  have hb : ¬ body = [] → ¬ encL false body = [] := fun h e => by
    have := (encL_len false body).1
    rw [e] at this
    cases body with
    | nil => exact h rfl
    | cons c l => simp at this
  have ht := single_false q (encL false body) suf (fun h => by rw [hq]; exact encL_head body h) (by
    rcases hs with h | h | h
    · exact .inl h
    · exact .inr (.inl h)
    · exact .inr (.inr (hb h)))
  rw [ht, if_neg (by simp)]
  have h0 : btl ([q] ++ encL false body ++ ([q] ++ suf)) 0 = q.toNat := by rw [List.append_assoc]; rfl
  have h1 := scan_basic false body [q] ([q] ++ suf)
  have h2 := scan_single ([q] ++ encL false body) suf q (by omega)
  rw [h0]
  rw [hq] at h2 ⊢
  show scan _ _ 34 false ([q] : List UInt8).length = _
  rw [h1, h2]
  simp only [List.length_append, List.length_cons, List.length_nil]
  omega

theorem law_single_literal (q : UInt8) (hq : q.toNat = 39) (body suf : List UInt8) (hs : suf = [] ∨ ¬ btl suf 0 = q.toNat ∨ ¬ body = []) (h1b : ∀ c ∈ body, ¬ c.toNat = 39) :
    strEnd (btl (written true false q body suf)) (written true false q body suf).length 0 = 2 + (encL true body).length := by
  unfold written quotes strEnd
  rw [if_neg (by simp), encL_lit]
  have ht := single_false q body suf (fun h => by
    rw [hq]
    match body, h, h1b with
    | [], h, _ => exact absurd rfl h
    | c :: l, _, h1b => exact h1b c (by simp)) hs
  rw [ht, if_neg (by simp)]
  have h0 : btl ([q] ++ body ++ ([q] ++ suf)) 0 = q.toNat := by rw [List.append_assoc]; rfl
  have h1 := scan_literal false body [q] ([q] ++ suf) h1b
  have h2 := scan_single ([q] ++ body) suf q (by omega)
  rw [h0]
  rw [hq] at h2 ⊢
  show scan _ _ 39 false ([q] : List UInt8).length = _
  rw [h1, h2]
  simp only [List.length_append, List.length_cons, List.length_nil]
  omega

/-- With bytes ahead. -/
theorem law_prefix (pre D : List UInt8) : strEnd (btl (pre ++ D)) (pre ++ D).length pre.length = pre.length + strEnd (btl D) D.length 0 := by
  have := strEnd_shift (btl D) (btl (pre ++ D)) D.length pre.length (btl_right pre D) 0
  rw [← List.length_append, Nat.add_zero] at this
  exact this

/-! ### The longest run -/
/-- The longest run of q so far, and the run that is open. -/
def lr (q : Nat) : List UInt8 → Nat × Nat
  | l => l.foldl (fun p c => if c.toNat = q then (if p.1 < p.2 + 1 then p.2 + 1 else p.1, p.2 + 1) else (p.1, 0)) (0, 0)

theorem lr_snoc (q : Nat) (l : List UInt8) (c : UInt8) : lr q (l ++ [c]) = if c.toNat = q then (if (lr q l).1 < (lr q l).2 + 1 then (lr q l).2 + 1 else (lr q l).1, (lr q l).2 + 1) else ((lr q l).1, 0) := by
  unfold lr
  rw [List.foldl_append]
  rfl

theorem lr_mono (q : Nat) (l : List UInt8) (c : UInt8) : (lr q l).1 ≤ (lr q (l ++ [c])).1 := by
  rw [lr_snoc]
  by_cases h : c.toNat = q
  · rw [if_pos h]
    show _ ≤ (if (lr q l).1 < (lr q l).2 + 1 then (lr q l).2 + 1 else (lr q l).1)
    split <;> omega
  · rw [if_neg h]
    exact Nat.le_refl _

theorem lr_mono' (q : Nat) (l : List UInt8) : ∀ (m : List UInt8), (lr q l).1 ≤ (lr q (l ++ m)).1 := by
  intro m
  induction m generalizing l with
  | nil => simp
  | cons c m ih =>
    have e : l ++ c :: m = (l ++ [c]) ++ m := by simp
    rw [e]
    exact Nat.le_trans (lr_mono q l c) (ih (l ++ [c]))

theorem lr_hit (q : Nat) (l : List UInt8) (c : UInt8) (h : c.toNat = q) : (lr q (l ++ [c])).2 = (lr q l).2 + 1 ∧ (lr q l).2 + 1 ≤ (lr q (l ++ [c])).1 := by
  rw [lr_snoc, if_pos h]
  refine ⟨rfl, ?_⟩
  show _ ≤ (if (lr q l).1 < (lr q l).2 + 1 then (lr q l).2 + 1 else (lr q l).1)
  split <;> omega

theorem lr_no1 (q : Nat) (l : List UInt8) (h : (lr q l).1 = 0) : ∀ c ∈ l, ¬ c.toNat = q := by
  intro c hc hq
  obtain ⟨a, b, rfl⟩ := List.append_of_mem hc
  have h1 := (lr_hit q a c hq).2
  have h2 := lr_mono' q (a ++ [c]) b
  have e : a ++ c :: b = (a ++ [c]) ++ b := by simp
  rw [e] at h
  omega

theorem lr_no3 (q : Nat) (l : List UInt8) (h : (lr q l).1 ≤ 2) : ∀ k, k + 2 < l.length → ¬ (btl l k = q ∧ btl l (k + 1) = q ∧ btl l (k + 2) = q) := by
  rintro k hk ⟨h0, h1, h2⟩
  have t : ∀ j, j < l.length → l.take (j + 1) = l.take j ++ [l.getD j 0] := fun j hj => by
    rw [List.take_succ_eq_append_getElem hj, List.getD_eq_getElem?_getD, List.getElem?_eq_getElem hj]
    rfl
  have a1 := lr_hit q (l.take k) (l.getD k 0) h0
  rw [← t k (by omega)] at a1
  have a2 := lr_hit q (l.take (k + 1)) (l.getD (k + 1) 0) h1
  rw [← t (k + 1) (by omega)] at a2
  have a3 := lr_hit q (l.take (k + 1 + 1)) (l.getD (k + 1 + 1) 0) h2
  rw [← t (k + 1 + 1) (by omega)] at a3
  have m := lr_mono' q (l.take (k + 1 + 1 + 1)) (l.drop (k + 1 + 1 + 1))
  rw [List.take_append_drop] at m
  omega

theorem lr_le (q : Nat) (l : List UInt8) : ∀ k, (lr q (l.take k)).1 ≤ k ∧ (lr q (l.take k)).2 ≤ k
  | 0 => by simp [lr]
  | k + 1 => by
    have ih := lr_le q l k
    by_cases hk : k < l.length
    · rw [List.take_succ_eq_append_getElem hk, lr_snoc]
      by_cases h : l[k].toNat = q
      · rw [if_pos h]
        show (if (lr q (l.take k)).1 < (lr q (l.take k)).2 + 1 then (lr q (l.take k)).2 + 1 else (lr q (l.take k)).1) ≤ k + 1 ∧ (lr q (l.take k)).2 + 1 ≤ k + 1
        exact ⟨by split <;> omega, by omega⟩
      · rw [if_neg h]
        exact ⟨by omega, Nat.zero_le _⟩
    · rw [List.take_of_length_le (by omega)]
      rw [List.take_of_length_le (by omega)] at ih
      omega

end Go.Proofs.Qxb6001362a.Pl
