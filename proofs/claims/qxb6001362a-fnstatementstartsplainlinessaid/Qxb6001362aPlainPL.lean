/-
  THE PLAIN LAW OF PLAIN LINES: where no line holds a quote or bracket ahead of its comment, every line starts a statement.
-/
import Derived.Test.Qxb6001362aPlainRT
import Derived.Test.Qxb6001362aPlainSt
namespace Go.Proofs.Qxb6001362a.Pl

/-- Does the byte open or close a string, an array, a table? -/
def special (c : Nat) : Prop := c = 34 ∨ c = 39 ∨ c = 91 ∨ c = 93 ∨ c = 123 ∨ c = 125

/-- zzPlainLine, from a place on ('inC': inside a comment). -/
def plainB : Bool → List UInt8 → Bool
  | _, [] => true
  | inC, c :: l => if c.toNat = 10 then false else if inC = true then plainB true l else if c.toNat = 35 then plainB true l else if c.toNat = 34 ∨ c.toNat = 39 ∨ c.toNat = 91 ∨ c.toNat = 93 ∨ c.toNat = 123 ∨ c.toNat = 125 then false else plainB false l

theorem plain_nl (inC : Bool) (c : UInt8) (l : List UInt8) (h : c.toNat = 10) : plainB inC (c :: l) = false := if_pos h
theorem plain_in (c : UInt8) (l : List UInt8) (h : ¬ c.toNat = 10) : plainB true (c :: l) = plainB true l := by
  show (if c.toNat = 10 then false else if true = true then plainB true l else _) = _
  rw [if_neg h, if_pos rfl]
theorem plain_cm (c : UInt8) (l : List UInt8) (h : c.toNat = 35) : plainB false (c :: l) = plainB true l := by
  show (if c.toNat = 10 then false else if false = true then plainB true l else if c.toNat = 35 then plainB true l else _) = _
  rw [if_neg (by omega), if_neg (by simp), if_pos h]
theorem plain_sp (c : UInt8) (l : List UInt8) (h : special c.toNat) : plainB false (c :: l) = false := by
  unfold special at h
  show (if c.toNat = 10 then false else if false = true then plainB true l else if c.toNat = 35 then plainB true l else if c.toNat = 34 ∨ c.toNat = 39 ∨ c.toNat = 91 ∨ c.toNat = 93 ∨ c.toNat = 123 ∨ c.toNat = 125 then false else plainB false l) = _
  rw [if_neg (by omega), if_neg (by simp), if_neg (by omega), if_pos h]
theorem plain_on (c : UInt8) (l : List UInt8) (h1 : ¬ c.toNat = 10) (h2 : ¬ c.toNat = 35) (h3 : ¬ special c.toNat) : plainB false (c :: l) = plainB false l := by
  unfold special at h3
  show (if c.toNat = 10 then false else if false = true then plainB true l else if c.toNat = 35 then plainB true l else if c.toNat = 34 ∨ c.toNat = 39 ∨ c.toNat = 91 ∨ c.toNat = 93 ∨ c.toNat = 123 ∨ c.toNat = 125 then false else plainB false l) = _
  rw [if_neg h1, if_neg (by simp), if_neg h2, if_neg h3]

theorem plain_true (l : List UInt8) (h : plainB true l = true) : ∀ j, j < l.length → ¬ btl l j = 10 := by
  induction l with
  | nil => intro j hj; simp at hj
  | cons c l ih =>
    by_cases hc : c.toNat = 10
    · rw [plain_nl true c l hc] at h
      cases h
    · rw [plain_in c l hc] at h
      intro j hj
      cases j with
      | zero => exact hc
      | succ j => exact ih h j (by simpa using hj)

/-- One plain line: its end starts a statement. -/
theorem st_plain : ∀ (l a b : List UInt8), plainB false l = true → st (btl (a ++ l ++ (10 :: b))) (a ++ l ++ (10 :: b)).length a.length 0 = (a.length + l.length + 1) :: st (btl (a ++ l ++ (10 :: b))) (a ++ l ++ (10 :: b)).length (a.length + l.length + 1) 0
  | [], a, b, _ => by
    have hb : btl (a ++ [] ++ (10 :: b)) a.length = 10 := by rw [List.append_nil, btl_at]; rfl
    exact st_line0 _ _ _ _ (by simp) hb rfl
  | c :: l, a, b, h => by
    have hlen : (a ++ (c :: l) ++ (10 :: b)).length = a.length + l.length + 1 + 1 + b.length := by simp only [List.length_append, List.length_cons]; omega
    have hc0 : btl (a ++ (c :: l) ++ (10 :: b)) a.length = c.toNat := by rw [List.append_assoc, btl_at]; rfl
    have hnl : btl (a ++ (c :: l) ++ (10 :: b)) (a.length + l.length + 1) = 10 := by
      rw [show a.length + l.length + 1 = (a ++ (c :: l)).length from by simp only [List.length_append, List.length_cons]; omega, btl_at]
      rfl
    by_cases h10 : c.toNat = 10
    · rw [plain_nl false c l h10] at h
      cases h
    · by_cases h35 : c.toNat = 35
      · rw [plain_cm c l h35] at h
        have hall := plain_true l h
        have hcm : cmt (btl (a ++ (c :: l) ++ (10 :: b))) (a ++ (c :: l) ++ (10 :: b)).length a.length = a.length + (l.length + 1) := by
          refine cmt_eq _ _ (l.length + 1) a.length (fun j h1 h2 => ⟨by omega, ?_⟩) (by rw [← Nat.add_assoc, hnl]; exact fun x => x.2 rfl)
          by_cases e : j = a.length
          · rw [e, hc0]; exact h10
          · have := hall (j - a.length - 1) (by omega)
            rw [show j = a.length + (j - a.length) from by omega, List.append_assoc, btl_right, show j - a.length = (j - a.length - 1) + 1 from by omega, List.cons_append, btl_cons_succ, btl_left _ _ _ (by omega)]
            exact this
        rw [st_cmt _ _ _ _ (by omega) (by rw [hc0]; exact h35), hcm, ← Nat.add_assoc, st_line0 _ _ _ _ (by omega) hnl rfl]
        rfl
      · by_cases hsp : special c.toNat
        · rw [plain_sp c l hsp] at h
          cases h
        · rw [plain_on c l h10 h35 hsp] at h
          have ih := st_plain l (a ++ [c]) b h
          have e : a ++ [c] ++ l ++ (10 :: b) = a ++ (c :: l) ++ (10 :: b) := by simp
          rw [e] at ih
          unfold special at hsp
          rw [st_on _ _ _ _ (by omega) (by rw [hc0]; exact h10) (by rw [hc0]; exact h35) (by rw [hc0]; omega) (by rw [hc0]; omega) (by rw [hc0]; omega)]
          rw [show a.length + 1 = (a ++ [c]).length from by simp, ih]
          rw [show (a ++ [c]).length + l.length + 1 = a.length + (c :: l).length + 1 from by simp only [List.length_append, List.length_cons, List.length_nil]; omega]

/-- The document: each line, ended by a line break. -/
def docL : List (List UInt8) → List UInt8
  | [] => []
  | l :: ls => l ++ (10 :: docL ls)

/-- The ends of the lines, from place p on. -/
def ends : Nat → List (List UInt8) → List Nat
  | _, [] => []
  | p, l :: ls => (p + l.length + 1) :: ends (p + l.length + 1) ls

theorem st_lines : ∀ (ls : List (List UInt8)) (a : List UInt8), (∀ l ∈ ls, plainB false l = true) → st (btl (a ++ docL ls)) (a ++ docL ls).length a.length 0 = ends a.length ls
  | [], a, _ => by
    rw [st_past _ _ _ _ (by simp [docL])]
    rfl
  | l :: ls, a, h => by
    have e1 : a ++ docL (l :: ls) = a ++ l ++ (10 :: docL ls) := by simp [docL]
    have e2 : a ++ l ++ (10 :: docL ls) = (a ++ l ++ [10]) ++ docL ls := by simp
    have hl : a.length + l.length + 1 = (a ++ l ++ [10]).length := by simp only [List.length_append, List.length_cons, List.length_nil]
    rw [e1, st_plain l a (docL ls) (h l (by simp)), e2, hl, st_lines ls (a ++ l ++ [10]) (fun x hx => h x (by simp [hx]))]
    show _ = (a.length + l.length + 1) :: ends (a.length + l.length + 1) ls
    rw [hl]

theorem plain_law (ls : List (List UInt8)) (h : ∀ l ∈ ls, plainB false l = true) : starts (btl (docL ls)) (docL ls).length = 0 :: ends 0 ls := by
  have := st_lines ls [] h
  unfold starts
  exact congrArg (0 :: ·) this

theorem docL_snoc (l : List UInt8) : ∀ ls, docL (ls ++ [l]) = docL ls ++ l ++ [10]
  | [] => by simp [docL]
  | x :: ls => by
    show x ++ (10 :: docL (ls ++ [l])) = _
    rw [docL_snoc l ls]
    simp [docL]

theorem ends_snoc (l : List UInt8) : ∀ ls p, ends p (ls ++ [l]) = ends p ls ++ [p + (docL (ls ++ [l])).length]
  | [], p => by
    simp [ends, docL]
    omega
  | x :: ls, p => by
    show (p + x.length + 1) :: ends (p + x.length + 1) (ls ++ [l]) = _
    rw [ends_snoc l ls (p + x.length + 1)]
    have : (docL (x :: ls ++ [l])).length = x.length + 1 + (docL (ls ++ [l])).length := by
      show (x ++ (10 :: docL (ls ++ [l]))).length = _
      simp only [List.length_append, List.length_cons]
      omega
    rw [this]
    simp only [ends, List.cons_append]
    congr 3
    omega

theorem ends_length : ∀ ls p, (ends p ls).length = ls.length
  | [], _ => rfl
  | x :: ls, p => by
    show (ends (p + x.length + 1) ls).length + 1 = ls.length + 1
    rw [ends_length ls]

/-- The lines' bytes, counted. -/
def sumL : List (List UInt8) → Nat
  | [] => 0
  | l :: ls => l.length + sumL ls

theorem sumL_snoc (l : List UInt8) : ∀ ls, sumL (ls ++ [l]) = sumL ls + l.length
  | [] => by simp [sumL]
  | x :: ls => by
    show x.length + sumL (ls ++ [l]) = x.length + sumL ls + l.length
    rw [sumL_snoc l ls]
    omega

theorem docL_length : ∀ ls, (docL ls).length = sumL ls + ls.length
  | [] => rfl
  | x :: ls => by
    show (x ++ (10 :: docL ls)).length = x.length + sumL ls + (ls.length + 1)
    simp only [List.length_append, List.length_cons, docL_length ls]
    omega

theorem sumL_take (ls : List (List UInt8)) : ∀ k, sumL (ls.take k) ≤ sumL ls := by
  intro k
  induction ls generalizing k with
  | nil => simp [sumL]
  | cons x ls ih =>
    cases k with
    | zero => exact Nat.zero_le _
    | succ k =>
      show x.length + sumL (ls.take k) ≤ x.length + sumL ls
      have := ih k
      omega

end Go.Proofs.Qxb6001362a.Pl
