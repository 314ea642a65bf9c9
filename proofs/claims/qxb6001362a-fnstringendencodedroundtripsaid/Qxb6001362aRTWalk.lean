/-
  THE WALK of FnStringEndEncodedRoundTrip (function 5), whole.
-/
import Derived.Test.Qxb6001362aRTLS
import Derived.Test.Qxb6001362aRTLM
import Derived.Test.Qxb6001362aRTBS
import Derived.Test.Qxb6001362aRTBM
namespace Go.Proofs.Qxb6001362a
open Go.RowKit

theorem flip {P : Program} {f : FuncId} {args : Array Value} {w : World} {v : Value} (h : Calls P f args w fun e w' => e = .returned v ∧ w' = w) : Calls P f args w fun e w' => e = .returned v ∧ w = w' :=
  h.mono fun _ _ h => ⟨h.1, h.2.symm⟩

/-- stringEnd at the text that was built: out of the plain law. -/
theorem at_built (pre : ByteArray) (D R : List UInt8) (W n : Nat) (hD : pre.data.toList ++ R = D) (hl : D.length ≤ 2097152) (h0 : 0 < R.length) (law : Pl.strEnd (Pl.btl R) R.length 0 = W + n) (w : World) :
    Calls Try.prog 10 #[.string ⟨D.toArray⟩, .int .i64 pre.size] w fun e w' => e = .returned (.int .i64 ((pre.size : Int) + W + n)) ∧ Below w.heap.size w w' := by
  subst hD
  have e : pre.data.toList.length = pre.size := by simp
  have hs : (⟨(pre.data.toList ++ R).toArray⟩ : ByteArray).size = (pre.data.toList ++ R).length := List.size_toArray
  have hb : bt ⟨(pre.data.toList ++ R).toArray⟩ = Pl.btl (pre.data.toList ++ R) := rfl
  have h := ZZStringEnd_wide ⟨(pre.data.toList ++ R).toArray⟩ pre.size w (by rw [hs]; exact hl) (by rw [hs, List.length_append]; omega)
  rw [hs, hb] at h
  have p := Pl.law_prefix pre.data.toList R
  rw [law, e] at p
  rw [p, Int.natCast_add, Int.natCast_add, ← Int.add_assoc] at h
  exact h

/-- The suffix's test, as the walks want it. -/
theorem suf_bt (a2 : ByteArray) : Pl.btl a2.data.toList 0 = bt a2 0 := rfl

theorem suf_nil {a2 : ByteArray} (h : a2.size = 0) : a2.data.toList = [] := List.eq_nil_of_length_eq_zero (by have e : a2.data.toList.length = a2.size := by simp
                                                                                                              omega)
theorem body_ne {a1 : ByteArray} (h : 0 < a1.size) : ¬ a1.data.toList = [] := fun x => by
  have e : a1.data.toList.length = a1.size := by simp
  rw [x] at e
  simp at e
  omega

theorem enc_len (lit : Bool) (a1 : ByteArray) : (Pl.encL lit a1.data.toList).length ≤ 2 * a1.size := by
  have := (Pl.encL_len lit a1.data.toList).2
  have e : a1.data.toList.length = a1.size := by simp
  omega

section early
variable (a0 a1 a2 : ByteArray) (w : World)

set_option maxRecDepth 100000 in
set_option maxHeartbeats 1000000 in
theorem early_LS (r : Nat) (h13 : Calls Try.prog 13 #[.string a0, .string a1, .string a2, .bool true, .bool false] w fun e w' => e = .returned (.bool true) ∧ w = w') (c14 : ∀ w, Calls Try.prog 14 #[.string a1, .int .u8 39] w fun e w' => e = .returned (.int .i64 r) ∧ w = w')
    (s0 : a0.size ≤ 262144) (s1 : a1.size ≤ 262144) (s2 : a2.size ≤ 262144) (h : (0 : Int) < (r : Int)) :
    Calls Try.prog 5 #[.string a0, .string a1, .string a2, .bool true, .bool false] w fun e w' => e = .returned (.bool true) ∧ Below w.heap.size w w' := by
  go_enter Try.func5, Try.ntmps5
  go_wp2_with (first | (go_at_call 13; refine h13.mono ?_; rintro e w' ⟨rfl, rfl⟩) | (go_at_call 14; refine (c14 _).mono ?_; rintro e w' ⟨rfl, rfl⟩))
  go_ret
  exact ⟨rfl, Below.refl _ _⟩

set_option maxRecDepth 100000 in
set_option maxHeartbeats 1000000 in
theorem early_LM (r : Nat) (h13 : Calls Try.prog 13 #[.string a0, .string a1, .string a2, .bool true, .bool true] w fun e w' => e = .returned (.bool true) ∧ w = w') (c14 : ∀ w, Calls Try.prog 14 #[.string a1, .int .u8 39] w fun e w' => e = .returned (.int .i64 r) ∧ w = w')
    (s0 : a0.size ≤ 262144) (s1 : a1.size ≤ 262144) (s2 : a2.size ≤ 262144) (h : (2 : Int) < (r : Int)) :
    Calls Try.prog 5 #[.string a0, .string a1, .string a2, .bool true, .bool true] w fun e w' => e = .returned (.bool true) ∧ Below w.heap.size w w' := by
  go_enter Try.func5, Try.ntmps5
  go_wp2_with (first | (go_at_call 13; refine h13.mono ?_; rintro e w' ⟨rfl, rfl⟩) | (go_at_call 14; refine (c14 _).mono ?_; rintro e w' ⟨rfl, rfl⟩))
  go_ret
  exact ⟨rfl, Below.refl _ _⟩

set_option maxRecDepth 100000 in
set_option maxHeartbeats 1000000 in
theorem suf_LS (r : Nat) (h13 : Calls Try.prog 13 #[.string a0, .string a1, .string a2, .bool true, .bool false] w fun e w' => e = .returned (.bool true) ∧ w = w') (c14 : ∀ w, Calls Try.prog 14 #[.string a1, .int .u8 39] w fun e w' => e = .returned (.int .i64 r) ∧ w = w')
    (s0 : a0.size ≤ 262144) (s1 : a1.size ≤ 262144) (s2 : a2.size ≤ 262144) (hr : ¬ (0 : Int) < (r : Int)) (h0 : (0 : Int) < (a2.size : Int)) (x0 : ∀ wx, (Instr.index 9 (.string a2) (.int .i64 0)).run Try.prog wx = .ok (.int .u8 (bt a2 0)) wx) (h1 : (((bt a2 0 : Nat) : Int) == 39) = true) (h2 : ((a1.size : Int) == 0) = true) :
    Calls Try.prog 5 #[.string a0, .string a1, .string a2, .bool true, .bool false] w fun e w' => e = .returned (.bool true) ∧ Below w.heap.size w w' := by
  go_enter Try.func5, Try.ntmps5
  go_wp2_with (first | (go_at_call 13; refine h13.mono ?_; rintro e w' ⟨rfl, rfl⟩) | (go_at_call 14; refine (c14 _).mono ?_; rintro e w' ⟨rfl, rfl⟩))
  go_ret
  exact ⟨rfl, Below.refl _ _⟩

set_option maxRecDepth 100000 in
set_option maxHeartbeats 1000000 in
theorem suf_BS (r : Nat) (h13 : Calls Try.prog 13 #[.string a0, .string a1, .string a2, .bool false, .bool false] w fun e w' => e = .returned (.bool true) ∧ w = w') (c14 : ∀ w, Calls Try.prog 14 #[.string a1, .int .u8 34] w fun e w' => e = .returned (.int .i64 r) ∧ w = w')
    (s0 : a0.size ≤ 262144) (s1 : a1.size ≤ 262144) (s2 : a2.size ≤ 262144) (h0 : (0 : Int) < (a2.size : Int)) (x0 : ∀ wx, (Instr.index 9 (.string a2) (.int .i64 0)).run Try.prog wx = .ok (.int .u8 (bt a2 0)) wx) (h1 : (((bt a2 0 : Nat) : Int) == 34) = true) (h2 : ((a1.size : Int) == 0) = true) :
    Calls Try.prog 5 #[.string a0, .string a1, .string a2, .bool false, .bool false] w fun e w' => e = .returned (.bool true) ∧ Below w.heap.size w w' := by
  go_enter Try.func5, Try.ntmps5
  go_wp2_with (first | (go_at_call 13; refine h13.mono ?_; rintro e w' ⟨rfl, rfl⟩) | (go_at_call 14; refine (c14 _).mono ?_; rintro e w' ⟨rfl, rfl⟩))
  go_ret
  exact ⟨rfl, Below.refl _ _⟩

set_option maxRecDepth 100000 in
set_option maxHeartbeats 1000000 in
theorem suf_LM (r : Nat) (h13 : Calls Try.prog 13 #[.string a0, .string a1, .string a2, .bool true, .bool true] w fun e w' => e = .returned (.bool true) ∧ w = w') (c14 : ∀ w, Calls Try.prog 14 #[.string a1, .int .u8 39] w fun e w' => e = .returned (.int .i64 r) ∧ w = w')
    (s0 : a0.size ≤ 262144) (s1 : a1.size ≤ 262144) (s2 : a2.size ≤ 262144) (hr : ¬ (2 : Int) < (r : Int)) (h0 : (0 : Int) < (a2.size : Int)) (x0 : ∀ wx, (Instr.index 9 (.string a2) (.int .i64 0)).run Try.prog wx = .ok (.int .u8 (bt a2 0)) wx) (h1 : (((bt a2 0 : Nat) : Int) == 39) = true) :
    Calls Try.prog 5 #[.string a0, .string a1, .string a2, .bool true, .bool true] w fun e w' => e = .returned (.bool true) ∧ Below w.heap.size w w' := by
  go_enter Try.func5, Try.ntmps5
  go_wp2_with (first | (go_at_call 13; refine h13.mono ?_; rintro e w' ⟨rfl, rfl⟩) | (go_at_call 14; refine (c14 _).mono ?_; rintro e w' ⟨rfl, rfl⟩))
  go_ret
  exact ⟨rfl, Below.refl _ _⟩

set_option maxRecDepth 100000 in
set_option maxHeartbeats 1000000 in
theorem suf_BM (r : Nat) (h13 : Calls Try.prog 13 #[.string a0, .string a1, .string a2, .bool false, .bool true] w fun e w' => e = .returned (.bool true) ∧ w = w') (c14 : ∀ w, Calls Try.prog 14 #[.string a1, .int .u8 34] w fun e w' => e = .returned (.int .i64 r) ∧ w = w')
    (s0 : a0.size ≤ 262144) (s1 : a1.size ≤ 262144) (s2 : a2.size ≤ 262144) (h0 : (0 : Int) < (a2.size : Int)) (x0 : ∀ wx, (Instr.index 9 (.string a2) (.int .i64 0)).run Try.prog wx = .ok (.int .u8 (bt a2 0)) wx) (h1 : (((bt a2 0 : Nat) : Int) == 34) = true) :
    Calls Try.prog 5 #[.string a0, .string a1, .string a2, .bool false, .bool true] w fun e w' => e = .returned (.bool true) ∧ Below w.heap.size w w' := by
  go_enter Try.func5, Try.ntmps5
  go_wp2_with (first | (go_at_call 13; refine h13.mono ?_; rintro e w' ⟨rfl, rfl⟩) | (go_at_call 14; refine (c14 _).mono ?_; rintro e w' ⟨rfl, rfl⟩))
  go_ret
  exact ⟨rfl, Below.refl _ _⟩

set_option maxRecDepth 100000 in
set_option maxHeartbeats 1000000 in
theorem rt_no (a3 a4 : Bool) (h13 : Calls Try.prog 13 #[.string a0, .string a1, .string a2, .bool a3, .bool a4] w fun e w' => e = .returned (.bool false) ∧ w = w') :
    Calls Try.prog 5 #[.string a0, .string a1, .string a2, .bool a3, .bool a4] w fun e w' => e = .returned (.bool true) ∧ Below w.heap.size w w' := by
  go_enter Try.func5, Try.ntmps5
  go_wp2_with (go_at_call 13; refine h13.mono ?_; rintro e w' ⟨rfl, rfl⟩)
  go_ret
  exact ⟨rfl, Below.refl _ _⟩

set_option maxRecDepth 100000 in
set_option maxHeartbeats 1000000 in
theorem rt_big (a3 a4 : Bool) (h13 : Calls Try.prog 13 #[.string a0, .string a1, .string a2, .bool a3, .bool a4] w fun e w' => e = .returned (.bool true) ∧ w = w') (hS : ¬ (a0.size ≤ 262144 ∧ a1.size ≤ 262144 ∧ a2.size ≤ 262144)) :
    Calls Try.prog 5 #[.string a0, .string a1, .string a2, .bool a3, .bool a4] w fun e w' => e = .returned (.bool true) ∧ Below w.heap.size w w' := by
  by_cases h0 : a0.size ≤ 262144
  · by_cases h1 : a1.size ≤ 262144
    · have h2 : ¬ a2.size ≤ 262144 := fun h => hS ⟨h0, h1, h⟩
      clear hS
      go_enter Try.func5, Try.ntmps5
      go_wp2_with (go_at_call 13; refine h13.mono ?_; rintro e w' ⟨rfl, rfl⟩)
      go_ret
      exact ⟨rfl, Below.refl _ _⟩
    · clear hS
      go_enter Try.func5, Try.ntmps5
      go_wp2_with (go_at_call 13; refine h13.mono ?_; rintro e w' ⟨rfl, rfl⟩)
      go_ret
      exact ⟨rfl, Below.refl _ _⟩
  · clear hS
    go_enter Try.func5, Try.ntmps5
    go_wp2_with (go_at_call 13; refine h13.mono ?_; rintro e w' ⟨rfl, rfl⟩)
    go_ret
    exact ⟨rfl, Below.refl _ _⟩
end early

theorem built_len (a0 a2 : ByteArray) (Q E : List UInt8) : (a0.data.toList ++ Q ++ E ++ Q ++ a2.data.toList).length = a0.size + 2 * Q.length + E.length + a2.size := by
  have e0 : a0.data.toList.length = a0.size := by simp
  have e2 : a2.data.toList.length = a2.size := by simp
  simp only [List.length_append, e0, e2]
  omega

theorem built_eq (a b Q E : List UInt8) : a ++ (Q ++ E ++ (Q ++ b)) = a ++ Q ++ E ++ Q ++ b := by simp only [List.append_assoc]

theorem rt_walk (a0 a1 a2 : ByteArray) (a3 a4 : Bool) (w0 : a0.size ≤ maxLen) (w1 : a1.size ≤ maxLen) (w2 : a2.size ≤ maxLen) (w : World) :
    Calls Try.prog 5 #[.string a0, .string a1, .string a2, .bool a3, .bool a4] w fun e w' => e = .returned (.bool true) ∧ Below w.heap.size w w' := by
  by_cases hT : a0.size + a1.size + a2.size ≤ 1048576
  · have h13 := flip (bytes13_yes a0 a1 a2 a3 a4 w hT)
    by_cases hS : a0.size ≤ 262144 ∧ a1.size ≤ 262144 ∧ a2.size ≤ 262144
    · obtain ⟨s0, s1, s2⟩ := hS
      have c39 := fun w => flip (longestRun39 a1 w (by omega))
      have c34 := fun w => flip (longestRun34 a1 w (by omega))
      cases a3 with
      | true =>
        have hel := enc_len true a1
        cases a4 with
        | true =>
          by_cases hr : (2 : Int) < (((Pl.lr 39 a1.data.toList).1 : Nat) : Int)
          · exact early_LM a0 a1 a2 w _ h13 c39 s0 s1 s2 hr
          · by_cases hb : 0 < a2.size ∧ bt a2 0 = 39
            · exact suf_LM a0 a1 a2 w _ h13 c39 s0 s1 s2 hr (by omega) (run_bt0 a2 hb.1) (by rw [hb.2]; rfl)
            · have law := Pl.law_multi_literal 39 rfl a1.data.toList a2.data.toList (by
                by_cases hz : 0 < a2.size
                · exact .inr (fun x => hb ⟨hz, x⟩)
                · exact .inl (suf_nil (by omega))) (Pl.lr_no3 39 _ (by omega))
              refine rt_lm a0 a1 a2 w hT s0 s1 s2 h13 _ hr c39 ?_ _ rfl hel _ rfl ?_
              · by_cases hz : 0 < a2.size
                · exact .inr ⟨hz, beq_eq_false_iff_ne.mpr (by have : ¬ bt a2 0 = 39 := fun x => hb ⟨hz, x⟩; omega)⟩
                · exact .inl (by omega)
              · exact at_built a0 _ _ 6 _ (built_eq _ _ _ _) (by rw [built_len, List.length_replicate]; omega) (by simp) law
        | false =>
          by_cases hr : (0 : Int) < (((Pl.lr 39 a1.data.toList).1 : Nat) : Int)
          · exact early_LS a0 a1 a2 w _ h13 c39 s0 s1 s2 hr
          · by_cases hb : 0 < a2.size ∧ bt a2 0 = 39 ∧ a1.size = 0
            · exact suf_LS a0 a1 a2 w _ h13 c39 s0 s1 s2 hr (by omega) (run_bt0 a2 hb.1) (by rw [hb.2.1]; rfl) (by rw [hb.2.2]; rfl)
            · have law := Pl.law_single_literal 39 rfl a1.data.toList a2.data.toList (by
                by_cases hz : 0 < a2.size
                · by_cases hq : bt a2 0 = 39
                  · exact .inr (.inr (body_ne (by have : ¬ a1.size = 0 := fun x => hb ⟨hz, hq, x⟩; omega)))
                  · exact .inr (.inl hq)
                · exact .inl (suf_nil (by omega))) (Pl.lr_no1 39 _ (by omega))
              refine rt_ls a0 a1 a2 w hT s0 s1 s2 h13 _ hr c39 ?_ _ rfl hel _ rfl ?_
              · by_cases hz : 0 < a2.size
                · by_cases hq : bt a2 0 = 39
                  · exact .inr (.inr ⟨hz, by rw [hq]; rfl, by have : ¬ a1.size = 0 := fun x => hb ⟨hz, hq, x⟩; omega⟩)
                  · exact .inr (.inl ⟨hz, beq_eq_false_iff_ne.mpr (by omega)⟩)
                · exact .inl (by omega)
              · exact at_built a0 _ _ 2 _ (built_eq _ _ _ _) (by rw [built_len, List.length_replicate]; omega) (by simp) law
      | false =>
        have hel := enc_len false a1
        cases a4 with
        | true =>
          by_cases hb : 0 < a2.size ∧ bt a2 0 = 34
          · exact suf_BM a0 a1 a2 w _ h13 c34 s0 s1 s2 (by omega) (run_bt0 a2 hb.1) (by rw [hb.2]; rfl)
          · have law := Pl.law_multi_basic 34 rfl a1.data.toList a2.data.toList (by
              by_cases hz : 0 < a2.size
              · exact .inr (fun x => hb ⟨hz, x⟩)
              · exact .inl (suf_nil (by omega)))
            refine rt_bm a0 a1 a2 w hT s0 s1 s2 h13 _ c34 ?_ _ rfl hel _ rfl ?_
            · by_cases hz : 0 < a2.size
              · exact .inr ⟨hz, beq_eq_false_iff_ne.mpr (by have : ¬ bt a2 0 = 34 := fun x => hb ⟨hz, x⟩; omega)⟩
              · exact .inl (by omega)
            · exact at_built a0 _ _ 6 _ (built_eq _ _ _ _) (by rw [built_len, List.length_replicate]; omega) (by simp) law
        | false =>
          by_cases hb : 0 < a2.size ∧ bt a2 0 = 34 ∧ a1.size = 0
          · exact suf_BS a0 a1 a2 w _ h13 c34 s0 s1 s2 (by omega) (run_bt0 a2 hb.1) (by rw [hb.2.1]; rfl) (by rw [hb.2.2]; rfl)
          · have law := Pl.law_single_basic 34 rfl a1.data.toList a2.data.toList (by
              by_cases hz : 0 < a2.size
              · by_cases hq : bt a2 0 = 34
                · exact .inr (.inr (body_ne (by have : ¬ a1.size = 0 := fun x => hb ⟨hz, hq, x⟩; omega)))
                · exact .inr (.inl hq)
              · exact .inl (suf_nil (by omega)))
            refine rt_bs a0 a1 a2 w hT s0 s1 s2 h13 _ c34 ?_ _ rfl hel _ rfl ?_
            · by_cases hz : 0 < a2.size
              · by_cases hq : bt a2 0 = 34
                · exact .inr (.inr ⟨hz, by rw [hq]; rfl, by have : ¬ a1.size = 0 := fun x => hb ⟨hz, hq, x⟩; omega⟩)
                · exact .inr (.inl ⟨hz, beq_eq_false_iff_ne.mpr (by omega)⟩)
              · exact .inl (by omega)
            · exact at_built a0 _ _ 2 _ (built_eq _ _ _ _) (by rw [built_len, List.length_replicate]; omega) (by simp) law
    · exact rt_big a0 a1 a2 w a3 a4 h13 hS
  · exact rt_no a0 a1 a2 w a3 a4 (flip (bytes13_no a0 a1 a2 a3 a4 w w0 w1 w2 hT))

end Go.Proofs.Qxb6001362a
