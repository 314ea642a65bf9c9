/-
  THE WALK of FnStringEndBounds (function 3).
-/
import Derived.Test.Qxb6001362aSE
import Derived.Test.Qxb6001362aPlainEnd
namespace Go.Proofs.Qxb6001362a
open Go.RowKit

theorem bytes9_yes (a : ByteArray) (i : Int) (w : World) (h : a.size ≤ 1048576) :
    Calls Try.prog 9 #[.string a, .int .i64 i] w fun e w' => e = .returned (.bool true) ∧ w' = w := by
  go_enter Try.func9, Try.ntmps9
  go_wp2
  go_ret
  exact ⟨rfl, rfl⟩

theorem bytes9_no (a : ByteArray) (i : Int) (w : World) (ha : a.size ≤ maxLen) (h : ¬ a.size ≤ 1048576) :
    Calls Try.prog 9 #[.string a, .int .i64 i] w fun e w' => e = .returned (.bool false) ∧ w' = w := by
  unfold maxLen at ha
  go_enter Try.func9, Try.ntmps9
  go_wp2
  all_goals
    go_ret
    exact ⟨rfl, rfl⟩

theorem below_drewN (w : World) (n : Nat) : Below w.heap.size w (w.drewN n) := ⟨rfl, rfl, rfl, Nat.le_refl _, fun _ _ => rfl⟩

theorem tri_ff1 (s : ByteArray) (a : Nat) (h : ¬ a + 2 < s.size) : Pl.triple (bt s) s.size a = false := decide_eq_false (fun c => h c.1)
theorem tri_ff2 (s : ByteArray) (a : Nat) (h : ¬ bt s (a + 1) = bt s a) : Pl.triple (bt s) s.size a = false := decide_eq_false (fun c => h c.2.1)
theorem tri_3 (s : ByteArray) (a : Nat) (h : a + 2 < s.size) (h1 : bt s (a + 1) = bt s a) : (((bt s (a + 2) : Nat) : Int) == ((bt s a : Nat) : Int)) = Pl.triple (bt s) s.size a := by
  unfold Pl.triple
  rw [Bool.eq_iff_iff]
  simp only [beq_iff_eq, decide_eq_true_eq]
  omega

theorem ret_bool {a b : Bool} (h : a = b) : Ending.returned (.bool a) = .returned (.bool b) := by rw [h]

theorem run_bt (s : ByteArray) (i : Int) (k : Nat) (hi : i = k) (hk : k < s.size) (wx : World) : (Instr.index 9 (.string s) (.int .i64 i)).run Try.prog wx = .ok (.int .u8 (bt s k)) wx := by
  subst hi
  rw [run_index_string wx 9 s .i64 _ Try.underlying9, dif_pos (by omega)]
  simp only [Int.toNat_natCast]
  rw [bt_at]

set_option maxHeartbeats 400000 in
theorem hasTriple_any (s : ByteArray) (a : Nat) (w : World) (hs : s.size ≤ 1048576) (ha : a < s.size) :
    Calls Try.prog 11 #[.string s, .int .i64 a] w fun e w' => e = .returned (.bool (Pl.triple (bt s) s.size a)) ∧ ∃ n, w' = w.drewN n := by
  by_cases h2 : a + 2 < s.size
  · have l0 : (a : Int) < (s.size : Int) := by omega
    have l1 : (a : Int) + 1 < (s.size : Int) := by omega
    have l2 : (a : Int) + 2 < (s.size : Int) := by omega
    have w1 : IntKind.i64.wrap ((a : Int) + 1) = (a : Int) + 1 := by rw [IntKind.wrap_i64]; omega
    have w2 : IntKind.i64.wrap ((a : Int) + 2) = (a : Int) + 2 := by rw [IntKind.wrap_i64]; omega
    have i0 : ∀ wx : World, (Instr.index 9 (.string s) (.int .i64 (a : Int))).run Try.prog wx = .ok (.int .u8 (bt s a)) wx := run_bt s _ a rfl (by omega)
    have i1 : ∀ wx : World, (Instr.index 9 (.string s) (.int .i64 ((a : Int) + 1))).run Try.prog wx = .ok (.int .u8 (bt s (a + 1))) wx := run_bt s _ (a + 1) (by omega) (by omega)
    have i2 : ∀ wx : World, (Instr.index 9 (.string s) (.int .i64 ((a : Int) + 2))).run Try.prog wx = .ok (.int .u8 (bt s (a + 2))) wx := run_bt s _ (a + 2) (by omega) h2
    by_cases e1 : (((bt s (a + 1) : Nat) : Int) == ((bt s a : Nat) : Int)) = true
    · go_enter Try.func11, Try.ntmps11
      go_wp2
      go_quiet (fail)
      go_wp2
      go_ret
      exact ⟨ret_bool (tri_3 s a h2 (beq_t e1)), _, rfl⟩
    · have e1' : (((bt s (a + 1) : Nat) : Int) == ((bt s a : Nat) : Int)) = false := by simpa using e1
      clear e1
      go_enter Try.func11, Try.ntmps11
      go_wp2
      go_quiet (fail)
      go_wp2
      go_ret
      exact ⟨ret_bool (tri_ff2 s a (beq_f e1')).symm, _, rfl⟩
  · go_enter Try.func11, Try.ntmps11
    go_wp2
    go_ret
    exact ⟨ret_bool (tri_ff1 s a h2).symm, 0, rfl⟩

set_option maxHeartbeats 400000 in
theorem bnd_walk (a0 : ByteArray) (a1 : Int) (w0 : a0.size ≤ maxLen) (w : World) :
    Calls Try.prog 3 #[.string a0, .int .i64 a1] w fun e w' => e = .returned (.bool true) ∧ Below w.heap.size w w' := by
  by_cases hT : a0.size ≤ 1048576
  · have h9 := bytes9_yes a0 a1 w hT
    by_cases hI : 0 ≤ a1 ∧ a1 < a0.size
    · obtain ⟨i0, i1⟩ := hI
      obtain ⟨k, rfl⟩ := Int.eq_ofNat_of_zero_le i0
      have hk : k < a0.size := by omega
      have bnd := Pl.strEnd_bounds (bt a0) a0.size k hk
      obtain ⟨R, hR⟩ : ∃ R, R = Pl.strEnd (bt a0) a0.size k := ⟨_, rfl⟩
      have c1 := fun w => ZZStringEnd_any a0 k w hT hk
      rw [← hR] at bnd c1
      clear hR
      obtain ⟨b1, b2, b3⟩ := bnd
      by_cases hE : R = a0.size
      · have hE' : ((R : Int) == (a0.size : Int)) = true := by simp [hE]
        clear b3 hE
        go_enter Try.func3, Try.ntmps3
        go_wp2_with (first | (go_at_call 9; refine h9.mono ?_; rintro e w' ⟨rfl, rfl⟩) | (go_at_call 10; refine (c1 _).mono ?_; rintro e wa ⟨rfl, hba⟩))
        go_ret
        exact ⟨rfl, hba⟩
      · have hE' : ((R : Int) == (a0.size : Int)) = false := by simp; omega
        obtain ⟨g1, g2, g3⟩ : bt a0 (R - 1) = bt a0 k ∧ k + 2 ≤ R ∧ (Pl.triple (bt a0) a0.size k = true → k + 6 ≤ R) := by
          rcases b3 with x | x
          · exact absurd x hE
          · exact x
        clear b3 hE
        have l0 : (k : Int) < (a0.size : Int) := by omega
        have l1 : (R : Int) - 1 < (a0.size : Int) := by omega
        have w1 : IntKind.i64.wrap ((R : Int) - 1) = (R : Int) - 1 := by rw [IntKind.wrap_i64]; omega
        have x0 : ∀ wx : World, (Instr.index 9 (.string a0) (.int .i64 (k : Int))).run Try.prog wx = .ok (.int .u8 (bt a0 k)) wx := run_bt a0 _ k rfl hk
        have x1 : ∀ wx : World, (Instr.index 9 (.string a0) (.int .i64 ((R : Int) - 1))).run Try.prog wx = .ok (.int .u8 (bt a0 k)) wx := by
          intro wx
          rw [run_bt a0 _ (R - 1) (by omega) (by omega), g1]
        have c2 := fun w => hasTriple_any a0 k w hT hk
        clear g1
        cases hm : Pl.triple (bt a0) a0.size k with
        | false =>
          rw [hm] at c2
          clear g3 hm
          go_enter Try.func3, Try.ntmps3
          go_wp2_with (first | (go_at_call 9; refine h9.mono ?_; rintro e w' ⟨rfl, rfl⟩) | (go_at_call 10; refine (c1 _).mono ?_; rintro e wa ⟨rfl, hba⟩))
          go_quiet (fail)
          go_wp2_with (go_at_call 11; refine (c2 _).mono ?_; rintro e wb ⟨rfl, nb, rfl⟩)
          go_ret
          exact ⟨rfl, hba.trans ((below_drewN wa _).mono hba.size)⟩
        | true =>
          rw [hm] at c2
          have g6 : k + 6 ≤ R := g3 hm
          clear g3 hm
          go_enter Try.func3, Try.ntmps3
          go_wp2_with (first | (go_at_call 9; refine h9.mono ?_; rintro e w' ⟨rfl, rfl⟩) | (go_at_call 10; refine (c1 _).mono ?_; rintro e wa ⟨rfl, hba⟩))
          go_quiet (fail)
          go_wp2_with (go_at_call 11; refine (c2 _).mono ?_; rintro e wb ⟨rfl, nb, rfl⟩)
          go_ret
          exact ⟨rfl, hba.trans ((below_drewN wa _).mono hba.size)⟩
    · go_enter Try.func3, Try.ntmps3
      go_wp2_with (go_at_call 9; refine h9.mono ?_; rintro e w' ⟨rfl, rfl⟩)
      all_goals first | (go_ret; exact ⟨rfl, Below.refl _ _⟩) | (exfalso; omega)
  · have h9 := bytes9_no a0 a1 w w0 hT
    go_enter Try.func3, Try.ntmps3
    go_wp2_with (go_at_call 9; refine h9.mono ?_; rintro e w' ⟨rfl, rfl⟩)
    go_ret
    exact ⟨rfl, Below.refl _ _⟩
end Go.Proofs.Qxb6001362a
