/-
  THE WALK of FnStatementStartsShape (function 6).
-/
import Derived.Test.Qxb6001362aStWalk
namespace Go.Proofs.Qxb6001362a
open Go.RowKit

theorem bytes15_yes (a : ByteArray) (w : World) (h : a.size ≤ 1048576) :
    Calls Try.prog 15 #[.string a] w fun e w' => e = .returned (.bool true) ∧ w = w' := by
  go_enter Try.func15, Try.ntmps15
  go_wp2
  go_ret
  exact ⟨rfl, rfl⟩

theorem bytes15_no (a : ByteArray) (w : World) (ha : a.size ≤ maxLen) (h : ¬ a.size ≤ 1048576) :
    Calls Try.prog 15 #[.string a] w fun e w' => e = .returned (.bool false) ∧ w = w' := by
  unfold maxLen at ha
  go_enter Try.func15, Try.ntmps15
  go_wp2
  all_goals
    go_ret
    exact ⟨rfl, rfl⟩

theorem run_btn (s : ByteArray) (i : Int) (k v : Nat) (hi : i = k) (hk : k < s.size) (hv : bt s k = v) (wx : World) : (Instr.index 9 (.string s) (.int .i64 i)).run Try.prog wx = .ok (.int .u8 v) wx := by
  subst hi
  rw [run_index_string wx 9 s .i64 _ Try.underlying9, dif_pos (by omega)]
  simp only [Int.toNat_natCast]
  rw [bt_at, hv]

theorem below_dr (w : World) (n : Nat) : Below w.heap.size w (w.drewN n) := ⟨rfl, rfl, rfl, Nat.le_refl _, fun _ _ => rfl⟩

set_option maxHeartbeats 1000000 in
theorem shape_main (s : ByteArray) (w : World) (hs : s.size ≤ 1048576) (N : Nat) (f : Nat → Nat) (hN0 : 0 < N) (hN1 : N ≤ s.size + 1) (hf0 : Hid (f 0 = 0))
    (HP : Hid (∀ k, k + 1 < N → f k < f (k + 1) ∧ f (k + 1) ≤ s.size ∧ bt s (f (k + 1) - 1) = 10))
    (c16 : ∀ w, Calls Try.prog 16 #[.string s] w fun e w' => ∃ g cap, e = .returned (.slice (some ⟨g, 0, none⟩) N cap) ∧ w.heap.size ≤ g ∧ g < w'.heap.size ∧ N ≤ cap ∧ cap ≤ maxLen ∧
      Hid (∀ j, j < N → w'.cell? ⟨g, j, none⟩ = some (.int .i64 ((f j : Nat) : Int))) ∧ Below w.heap.size w w') :
    Calls Try.prog 6 #[.string s] w fun e w' => e = .returned (.bool true) ∧ Below w.heap.size w w' := by
  have h15 := bytes15_yes s w hs
  have hb0 : ((N : Int) == 0) = false := beq_eq_false_iff_ne.mpr (by omega)
  have hl0 : (0 : Int) < (N : Int) := by omega
  go_enter Try.func6, Try.ntmps6
  go_wp2_with (first | (go_at_call 15; refine h15.mono ?_; rintro e w' ⟨rfl, rfl⟩) | (go_at_call 16; refine (c16 _).mono ?_; rintro e w1 ⟨g, cap, rfl, hg1, hg2, hcap, hcm, HC, hb⟩; have hc0 := HC.out 0 hN0; rw [hf0.out] at hc0))
  clear c16 h15 hc0
  go_loopw [4] (fun i wr => ∃ j nq : Nat, j < N ∧ i = .int .i64 ((j : Int) + 1) ∧ wr = w1.drewN nq) (fun i _ => N - (intOf i).toNat)
  case atStart => exact ⟨0, 0, hN0, rfl, rfl⟩
  case round =>
    obtain ⟨j, nq, hj, rfl, rfl⟩ := hrel
    by_cases hjn : j + 1 < N
    · obtain ⟨p1, p2, p3⟩ := HP.out j hjn
      have c1 := HC.out (j + 1) hjn
      have c0 := HC.out j hj
      obtain ⟨X, hX⟩ : ∃ X, f (j + 1) = X := ⟨_, rfl⟩
      obtain ⟨Y, hY⟩ : ∃ Y, f j = Y := ⟨_, rfl⟩
      rw [hX] at p1 p2 p3 c1
      rw [hY] at p1 c0
      have x1 := run_btn s ((X : Int) - 1) (X - 1) 10 (by omega) (by omega) p3
      clear hX hY p3
      have q1 := run_at29 g N cap ((j : Int) + 1) (j + 1) (by omega) hjn
      have q0 := run_at29 g N cap (j : Int) j rfl hj
      have hle : decide ((X : Int) ≤ (Y : Int)) = false := decide_eq_false (by omega)
      have hgt : ¬ (s.size : Int) < (X : Int) := by omega
      have hwr : IntKind.i64.wrap (j : Int) = (j : Int) := by rw [IntKind.wrap_i64]; omega
      go_wp2
      go_quiet (fail)
      go_wp2
      go_roundw
      case rel => exact ⟨j + 1, _, hjn, by go_num, rfl⟩
      case measure => simp [intOf]; omega
    · have q1 : ¬ (j : Int) + 1 < (N : Int) := by omega
      go_wp2
      go_ret
      exact ⟨rfl, hb.trans ((below_dr w1 _).mono hb.size)⟩

theorem sh_walk (a0 : ByteArray) (w0 : a0.size ≤ maxLen) (w : World) :
    Calls Try.prog 6 #[.string a0] w fun e w' => e = .returned (.bool true) ∧ Below w.heap.size w w' := by
  by_cases hT : a0.size ≤ 1048576
  · have hshape := Pl.st_shape (bt a0) a0.size a0.size 0 0 (by omega)
    refine shape_main a0 w hT (Pl.starts (bt a0) a0.size).length (fun j => (Pl.starts (bt a0) a0.size).getD j 0) ?_ ?_ rfl ?_ (fun w => ZZStarts_fn a0 w (by omega) _ _ rfl (fun _ => rfl))
    · unfold Pl.starts
      simp
    · have := Pl.st_length (bt a0) a0.size a0.size 0 0 (by omega)
      unfold Pl.starts
      simp only [List.length_cons]
      omega
    · intro k hk
      exact hshape.place k (by unfold Pl.starts at hk; simpa using hk)
  · have h15 := bytes15_no a0 w w0 hT
    go_enter Try.func6, Try.ntmps6
    go_wp2_with (go_at_call 15; refine h15.mono ?_; rintro e w' ⟨rfl, rfl⟩)
    go_ret
    exact ⟨rfl, Below.refl _ _⟩
end Go.Proofs.Qxb6001362a
