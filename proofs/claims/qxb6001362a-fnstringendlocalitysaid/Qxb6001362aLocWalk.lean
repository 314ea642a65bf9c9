/-
  THE WALK of FnStringEndLocality (function 4).
-/
import Derived.Test.Qxb6001362aSE
import Derived.Test.Qxb6001362aPlainEnd
namespace Go.Proofs.Qxb6001362a
open Go.RowKit

theorem bytes12_yes (a b c : ByteArray) (i : Int) (w : World) (h : a.size + b.size + c.size ≤ 1048576) :
    Calls Try.prog 12 #[.string a, .string b, .string c, .int .i64 i] w fun e w' => e = .returned (.bool true) ∧ w' = w := by
  go_enter Try.func12, Try.ntmps12
  go_wp2
  go_ret
  exact ⟨rfl, rfl⟩

theorem bytes12_no (a b c : ByteArray) (i : Int) (w : World) (ha : a.size ≤ maxLen) (hb : b.size ≤ maxLen) (hc : c.size ≤ maxLen) (h : ¬ a.size + b.size + c.size ≤ 1048576) :
    Calls Try.prog 12 #[.string a, .string b, .string c, .int .i64 i] w fun e w' => e = .returned (.bool false) ∧ w' = w := by
  unfold maxLen at ha hb hc
  go_enter Try.func12, Try.ntmps12
  go_wp2
  all_goals
    go_ret
    exact ⟨rfl, rfl⟩

theorem ZZ_shift (a b : ByteArray) (k R : Nat) (w : World) (hs : a.size + b.size ≤ 1048576) (hk : k < b.size) (hR : R = Pl.strEnd (bt b) b.size k) :
    Calls Try.prog 10 #[.string (a ++ b), .int .i64 ((a.size : Int) + k)] w fun e w' => e = .returned (.int .i64 ((a.size : Int) + R)) ∧ Below w.heap.size w w' := by
  have h := ZZStringEnd_any (a ++ b) (a.size + k) w (by rw [size_app]; omega) (by rw [size_app]; omega)
  rw [size_app, Pl.strEnd_shift (bt b) (bt (a ++ b)) b.size a.size (bt_right a b) k, ← hR, Int.natCast_add, Int.natCast_add] at h
  exact h

theorem ZZ_ext (a b : ByteArray) (k R : Nat) (w : World) (hs : a.size + b.size ≤ 1048576) (hk : k < a.size) (hR : R = Pl.strEnd (bt a) a.size k) (hl : R < a.size) :
    Calls Try.prog 10 #[.string (a ++ b), .int .i64 k] w fun e w' => e = .returned (.int .i64 R) ∧ Below w.heap.size w w' := by
  have h := ZZStringEnd_any (a ++ b) k w (by rw [size_app]; omega) (by rw [size_app]; omega)
  rw [size_app, Pl.strEnd_ext (bt a) (bt (a ++ b)) a.size (a.size + b.size) (fun i hi => bt_left a b i hi) (by omega) k hk (by omega), ← hR] at h
  exact h

theorem ZZ_at (a : ByteArray) (k R : Nat) (w : World) (hs : a.size ≤ 1048576) (hk : k < a.size) (hR : R = Pl.strEnd (bt a) a.size k) :
    Calls Try.prog 10 #[.string a, .int .i64 k] w fun e w' => e = .returned (.int .i64 R) ∧ Below w.heap.size w w' := by
  rw [hR]
  exact ZZStringEnd_any a k w hs hk

set_option maxHeartbeats 400000 in
theorem loc_walk (a0 : ByteArray) (a1 : ByteArray) (a2 : ByteArray) (a3 : Int) (w0 : a0.size ≤ maxLen) (w1 : a1.size ≤ maxLen) (w2 : a2.size ≤ maxLen) (w : World) :
    Calls Try.prog 4 #[.string a0, .string a1, .string a2, .int .i64 a3] w fun e w' => e = .returned (.bool true) ∧ Below w.heap.size w w' := by
  by_cases hT : a0.size + a1.size + a2.size ≤ 1048576
  · unfold maxLen at w0 w1 w2
    have h12 := bytes12_yes a0 a1 a2 a3 w hT
    by_cases hS : a0.size ≤ 262144 ∧ a1.size ≤ 262144 ∧ a2.size ≤ 262144
    · obtain ⟨s0, s1, s2⟩ := hS
      by_cases hI : 0 ≤ a3 ∧ a3 < a1.size
      · obtain ⟨i0, i1⟩ := hI
        obtain ⟨k, rfl⟩ := Int.eq_ofNat_of_zero_le i0
        have hk : k < a1.size := by omega
        have bnd := Pl.strEnd_bounds (bt a1) a1.size k hk
        obtain ⟨R, hR⟩ : ∃ R, R = Pl.strEnd (bt a1) a1.size k := ⟨_, rfl⟩
        have c1 := fun w => ZZ_at a1 k R w (by omega) hk hR
        have c2 := fun w => ZZ_shift a0 a1 k R w (by omega) hk hR
        rw [← hR] at bnd
        have r1 : R ≤ a1.size := bnd.2.1
        by_cases hlt : R < a1.size
        · have c3 := fun w => ZZ_ext a1 a2 k R w (by omega) hk hR hlt
          clear hR bnd
          go_enter Try.func4, Try.ntmps4
          go_wp2_with (first | (go_at_call 12; refine h12.mono ?_; rintro e w' ⟨rfl, rfl⟩) | (go_at_call_of 10 (Value.string a1); refine (c1 _).mono ?_; rintro e wa ⟨rfl, hba⟩) | (go_at_call_of 10 (Value.string (a0 ++ a1)); refine (c2 _).mono ?_; rintro e wb ⟨rfl, hbb⟩) | (go_at_call_of 10 (Value.string (a1 ++ a2)); refine (c3 _).mono ?_; rintro e wc ⟨rfl, hbc⟩))
          go_ret
          exact ⟨rfl, (hba.trans (hbb.mono hba.size)).trans (hbc.mono (Nat.le_trans hba.size hbb.size))⟩
        · clear hR bnd
          go_enter Try.func4, Try.ntmps4
          go_wp2_with (first | (go_at_call 12; refine h12.mono ?_; rintro e w' ⟨rfl, rfl⟩) | (go_at_call_of 10 (Value.string a1); refine (c1 _).mono ?_; rintro e wa ⟨rfl, hba⟩) | (go_at_call_of 10 (Value.string (a0 ++ a1)); refine (c2 _).mono ?_; rintro e wb ⟨rfl, hbb⟩))
          go_ret
          exact ⟨rfl, hba.trans (hbb.mono hba.size)⟩
      · go_enter Try.func4, Try.ntmps4
        go_wp2_with (go_at_call 12; refine h12.mono ?_; rintro e w' ⟨rfl, rfl⟩)
        all_goals first | (go_ret; exact ⟨rfl, Below.refl _ _⟩) | (exfalso; omega)
    · go_enter Try.func4, Try.ntmps4
      go_wp2_with (go_at_call 12; refine h12.mono ?_; rintro e w' ⟨rfl, rfl⟩)
      all_goals first | (go_ret; exact ⟨rfl, Below.refl _ _⟩) | (exfalso; omega)
  · have h12 := bytes12_no a0 a1 a2 a3 w w0 w1 w2 hT
    go_enter Try.func4, Try.ntmps4
    go_wp2_with (go_at_call 12; refine h12.mono ?_; rintro e w' ⟨rfl, rfl⟩)
    go_ret
    exact ⟨rfl, Below.refl _ _⟩
end Go.Proofs.Qxb6001362a
