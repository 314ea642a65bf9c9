/-
  THE WALK of FnStatementStartsConcat (function 7).
-/
import Derived.Test.Qxb6001362aStWalk
namespace Go.Proofs.Qxb6001362a
open Go.RowKit

theorem bytes17_yes (a b : ByteArray) (w : World) (h : a.size + b.size ≤ 1048576) :
    Calls Try.prog 17 #[.string a, .string b] w fun e w' => e = .returned (.bool true) ∧ w = w' := by
  go_enter Try.func17, Try.ntmps17
  go_wp2
  go_ret
  exact ⟨rfl, rfl⟩

theorem bytes17_no (a b : ByteArray) (w : World) (ha : a.size ≤ maxLen) (hb : b.size ≤ maxLen) (h : ¬ a.size + b.size ≤ 1048576) :
    Calls Try.prog 17 #[.string a, .string b] w fun e w' => e = .returned (.bool false) ∧ w = w' := by
  unfold maxLen at ha hb
  go_enter Try.func17, Try.ntmps17
  go_wp2
  all_goals
    go_ret
    exact ⟨rfl, rfl⟩

/-- What a call of ZZStatementStarts leaves. -/
def Found (w w' : World) (g N cap : Nat) (f : Nat → Nat) : Prop :=
  w.heap.size ≤ g ∧ g < w'.heap.size ∧ N ≤ cap ∧ cap ≤ maxLen ∧ (∀ j, j < N → w'.cell? ⟨g, j, none⟩ = some (.int .i64 ((f j : Nat) : Int))) ∧ Below w.heap.size w w'

theorem Found.later {w w' w2 : World} {g N cap : Nat} {f : Nat → Nat} (h : Found w w' g N cap f) (hb : Below w'.heap.size w' w2) (j : Nat) (hj : j < N) : w2.cell? ⟨g, j, none⟩ = some (.int .i64 ((f j : Nat) : Int)) := by
  rw [hb.cell (p := ⟨g, j, none⟩) h.2.1]
  exact h.2.2.2.2.1 j hj

theorem below_dr (w : World) (n : Nat) : Below w.heap.size w (w.drewN n) := ⟨rfl, rfl, rfl, Nat.le_refl _, fun _ _ => rfl⟩

theorem found16 (s : ByteArray) (w : World) (hs : s.size ≤ 2097152) (N : Nat) (f : Nat → Nat) (hN : (Pl.starts (bt s) s.size).length = N) (hf : ∀ j, (Pl.starts (bt s) s.size).getD j 0 = f j) :
    Calls Try.prog 16 #[.string s] w fun e w' => ∃ g cap, e = .returned (.slice (some ⟨g, 0, none⟩) N cap) ∧ Found w w' g N cap f := by
  refine (ZZStarts_fn s w hs N f hN hf).mono ?_
  rintro e w' ⟨g, cap, rfl, h1, h2, h3, h4, h5, h6⟩
  exact ⟨g, cap, rfl, h1, h2, h3, h4, h5, h6⟩

set_option maxHeartbeats 1000000 in
/-- The last start is not the text's end. -/
theorem cc_not (a b : ByteArray) (w : World) (hT : a.size + b.size ≤ 1048576) (s0 : a.size ≤ 524288) (s1 : b.size ≤ 524288) (Na : Nat) (fa : Nat → Nat) (hNa : 0 < Na) (hNa1 : Na ≤ a.size + 1)
    (c16a : ∀ w, Calls Try.prog 16 #[.string a] w fun e w' => ∃ g cap, e = .returned (.slice (some ⟨g, 0, none⟩) Na cap) ∧ Found w w' g Na cap fa) (hne : Hid (¬ fa (Na - 1) = a.size)) :
    Calls Try.prog 7 #[.string a, .string b] w fun e w' => e = .returned (.bool true) ∧ Below w.heap.size w w' := by
  have h17 := bytes17_yes a b w hT
  have hb0 : ((Na : Int) == 0) = false := beq_eq_false_iff_ne.mpr (by omega)
  obtain ⟨X, hX⟩ : ∃ X, fa (Na - 1) = X := ⟨_, rfl⟩
  have hne' : ((X : Int) != (a.size : Int)) = true := nb_t (by rw [← hX]; exact hne.out)
  go_enter Try.func7, Try.ntmps7
  go_wp2_with (first | (go_at_call 17; refine h17.mono ?_; rintro e w' ⟨rfl, rfl⟩) | (go_at_call 16; refine (c16a _).mono ?_; rintro e w1 ⟨ga, ca, rfl, hF⟩; have q1 := run_at29 ga Na ca ((Na : Int) - 1) (Na - 1) (by omega) (by omega); have hc := hF.2.2.2.2.1 (Na - 1) (by omega); rw [hX] at hc))
  go_ret
  exact ⟨rfl, hF.2.2.2.2.2⟩

set_option maxHeartbeats 2000000 in
theorem cc_main (a b : ByteArray) (w : World) (hT : a.size + b.size ≤ 1048576) (s0 : a.size ≤ 524288) (s1 : b.size ≤ 524288) (Na Nb Nab : Nat) (fa fb fab : Nat → Nat) (hNa : 0 < Na) (hNa1 : Na ≤ a.size + 1) (hNb : 0 < Nb) (hNb1 : Nb ≤ b.size + 1)
    (hNab : Nab + 1 = Na + Nb) (hlast : Hid (fa (Na - 1) = a.size)) (HA : Hid (∀ j, j < Na → fab j = fa j)) (HB : Hid (∀ m, m + 1 < Nb → fab (Na + m) = a.size + fb (m + 1) ∧ fb (m + 1) ≤ b.size))
    (c16a : ∀ w, Calls Try.prog 16 #[.string a] w fun e w' => ∃ g cap, e = .returned (.slice (some ⟨g, 0, none⟩) Na cap) ∧ Found w w' g Na cap fa)
    (c16b : ∀ w, Calls Try.prog 16 #[.string b] w fun e w' => ∃ g cap, e = .returned (.slice (some ⟨g, 0, none⟩) Nb cap) ∧ Found w w' g Nb cap fb)
    (c16ab : ∀ w, Calls Try.prog 16 #[.string (a ++ b)] w fun e w' => ∃ g cap, e = .returned (.slice (some ⟨g, 0, none⟩) Nab cap) ∧ Found w w' g Nab cap fab) :
    Calls Try.prog 7 #[.string a, .string b] w fun e w' => e = .returned (.bool true) ∧ Below w.heap.size w w' := by
  have h17 := bytes17_yes a b w hT
  have hb0 : ((Na : Int) == 0) = false := beq_eq_false_iff_ne.mpr (by omega)
  have hb1 : ((Nb : Int) == 0) = false := beq_eq_false_iff_ne.mpr (by omega)
  have hb2 : ((Nab : Int) != (Na : Int) + (Nb : Int) - 1) = false := by rw [bne, beq_iff_eq.mpr (by omega)]; rfl
  have HN : Hid (Nab + 1 = Na + Nb) := hNab
  clear hNab
  go_enter Try.func7, Try.ntmps7
  go_wp2_with (first | (go_at_call 17; refine h17.mono ?_; rintro e w' ⟨rfl, rfl⟩) | (go_at_call_of 16 (Value.string a); refine (c16a _).mono ?_; rintro e w1 ⟨ga, ca, rfl, hFa⟩; have q1 := run_at29 ga Na ca ((Na : Int) - 1) (Na - 1) (by omega) (by omega); have hc := hFa.2.2.2.2.1 (Na - 1) (by omega); rw [hlast.out] at hc) | (go_at_call_of 16 (Value.string b); refine (c16b _).mono ?_; rintro e w2 ⟨gb, cb, rfl, hFb⟩) | (go_at_call_of 16 (Value.string (a ++ b)); refine (c16ab _).mono ?_; rintro e w3 ⟨gab, cab, rfl, hFab⟩))
  have bb := hFb.2.2.2.2.2
  have bab := hFab.2.2.2.2.2
  have HCa : Hid (∀ j, j < Na → w3.cell? ⟨ga, j, none⟩ = some (.int .i64 ((fa j : Nat) : Int))) := fun j hj => hFa.later (bb.trans (bab.mono bb.size)) j hj
  have HCb : Hid (∀ j, j < Nb → w3.cell? ⟨gb, j, none⟩ = some (.int .i64 ((fb j : Nat) : Int))) := fun j hj => hFb.later bab j hj
  have HCab : Hid (∀ j, j < Nab → w3.cell? ⟨gab, j, none⟩ = some (.int .i64 ((fab j : Nat) : Int))) := hFab.2.2.2.2.1
  have hbel : Below w.heap.size w w3 := hFa.2.2.2.2.2.trans ((bb.trans (bab.mono bb.size)).mono hFa.2.2.2.2.2.size)
  clear bb bab hFa hFb hFab hc q1 c16a c16b c16ab h17
  go_loopw [8] (fun i wr => ∃ j nq : Nat, j ≤ Na ∧ i = .int .i64 (j : Int) ∧ wr = w3.drewN nq) (fun i _ => Na - (intOf i).toNat)
  case atStart => exact ⟨0, 0, Nat.zero_le _, rfl, rfl⟩
  case round =>
    obtain ⟨j, nq, hj, rfl, rfl⟩ := hrel
    by_cases hjn : j < Na
    · have x1 := HCa.out j hjn
      have x2 := HCab.out j (by have := HN.out; omega)
      rw [HA.out j hjn] at x2
      have q1 := run_at29 ga Na ca (j : Int) j rfl hjn
      have q2 := run_at29 gab Nab cab (j : Int) j rfl (by have := HN.out; omega)
      go_wp2
      go_quiet (fail)
      go_wp2
      go_roundw
      case rel => exact ⟨j + 1, _, by omega, by go_num, rfl⟩
      case measure => simp [intOf]; omega
    · go_wp2
      go_loopw [9] (fun i wr => ∃ m mq : Nat, m < Nb ∧ i = .int .i64 ((m : Int) + 1) ∧ wr = w3.drewN mq) (fun i _ => Nb - (intOf i).toNat)
      case atStart => exact ⟨0, nq, hNb, rfl, rfl⟩
      case round =>
        clear nq
        obtain ⟨m, nq, hm, rfl, rfl⟩ := hrel
        by_cases hmn : m + 1 < Nb
        · obtain ⟨e1, e2⟩ := HB.out m hmn
          have x1 := HCb.out (m + 1) hmn
          have x2 := HCab.out (Na + m) (by have := HN.out; omega)
          rw [e1] at x2
          obtain ⟨Y, hY⟩ : ∃ Y, fb (m + 1) = Y := ⟨_, rfl⟩
          rw [hY] at e2 x1 x2
          clear hY e1
          have q1 := run_at29 gb Nb cb ((m : Int) + 1) (m + 1) (by omega) hmn
          have q2 := run_at29 gab Nab cab ((Na : Int) + (m : Int)) (Na + m) (by omega) (by have := HN.out; omega)
          have v1 : IntKind.i64.wrap ((Na : Int) + ((m : Int) + 1)) = (Na : Int) + ((m : Int) + 1) := by rw [IntKind.wrap_i64]; omega
          have v2 : IntKind.i64.wrap ((Na : Int) + ((m : Int) + 1) - 1) = (Na : Int) + (m : Int) := by rw [IntKind.wrap_i64]; omega
          have v3 : IntKind.i64.wrap ((a.size : Int) + (Y : Int)) = (a.size : Int) + (Y : Int) := by rw [IntKind.wrap_i64]; omega
          go_wp2
          go_quiet (fail)
          go_wp2
          go_roundw
          case rel => exact ⟨m + 1, _, hmn, by go_num, rfl⟩
          case measure => simp [intOf]; omega
        · have q1 : ¬ (m : Int) + 1 < (Nb : Int) := by omega
          go_wp2
          go_ret
          exact ⟨rfl, hbel.trans ((below_dr w3 _).mono hbel.size)⟩

theorem starts_len (s : ByteArray) : 0 < (Pl.starts (bt s) s.size).length ∧ (Pl.starts (bt s) s.size).length ≤ s.size + 1 := by
  have := Pl.st_length (bt s) s.size s.size 0 0 (by omega)
  unfold Pl.starts
  simp only [List.length_cons]
  omega

theorem last_of (l : List Nat) (n : Nat) (h0 : 0 < l.length) (h : l.getD (l.length - 1) 0 = n) : l.getLast? = some n := by
  rw [List.getLast?_eq_getElem?]
  rw [List.getD_eq_getElem?_getD, List.getElem?_eq_getElem (by omega)] at h
  rw [List.getElem?_eq_getElem (by omega)]
  exact congrArg some h

theorem cc_walk (a0 a1 : ByteArray) (w0 : a0.size ≤ maxLen) (w1 : a1.size ≤ maxLen) (w : World) :
    Calls Try.prog 7 #[.string a0, .string a1] w fun e w' => e = .returned (.bool true) ∧ Below w.heap.size w w' := by
  by_cases hT : a0.size + a1.size ≤ 1048576
  · by_cases hS : a0.size ≤ 524288 ∧ a1.size ≤ 524288
    · obtain ⟨s0, s1⟩ := hS
      have la := starts_len a0
      have lb := starts_len a1
      have c16a := fun w => found16 a0 w (by omega) _ (fun j => (Pl.starts (bt a0) a0.size).getD j 0) rfl (fun _ => rfl)
      by_cases hl : (Pl.starts (bt a0) a0.size).getD ((Pl.starts (bt a0) a0.size).length - 1) 0 = a0.size
      · have hcc := Pl.starts_concat (bt a0) (bt a1) (bt (a0 ++ a1)) a0.size a1.size (fun i hi => bt_left a0 a1 i hi) (bt_right a0 a1) (last_of _ _ la.1 hl)
        have hsh := Pl.st_shape (bt a1) a1.size a1.size 0 0 (by omega)
        have hsz := size_app a0 a1
        refine cc_main a0 a1 w hT s0 s1 _ _ (Pl.starts (bt (a0 ++ a1)) (a0 ++ a1).size).length (fun j => (Pl.starts (bt a0) a0.size).getD j 0) (fun j => (Pl.starts (bt a1) a1.size).getD j 0) (fun j => (Pl.starts (bt (a0 ++ a1)) (a0 ++ a1).size).getD j 0) la.1 la.2 lb.1 lb.2 ?_ hl ?_ ?_ c16a
          (fun w => found16 a1 w (by omega) _ (fun j => (Pl.starts (bt a1) a1.size).getD j 0) rfl (fun _ => rfl)) (fun w => found16 (a0 ++ a1) w (by omega) _ _ rfl (fun _ => rfl))
        · rw [hsz, hcc, List.length_append, List.length_map]
          unfold Pl.starts
          simp only [List.length_cons]
          omega
        · intro j hj
          show (Pl.starts (bt (a0 ++ a1)) (a0 ++ a1).size).getD j 0 = (Pl.starts (bt a0) a0.size).getD j 0
          rw [hsz, hcc, List.getD_eq_getElem?_getD, List.getElem?_append_left hj, List.getD_eq_getElem?_getD]
        · intro m hm
          have hm' : m < (Pl.st (bt a1) a1.size 0 0).length := by unfold Pl.starts at hm; simpa using hm
          have hp := (hsh.place m hm').2.1
          refine ⟨?_, hp⟩
          show (Pl.starts (bt (a0 ++ a1)) (a0 ++ a1).size).getD ((Pl.starts (bt a0) a0.size).length + m) 0 = a0.size + (Pl.st (bt a1) a1.size 0 0).getD m 0
          rw [hsz, hcc, List.getD_eq_getElem?_getD, List.getElem?_append_right (by omega), Nat.add_sub_cancel_left, List.getElem?_map, List.getElem?_eq_getElem hm', List.getD_eq_getElem?_getD, List.getElem?_eq_getElem hm']
          rfl
      · exact cc_not a0 a1 w hT s0 s1 _ _ la.1 la.2 c16a hl
    · have h17 := bytes17_yes a0 a1 w hT
      by_cases h0 : a0.size ≤ 524288
      · have h1 : ¬ a1.size ≤ 524288 := fun h => hS ⟨h0, h⟩
        clear hS
        go_enter Try.func7, Try.ntmps7
        go_wp2_with (go_at_call 17; refine h17.mono ?_; rintro e w' ⟨rfl, rfl⟩)
        go_ret
        exact ⟨rfl, Below.refl _ _⟩
      · clear hS
        go_enter Try.func7, Try.ntmps7
        go_wp2_with (go_at_call 17; refine h17.mono ?_; rintro e w' ⟨rfl, rfl⟩)
        go_ret
        exact ⟨rfl, Below.refl _ _⟩
  · have h17 := bytes17_no a0 a1 w w0 w1 hT
    go_enter Try.func7, Try.ntmps7
    go_wp2_with (go_at_call 17; refine h17.mono ?_; rintro e w' ⟨rfl, rfl⟩)
    go_ret
    exact ⟨rfl, Below.refl _ _⟩
end Go.Proofs.Qxb6001362a
