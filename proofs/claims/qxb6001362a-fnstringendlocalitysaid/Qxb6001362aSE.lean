/-
  THE WALK of stringEnd (function 20) and of its exported name (function 10).
-/
import Derived.Test.Qxb6001362aShelf
import Derived.Test.Qxb6001362aPlain
import Derived.WalkKit
import Derived.ProofKit
import Derived.Below
import Derived.BigQuiet
import Derived.Deep.QuietTactic
import Derived.Deep.RegionWith
import Derived.Deep.CutRange
import Derived.Deep.DeepFit
import Derived.Deep.DeepMust
import Derived.WalkLawsBesides
namespace Go.Proofs.Qxb6001362a
open Go.RowKit

/-- The byte at place i, as a number (0 past the end). -/
def bt (s : ByteArray) (i : Nat) : Nat := (s.data.toList.getD i 0).toNat

theorem bt_at (s : ByteArray) (k : Nat) (h : k < s.size) : s[k].toNat = bt s k := by
  unfold bt
  have hl : k < s.data.toList.length := by simpa using h
  rw [List.getD_eq_getElem?_getD, List.getElem?_eq_getElem hl]
  rfl

theorem bt_lt (s : ByteArray) (k : Nat) : bt s k < 256 := UInt8.toNat_lt _

theorem data_app (a b : ByteArray) : (a ++ b).data.toList = a.data.toList ++ b.data.toList := by simp [ByteArray.data_append]

theorem bt_right (a b : ByteArray) (i : Nat) : bt (a ++ b) (a.size + i) = bt b i := by
  unfold bt
  have hl : a.data.toList.length = a.size := by simp
  rw [data_app, List.getD_eq_getElem?_getD, List.getElem?_append_right (by omega), hl, Nat.add_sub_cancel_left, List.getD_eq_getElem?_getD]

theorem bt_left (a b : ByteArray) (i : Nat) (h : i < a.size) : bt (a ++ b) i = bt a i := by
  unfold bt
  have hl : a.data.toList.length = a.size := by simp
  rw [data_app, List.getD_eq_getElem?_getD, List.getElem?_append_left (by omega), List.getD_eq_getElem?_getD]

theorem size_app (a b : ByteArray) : (a ++ b).size = a.size + b.size := by simp

/-- Three copies of t. -/
def rep3 (t : ByteArray) : ByteArray := ⟨(Lib.repeatL t.data.toList 3).toArray⟩

theorem repeat3 (t : ByteArray) (w : World) (h : t.size ≤ 1) :
    Calls Try.prog 23 #[.string t, .int .i64 3] w fun e w' => e = .returned (.string (rep3 t)) ∧ Below w.heap.size w w' :=
  Try.strings_Repeat t 3 w (by omega) (by omega)

theorem prefix_list (D : List UInt8) (c : UInt8) (h0 : D.head? = some c) : [c, c, c].isPrefixOf D = decide (2 < D.length ∧ (D.getD 1 0).toNat = (D.getD 0 0).toNat ∧ (D.getD 2 0).toNat = (D.getD 0 0).toNat) := by
  match D, h0 with
  | [x], h => simp [List.isPrefixOf]
  | [x, y], h => simp [List.isPrefixOf]
  | x :: y :: z :: t, h =>
    simp only [List.head?_cons, Option.some.injEq] at h
    subst h
    rw [Bool.eq_iff_iff]
    simp only [List.isPrefixOf, beq_self_eq_true, Bool.true_and, Bool.and_true, Bool.and_eq_true, beq_iff_eq, decide_eq_true_eq, List.getD_cons_zero, List.getD_cons_succ, List.length_cons]
    constructor
    · rintro ⟨rfl, rfl⟩
      exact ⟨by omega, rfl, rfl⟩
    · rintro ⟨_, h1, h2⟩
      exact ⟨(UInt8.toNat_inj.mp h1).symm, (UInt8.toNat_inj.mp h2).symm⟩

theorem prefix3 (s : ByteArray) (a : Nat) (ha : a < s.size) : Lib.hasPrefix (s.extract a s.size).data.toList (rep3 (s.extract a (a + 1))).data.toList = Pl.triple (bt s) s.size a := by
  have hl : s.data.toList.length = s.size := by simp
  have e1 : (s.extract a s.size).data.toList = s.data.toList.drop a := by
    rw [Lib.extract_data, List.take_of_length_le (by rw [List.length_drop, hl]; exact Nat.le_refl _)]
  have hal : a < s.data.toList.length := by omega
  have e2 : (s.extract a (a + 1)).data.toList = [s.data.toList[a]] := by
    rw [Lib.extract_data, show a + 1 - a = 1 from by omega, List.drop_eq_getElem_cons hal]
    rfl
  have e3 : (rep3 (s.extract a (a + 1))).data.toList = [s.data.toList[a], s.data.toList[a], s.data.toList[a]] := by
    unfold rep3
    rw [e2]
    rfl
  rw [e1, e3]
  unfold Lib.hasPrefix
  rw [prefix_list _ _ (by rw [List.head?_drop, List.getElem?_eq_getElem hal])]
  unfold Pl.triple bt
  congr 1
  simp only [List.length_drop, List.getD_eq_getElem?_getD, List.getElem?_drop, hl, Nat.add_zero]
  rw [show (2 < s.size - a) = (a + 2 < s.size) from by apply propext; omega]

theorem isTriple (s : ByteArray) (a : Nat) (ha : a < s.size) (m : Bool) (hm : Pl.triple (bt s) s.size a = m) (w : World) :
    Calls Try.prog 22 #[.string (s.extract a s.size), .string (rep3 (s.extract a (a + 1)))] w fun e w' => e = .returned (.bool m) ∧ w' = w := by
  have := Try.strings_HasPrefix (s.extract a s.size) (rep3 (s.extract a (a + 1))) w
  rw [prefix3 s a ha, hm] at this
  exact this


theorem beq_t {x y : Nat} (h : (((x : Nat) : Int) == ((y : Nat) : Int)) = true) : x = y := by
  have := of_decide_eq_true (p := (x : Int) = (y : Int)) (by simpa using h)
  omega
theorem beq_f {x y : Nat} (h : (((x : Nat) : Int) == ((y : Nat) : Int)) = false) : ¬ x = y := by
  intro e
  subst e
  simp at h

theorem below_drew {w w1 : World} (h : Below w.drew.heap.size w.drew w1) : Below w.heap.size w w1 := ⟨h.os, h.tape, h.output, h.size, h.block⟩

section steps
variable (s : ByteArray) (a k R : Nat) (m : Bool) (ha : a < s.size) (hk : k < s.size)
theorem st_esc2 (h1 : ((s[k].toNat : Int) == 92) = true) (h2 : ((s[a].toNat : Int) == 34) = true) (h : Hid (R = Pl.scan (bt s) s.size (bt s a) m k)) : Hid (R = Pl.scan (bt s) s.size (bt s a) m (k + 2)) := by
  have e1 := beq_t (y := 92) h1
  have e2 := beq_t (y := 34) h2
  rw [bt_at] at e1 e2
  exact h.out.trans (Pl.scan_esc2 _ _ _ _ _ hk e1 e2)
theorem st_esc1 (h1 : ((s[k].toNat : Int) == 92) = true) (h2 : ((s[a].toNat : Int) == 34) = false) (h : Hid (R = Pl.scan (bt s) s.size (bt s a) m k)) : Hid (R = Pl.scan (bt s) s.size (bt s a) m (k + 1)) := by
  have e1 := beq_t (y := 92) h1
  have e2 := beq_f (y := 34) h2
  rw [bt_at] at e1 e2
  exact h.out.trans (Pl.scan_esc1 _ _ _ _ _ hk e1 e2)
theorem st_on (h1 : ((s[k].toNat : Int) == 92) = false) (h2 : ((s[k].toNat : Int) == (s[a].toNat : Int)) = false) (h : Hid (R = Pl.scan (bt s) s.size (bt s a) m k)) : Hid (R = Pl.scan (bt s) s.size (bt s a) m (k + 1)) := by
  have e1 := beq_f (y := 92) h1
  have e2 := beq_f h2
  rw [bt_at] at e1 e2
  rw [bt_at] at e2
  exact h.out.trans (Pl.scan_on _ _ _ _ _ hk e1 e2)
theorem st_one (h1 : ((s[k].toNat : Int) == 92) = false) (h2 : ((s[k].toNat : Int) == (s[a].toNat : Int)) = true) (h : Hid (R = Pl.scan (bt s) s.size (bt s a) false k)) : R = k + 1 := by
  have e1 := beq_f (y := 92) h1
  have e2 := beq_t h2
  rw [bt_at] at e1 e2
  rw [bt_at] at e2
  exact h.out.trans (Pl.scan_one _ _ _ _ _ hk e1 e2 rfl)
theorem st_past (hk : ¬ k < s.size) (h : Hid (R = Pl.scan (bt s) s.size (bt s a) m k)) : R = s.size :=
  h.out.trans (Pl.scan_past _ _ _ _ _ hk)
theorem st_run (j : Nat) (h1 : ((s[k].toNat : Int) == 92) = false) (h2 : ((s[k].toNat : Int) == (s[a].toNat : Int)) = true) (h : Hid (R = Pl.scan (bt s) s.size (bt s a) true k)) (hj : Pl.runEnd (bt s) s.size (bt s a) k = j) (h3 : k + 3 ≤ j) : R = j := by
  have e1 := beq_f (y := 92) h1
  have e2 := beq_t h2
  rw [bt_at] at e1 e2
  rw [bt_at] at e2
  rw [← hj]
  exact h.out.trans (Pl.scan_run _ _ _ _ _ hk e1 e2 rfl (by omega))
theorem st_few (j : Nat) (h1 : ((s[k].toNat : Int) == 92) = false) (h2 : ((s[k].toNat : Int) == (s[a].toNat : Int)) = true) (h : Hid (R = Pl.scan (bt s) s.size (bt s a) true k)) (hj : Pl.runEnd (bt s) s.size (bt s a) k = j) (h3 : ¬ k + 3 ≤ j) : Hid (R = Pl.scan (bt s) s.size (bt s a) true j) := by
  have e1 := beq_f (y := 92) h1
  have e2 := beq_t h2
  rw [bt_at] at e1 e2
  rw [bt_at] at e2
  rw [← hj]
  exact h.out.trans (Pl.scan_few _ _ _ _ _ hk e1 e2 rfl (by omega))
theorem run_on (j : Nat) (hj : j < s.size) (h2 : ((s[j].toNat : Int) == (s[a].toNat : Int)) = true) (h : Hid (Pl.runEnd (bt s) s.size (bt s a) k = Pl.runEnd (bt s) s.size (bt s a) j)) : Hid (Pl.runEnd (bt s) s.size (bt s a) k = Pl.runEnd (bt s) s.size (bt s a) (j + 1)) := by
  have e2 := beq_t h2
  rw [bt_at] at e2
  rw [bt_at] at e2
  exact h.out.trans (Pl.runEnd_step _ _ _ _ hj e2)
theorem run_off (j : Nat) (hj : j < s.size) (h2 : ((s[j].toNat : Int) == (s[a].toNat : Int)) = false) (h : Hid (Pl.runEnd (bt s) s.size (bt s a) k = Pl.runEnd (bt s) s.size (bt s a) j)) : Pl.runEnd (bt s) s.size (bt s a) k = j := by
  have e2 := beq_f h2
  rw [bt_at] at e2
  rw [bt_at] at e2
  exact h.out.trans (Pl.runEnd_stop _ _ _ _ (fun c => e2 c.2))
theorem run_past (j : Nat) (hj : ¬ j < s.size) (h : Hid (Pl.runEnd (bt s) s.size (bt s a) k = Pl.runEnd (bt s) s.size (bt s a) j)) : Pl.runEnd (bt s) s.size (bt s a) k = j :=
  h.out.trans (Pl.runEnd_stop _ _ _ _ (fun c => hj c.1))
end steps

theorem ret_int {k : IntKind} {a b : Int} (h : a = b) : Ending.returned (.int k a) = .returned (.int k b) := by rw [h]

theorem triple_le {g : Nat → Nat} {n i : Nat} (h : Pl.triple g n i = true) : i + 2 < n := by
  unfold Pl.triple at h
  exact (of_decide_eq_true h).1

set_option maxHeartbeats 400000 in
theorem se_multi (s : ByteArray) (a : Nat) (w : World) (hs : s.size ≤ 2097152) (ha : a < s.size) (hm : Pl.triple (bt s) s.size a = true) :
    Calls Try.prog 20 #[.string s, .int .i64 a] w fun e w' => e = .returned (.int .i64 (Pl.strEnd (bt s) s.size a)) ∧ Below w.heap.size w w' := by
  have h22 := isTriple s a ha true hm
  have h23 := fun w => repeat3 (s.extract a (a + 1)) w (by simp; omega)
  have H : Hid (Pl.strEnd (bt s) s.size a = Pl.scan (bt s) s.size (bt s a) true (a + 3)) := by unfold Pl.strEnd; rw [hm]; rfl
  have H3 : Hid (a + 2 < s.size) := triple_le hm
  clear hm
  obtain ⟨R, hR⟩ : ∃ R, R = Pl.strEnd (bt s) s.size a := ⟨_, rfl⟩
  rw [← hR]
  rw [← hR] at H
  clear hR
  have hsl : ∀ wx : World, (Instr.slice 9 (.string s) (some (.int .i64 (a : Int))) (some (.int .i64 ((a : Int) + 1))) none).run Try.prog wx = .ok (.string (s.extract a (a + 1))) wx := fun wx => by
    rw [run_slice_string wx 9 s .i64 .i64 (a : Int) ((a : Int) + 1) Try.underlying9 (by omega) (by omega) (by omega)]
    rfl
  have hwr : IntKind.i64.wrap ((a : Int) + 1) = (a : Int) + 1 := by rw [IntKind.wrap_i64]; omega
  have l3 : (a : Int) ≤ (s.size : Int) := by omega
  go_enter Try.func20, Try.ntmps20
  go_upto_region 2 with fail
  go_region_with (first | (go_at_call 23; refine (h23 _).mono ?_; rintro e w1 ⟨rfl, hb1⟩) | (go_at_call 22; refine (h22 _).mono ?_; rintro e w1 ⟨rfl, rfl⟩))
  clear h22 h23 hsl hwr l3
  have hb := below_drew hb1
  clear hb1
  go_wp2
  go_loop [1] (fun x => ∃ k : Nat, k ≤ s.size + 1 ∧ x = .int .i64 k ∧ Hid (R = Pl.scan (bt s) s.size (bt s a) true k)) (fun x => s.size + 2 - (intOf x).toNat)
  case atStart => exact ⟨a + 3, by have := H3.out; omega, by go_num, H⟩
  case round =>
    obtain ⟨k, hk, rfl, hR⟩ := hrel
    by_cases hlt : k < s.size
    · go_wp2
      · go_round
        case rel => exact ⟨k + 2, by omega, by go_num, st_esc2 s a k R true ha hlt ‹_› ‹_› hR⟩
        case measure => simp [intOf]; omega
      · go_round
        case rel => exact ⟨k + 1, by omega, by go_num, st_esc1 s a k R true ha hlt ‹_› ‹_› hR⟩
        case measure => simp [intOf]; omega
      · go_loop [1, 7] (fun x r => ∃ j : Nat, k ≤ j ∧ j ≤ s.size ∧ x = .int .i64 j ∧ r = .int .i64 ((j : Int) - k) ∧ Hid (Pl.runEnd (bt s) s.size (bt s a) k = Pl.runEnd (bt s) s.size (bt s a) j)) (fun x _ => s.size + 2 - (intOf x).toNat)
        case atStart => exact ⟨k, by omega, by omega, rfl, by go_num, rfl⟩
        case round =>
          have hq1 : Hid (((s[k].toNat : Int) == 92) = false) := by assumption
          have hq2 : Hid (((s[k].toNat : Int) == (s[a].toNat : Int)) = true) := by assumption
          obtain ⟨j, hkj, hj, rfl, rfl, hrun⟩ := hrel
          by_cases hjn : j < s.size
          · by_cases hjq : ((s[j].toNat : Int) == (s[a].toNat : Int)) = true
            · go_wp2
              go_round
              case rel => exact ⟨j + 1, by omega, by omega, by go_num, by go_num, run_on s a k ha j hjn hjq hrun⟩
              case measure => simp [intOf]; omega
            · have hjf : ((s[j].toNat : Int) == (s[a].toNat : Int)) = false := by simpa using hjq
              have hE : Hid (Pl.runEnd (bt s) s.size (bt s a) k = j) := run_off s a k ha j hjn hjf hrun
              have hne : k < j := by
                rcases Nat.lt_or_ge k j with h | h
                · exact h
                · have e : j = k := by omega
                  subst e
                  exact absurd hq2.out hjq
              clear hjq
              go_wp2
              · go_ret
                exact ⟨ret_int (by rw [st_run s a k R ha hlt j hq1.out hq2.out hR hE.out (by omega)]), hb⟩
              · go_round
                case rel => exact ⟨j, by omega, rfl, st_few s a k R ha hlt j hq1.out hq2.out hR hE.out (by omega)⟩
                case measure => simp [intOf]; omega
          · have hE : Hid (Pl.runEnd (bt s) s.size (bt s a) k = j) := run_past s a k j hjn hrun
            go_wp2
            · go_ret
              exact ⟨ret_int (by rw [st_run s a k R ha hlt j hq1.out hq2.out hR hE.out (by omega)]), hb⟩
            · go_round
              case rel => exact ⟨j, by omega, rfl, st_few s a k R ha hlt j hq1.out hq2.out hR hE.out (by omega)⟩
              case measure => simp [intOf]; omega
      · go_round
        case rel => exact ⟨k + 1, by omega, by go_num, st_on s a k R true ha hlt ‹_› ‹_› hR⟩
        case measure => simp [intOf]; omega
    · go_wp2
      go_ret
      exact ⟨ret_int (by rw [st_past s a k R true hlt hR]), hb⟩

theorem triple_ff {g : Nat → Nat} {n i : Nat} (h : Pl.triple g n i = false) : Pl.strEnd g n i = Pl.scan g n (g i) false (i + 1) := by
  unfold Pl.strEnd
  rw [h]
  rfl

set_option maxHeartbeats 400000 in
theorem se_single (s : ByteArray) (a : Nat) (w : World) (hs : s.size ≤ 2097152) (ha : a < s.size) (hm : Pl.triple (bt s) s.size a = false) :
    Calls Try.prog 20 #[.string s, .int .i64 a] w fun e w' => e = .returned (.int .i64 (Pl.strEnd (bt s) s.size a)) ∧ Below w.heap.size w w' := by
  have h22 := isTriple s a ha false hm
  have h23 := fun w => repeat3 (s.extract a (a + 1)) w (by simp; omega)
  have H : Hid (Pl.strEnd (bt s) s.size a = Pl.scan (bt s) s.size (bt s a) false (a + 1)) := triple_ff hm
  clear hm
  obtain ⟨R, hR⟩ : ∃ R, R = Pl.strEnd (bt s) s.size a := ⟨_, rfl⟩
  rw [← hR]
  rw [← hR] at H
  clear hR
  have hsl : ∀ wx : World, (Instr.slice 9 (.string s) (some (.int .i64 (a : Int))) (some (.int .i64 ((a : Int) + 1))) none).run Try.prog wx = .ok (.string (s.extract a (a + 1))) wx := fun wx => by
    rw [run_slice_string wx 9 s .i64 .i64 (a : Int) ((a : Int) + 1) Try.underlying9 (by omega) (by omega) (by omega)]
    rfl
  have hwr : IntKind.i64.wrap ((a : Int) + 1) = (a : Int) + 1 := by rw [IntKind.wrap_i64]; omega
  have l3 : (a : Int) ≤ (s.size : Int) := by omega
  go_enter Try.func20, Try.ntmps20
  go_upto_region 2 with fail
  go_region_with (first | (go_at_call 23; refine (h23 _).mono ?_; rintro e w1 ⟨rfl, hb1⟩) | (go_at_call 22; refine (h22 _).mono ?_; rintro e w1 ⟨rfl, rfl⟩))
  clear h22 h23 hsl hwr l3
  have hb := below_drew hb1
  clear hb1
  go_wp2
  go_loop [1] (fun x => ∃ k : Nat, k ≤ s.size + 1 ∧ x = .int .i64 k ∧ Hid (R = Pl.scan (bt s) s.size (bt s a) false k)) (fun x => s.size + 2 - (intOf x).toNat)
  case atStart => exact ⟨a + 1, by omega, by go_num, H⟩
  case round =>
    obtain ⟨k, hk, rfl, hR⟩ := hrel
    by_cases hlt : k < s.size
    · go_wp2
      · go_round
        case rel => exact ⟨k + 2, by omega, by go_num, st_esc2 s a k R false ha hlt ‹_› ‹_› hR⟩
        case measure => simp [intOf]; omega
      · go_round
        case rel => exact ⟨k + 1, by omega, by go_num, st_esc1 s a k R false ha hlt ‹_› ‹_› hR⟩
        case measure => simp [intOf]; omega
      · go_ret
        exact ⟨ret_int (by rw [st_one s a k R ha hlt ‹_› ‹_› hR]; omega), hb⟩
      · go_round
        case rel => exact ⟨k + 1, by omega, by go_num, st_on s a k R false ha hlt ‹_› ‹_› hR⟩
        case measure => simp [intOf]; omega
    · go_wp2
      go_ret
      exact ⟨ret_int (by rw [st_past s a k R false hlt hR]), hb⟩

/-- stringEnd, at every place inside a text of at most 2^21 bytes: it returns 'strEnd'; it makes new blocks alone. -/
theorem stringEnd_wide (s : ByteArray) (a : Nat) (w : World) (hs : s.size ≤ 2097152) (ha : a < s.size) :
    Calls Try.prog 20 #[.string s, .int .i64 a] w fun e w' => e = .returned (.int .i64 (Pl.strEnd (bt s) s.size a)) ∧ Below w.heap.size w w' := by
  cases hm : Pl.triple (bt s) s.size a
  · exact se_single s a w hs ha hm
  · exact se_multi s a w hs ha hm

set_option maxHeartbeats 400000 in
theorem ZZStringEnd_wide (s : ByteArray) (a : Nat) (w : World) (hs : s.size ≤ 2097152) (ha : a < s.size) :
    Calls Try.prog 10 #[.string s, .int .i64 a] w fun e w' => e = .returned (.int .i64 (Pl.strEnd (bt s) s.size a)) ∧ Below w.heap.size w w' := by
  go_enter Try.func10, Try.ntmps10
  go_wp2_with (go_at_call 20; refine (stringEnd_wide s a _ hs ha).mono ?_; rintro e w1 ⟨rfl, hb⟩)
  go_ret
  exact ⟨rfl, hb⟩

theorem stringEnd_any (s : ByteArray) (a : Nat) (w : World) (hs : s.size ≤ 1048576) (ha : a < s.size) :
    Calls Try.prog 20 #[.string s, .int .i64 a] w fun e w' => e = .returned (.int .i64 (Pl.strEnd (bt s) s.size a)) ∧ Below w.heap.size w w' :=
  stringEnd_wide s a w (by omega) ha

theorem ZZStringEnd_any (s : ByteArray) (a : Nat) (w : World) (hs : s.size ≤ 1048576) (ha : a < s.size) :
    Calls Try.prog 10 #[.string s, .int .i64 a] w fun e w' => e = .returned (.int .i64 (Pl.strEnd (bt s) s.size a)) ∧ Below w.heap.size w w' :=
  ZZStringEnd_wide s a w (by omega) ha

end Go.Proofs.Qxb6001362a
