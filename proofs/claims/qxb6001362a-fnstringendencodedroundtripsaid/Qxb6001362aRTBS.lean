/-
  THE WALK of FnStringEndEncodedRoundTrip (function 5) at literal = false, multi = false, where no test ends it early. (Written by wip/tools/gen_rt.py.)
-/
import Derived.Test.Qxb6001362aRTBase
import Derived.Deep.DeepCutAuto
namespace Go.Proofs.Qxb6001362a
open Go.RowKit

set_option maxRecDepth 100000 in
set_option maxHeartbeats 2000000 in
theorem rt_bs (a0 a1 a2 : ByteArray) (w : World) (hT : a0.size + a1.size + a2.size ≤ 1048576) (s0 : a0.size ≤ 262144) (s1 : a1.size ≤ 262144) (s2 : a2.size ≤ 262144)
    (h13 : Calls Try.prog 13 #[.string a0, .string a1, .string a2, .bool false, .bool false] w fun e w' => e = .returned (.bool true) ∧ w = w')
    (r : Nat) (c14 : ∀ w, Calls Try.prog 14 #[.string a1, .int .u8 34] w fun e w' => e = .returned (.int .i64 r) ∧ w = w')
    (hS : a2.size = 0 ∨ (0 < a2.size ∧ (((bt a2 0 : Nat) : Int) == 34) = false) ∨ (0 < a2.size ∧ (((bt a2 0 : Nat) : Int) == 34) = true ∧ 0 < a1.size))
    (E : List UInt8) (hE : Hid (Pl.encL false a1.data.toList = E)) (hEl : E.length ≤ 2 * a1.size)
    (D : List UInt8) (hD0 : Hid (a0.data.toList ++ List.replicate 1 (34 : UInt8) ++ E ++ List.replicate 1 (34 : UInt8) ++ a2.data.toList = D))
    (c10 : ∀ w, Calls Try.prog 10 #[.string ⟨D.toArray⟩, .int .i64 a0.size] w fun e w' => e = .returned (.int .i64 ((a0.size : Int) + 2 + E.length)) ∧ Below w.heap.size w w') :
    Calls Try.prog 5 #[.string a0, .string a1, .string a2, .bool false, .bool false] w fun e w' => e = .returned (.bool true) ∧ Below w.heap.size w w' := by
  go_enter Try.func5, Try.ntmps5
  go_upto_region 13 with (first | (go_at_call 13; refine h13.mono ?_; rintro e w' ⟨rfl, rfl⟩) | (go_at_call 14; refine (c14 _).mono ?_; rintro e w' ⟨rfl, rfl⟩))
  clear h13 c14
  go_cut [78] from 21 to 77 (fun v wx => v = .bool false ∧ w = wx)
  case first =>
    rcases hS with h | ⟨h, h'⟩ | ⟨h, h', h1⟩
    · have h0 : ¬ (0 : Int) < (a2.size : Int) := by omega
      clear h
      go_wp2
      go_meet
      exact ⟨rfl, rfl⟩
    · have h0 : (0 : Int) < (a2.size : Int) := by omega
      have x0 := run_bt0 a2 h
      go_wp2
      go_meet
      exact ⟨rfl, rfl⟩
    · have h0 : (0 : Int) < (a2.size : Int) := by omega
      have x0 := run_bt0 a2 h
      have h2 : ((a1.size : Int) == 0) = false := beq_eq_false_iff_ne.mpr (by omega)
      go_wp2
      go_meet
      exact ⟨rfl, rfl⟩
  case rest =>
    obtain ⟨rfl, rfl⟩ := hcut
    clear hS
    go_wp2_with (at_make; refine wpList_mk _ rfl _ _ rfl _ (2 * a1.size) rfl rfl (by omega) (by omega) ?_; intro w1 hB hG)
    go_loopw [13, 14] (fun v i wr => ∃ k : Nat, k ≤ a1.size ∧ i = .int .i64 k ∧ v = .slice (some ⟨w.heap.size, 0, none⟩) (Pl.encL false (a1.data.toList.take k)).length (2 * a1.size) ∧ Buf wr w.heap.size w.heap.size (2 * a1.size) (Pl.encL false (a1.data.toList.take k)) ∧ Below w.heap.size w wr) (fun _ i _ => a1.size - (intOf i).toNat)
    case atStart => exact ⟨0, Nat.zero_le _, rfl, rfl, hB, bel_mk hG⟩
    case round =>
      clear hB hG
      obtain ⟨k, hk, rfl, rfl, hB, hbel⟩ := hrel
      have hF : (Pl.encL false (a1.data.toList.take k)).length ≤ 2 * k := by
        have := (Pl.encL_len false (a1.data.toList.take k)).2
        rw [List.length_take] at this
        omega
      by_cases hlt : k < a1.size
      · by_cases hesc : a1[k].toNat = 34 ∨ a1[k].toNat = 92
        · have HN : Hid (Pl.encL false (a1.data.toList.take (k + 1)) = Pl.encL false (a1.data.toList.take k) ++ [92] ++ [a1[k]]) := by
            rw [take_snoc a1 k hlt, Pl.encL_append]
            show _ ++ (Pl.enc1 false a1[k] ++ []) = _
            rw [show Pl.enc1 false a1[k] = [92, a1[k]] from if_pos ⟨rfl, hesc⟩]
            simp
          obtain ⟨F, hFF⟩ : ∃ F, Pl.encL false (a1.data.toList.take k) = F := ⟨_, rfl⟩
          rw [hFF] at HN hF hB ⊢
          clear hFF
          by_cases h34 : ((a1[k].toNat : Int) == 34) = true
          all_goals
            first | (have h34' : ((a1[k].toNat : Int) == 34) = true := h34) | (have h34' : ((a1[k].toNat : Int) == 34) = false := (by simpa using h34); have h92 : ((a1[k].toNat : Int) == 92) = true := esc92 hesc h34')
            clear hesc h34
            go_wp2_with (first | (at_builtin; refine wpList_byte _ rfl (.tmp 102) (.tmp 103) rfl w.heap.size w.heap.size (2 * a1.size) F 92 _ rfl rfl (hB.alloc _) ⟨wr.heap.size, 0, none⟩ rfl (by simp) (by omega) ?_; intro w2 hB2 hG2) | (at_builtin; refine wpList_byte _ rfl (.tmp 105) (.tmp 107) rfl w.heap.size w.heap.size (2 * a1.size) (F ++ [92]) a1[k] _ rfl (by simp) (hB2.alloc _) ⟨w2.heap.size, 0, none⟩ rfl (by simp) (by omega) ?_; intro w3 hB3 hG3))
            go_roundw
            case rel => exact ⟨k + 1, by omega, by go_num, by rw [HN.out, List.length_append, List.length_append]; rfl, by rw [HN.out]; exact hB3, bel_step (bel_step hbel hbel.size hG2 (Nat.le_refl _)) (bel_step hbel hbel.size hG2 (Nat.le_refl _)).size hG3 (Nat.le_refl _)⟩
            case measure => simp [intOf]; omega
        · have HN : Hid (Pl.encL false (a1.data.toList.take (k + 1)) = Pl.encL false (a1.data.toList.take k) ++ [a1[k]]) := by
            rw [take_snoc a1 k hlt, Pl.encL_append]
            show _ ++ (Pl.enc1 false a1[k] ++ []) = _
            rw [show Pl.enc1 false a1[k] = [a1[k]] from if_neg (fun x => hesc x.2)]
            rfl
          obtain ⟨F, hFF⟩ : ∃ F, Pl.encL false (a1.data.toList.take k) = F := ⟨_, rfl⟩
          rw [hFF] at HN hF hB ⊢
          clear hFF
          have h34 : ((a1[k].toNat : Int) == 34) = false := noesc34 hesc
          have h92 : ((a1[k].toNat : Int) == 92) = false := noesc92 hesc
          clear hesc
          go_wp2_with (at_builtin; refine wpList_byte _ rfl (.tmp 105) (.tmp 107) rfl w.heap.size w.heap.size (2 * a1.size) F a1[k] _ rfl rfl (hB.alloc _) ⟨wr.heap.size, 0, none⟩ rfl (by simp) (by omega) ?_; intro w2 hB2 hG2)
          go_roundw
          case rel => exact ⟨k + 1, by omega, by go_num, by rw [HN.out, List.length_append]; rfl, by rw [HN.out]; exact hB2, bel_step hbel hbel.size hG2 (Nat.le_refl _)⟩
          case measure => simp [intOf]; omega
      · rw [List.take_of_length_le (by simp; omega), hE.out] at hB ⊢
        clear hF hE
        rename World => wE
        go_wp2_with (first | (at_make; refine wpList_mk _ rfl _ _ rfl _ (a0.size + 2 + E.length + a2.size) rfl rfl (by omega) (by omega) ?_; intro w3 hD3 hG3) | (at_builtin; refine wpList_str _ rfl (.tmp 122) (.tmp 123) rfl wE.heap.size wE.heap.size (a0.size + 2 + E.length + a2.size) [] a0 _ rfl rfl hD3 rfl (by omega) (by omega) ?_; intro w4 hD4 hG4))
        have hb4 : Below wE.heap.size wE w4 := bel_step0 (bel_mk hG3) (bel_mk hG3).size hG4 (Nat.le_refl _)
        clear hD3 hG3 hG4
        have hEb := hB.lt
        have HL : Hid (∀ j, a0.size + j = (a0.data.toList ++ List.replicate j (34 : UInt8)).length) := fun j => by simp
        go_loopw [17, 18] (fun v i wr => ∃ j : Nat, j ≤ 1 ∧ i = .int .i64 j ∧ v = .slice (some ⟨wE.heap.size, 0, none⟩) (a0.size + j) (a0.size + 2 + E.length + a2.size) ∧ Buf wr wE.heap.size wE.heap.size (a0.size + 2 + E.length + a2.size) (a0.data.toList ++ List.replicate j (34 : UInt8)) ∧ Below wE.heap.size wE wr) (fun _ i _ => 1 - (intOf i).toNat)
        case atStart => exact ⟨0, by omega, rfl, rfl, by simpa using hD4, hb4⟩
        case round =>
          clear hD4 hb4
          obtain ⟨j, hj, rfl, rfl, hD, hbx⟩ := hrel
          by_cases hjl : j < 1
          · go_wp2_with (at_builtin; refine wpList_byte _ rfl (.tmp 130) (.tmp 132) rfl wE.heap.size wE.heap.size (a0.size + 2 + E.length + a2.size) _ 34 _ rfl (HL.out j) (hD.alloc _) ⟨wr.heap.size, 0, none⟩ rfl (by simp) (by omega) ?_; intro w2 hD2 hG2)
            go_roundw
            case rel => exact ⟨j + 1, by omega, by go_num, rfl, rep_snoc hD2, bel_step hbx hbx.size hG2 (Nat.le_refl _)⟩
            case measure => simp [intOf]; omega
          · have ej : j = 1 := by omega
            subst ej
            clear hj hjl
            have hBx := hB.below hbx hEb.2
            go_wp2_with (at_builtin; refine wpList_row _ rfl (.tmp 134) (.tmp 135) rfl wE.heap.size wE.heap.size (a0.size + 2 + E.length + a2.size) _ _ rfl (HL.out 1) hD w.heap.size w.heap.size (2 * a1.size) E rfl hBx (by omega) ?_; intro w5 hD5 hG5)
            have hb5 := bel_step0 hbx hbx.size hG5 (Nat.le_refl _)
            have HL3 : Hid (∀ j, a0.size + 1 + E.length + j = (a0.data.toList ++ List.replicate 1 (34 : UInt8) ++ E ++ List.replicate j (34 : UInt8)).length) := fun j => by
              have e : a0.data.toList.length = a0.size := by simp
              simp only [List.length_append, List.length_replicate, e]
            clear hD hbx hG5 hBx HL hB
            go_loopw [17, 19] (fun v i wr => ∃ j : Nat, j ≤ 1 ∧ i = .int .i64 j ∧ v = .slice (some ⟨wE.heap.size, 0, none⟩) (a0.size + 1 + E.length + j) (a0.size + 2 + E.length + a2.size) ∧ Buf wr wE.heap.size wE.heap.size (a0.size + 2 + E.length + a2.size) (a0.data.toList ++ List.replicate 1 (34 : UInt8) ++ E ++ List.replicate j (34 : UInt8)) ∧ Below wE.heap.size wE wr) (fun _ i _ => 1 - (intOf i).toNat)
            case atStart => exact ⟨0, by omega, rfl, rfl, by simpa using hD5, hb5⟩
            case round =>
              clear hD5 hb5
              obtain ⟨j, hj, rfl, rfl, hD, hbx⟩ := hrel
              by_cases hjl : j < 1
              · go_wp2_with (at_builtin; refine wpList_byte _ rfl (.tmp 142) (.tmp 144) rfl wE.heap.size wE.heap.size (a0.size + 2 + E.length + a2.size) _ 34 _ rfl (HL3.out j) (hD.alloc _) ⟨wr.heap.size, 0, none⟩ rfl (by simp) (by omega) ?_; intro w2 hD2 hG2)
                go_roundw
                case rel => exact ⟨j + 1, by omega, by go_num, rfl, rep_snoc hD2, bel_step hbx hbx.size hG2 (Nat.le_refl _)⟩
                case measure => simp [intOf]; omega
              · have ej : j = 1 := by omega
                subst ej
                clear hj hjl
                have hBE := hbel.size
                go_wp2_with (first | (at_builtin; refine wpList_str _ rfl (.tmp 146) (.tmp 147) rfl wE.heap.size wE.heap.size (a0.size + 2 + E.length + a2.size) _ a2 _ rfl (HL3.out 1) hD rfl (by omega) (by omega) ?_; intro w6 hD6 hG6; have hD7 := hD6; rw [hD0.out] at hD7; have kc := run_back w6 _ _ _ D (a0.size + 1 + E.length + 1 + a2.size) (by rw [← hD0.out]; exact app_len (HL3.out 1) a2) hD7) | (go_at_call 10; refine (c10 _).mono ?_; rintro e w7 ⟨rfl, hb7⟩))
                go_ret
                exact ⟨rfl, hbel.trans ((bel_step0 hbx hbx.size hG6 (Nat.le_refl _)).mono hBE |>.trans (hb7.mono (Nat.le_trans hBE (bel_step0 hbx hbx.size hG6 (Nat.le_refl _)).size)))⟩
end Go.Proofs.Qxb6001362a
