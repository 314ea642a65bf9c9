/-
  THE WALK of FnStatementStartsPlainLines (function 8).
-/
import Derived.Test.Qxb6001362aPLBase
namespace Go.Proofs.Qxb6001362a
open Go.RowKit

/-- What a call of ZZStatementStarts leaves. -/
def Got (w w' : World) (g N cap : Nat) (f : Nat → Nat) : Prop :=
  w.heap.size ≤ g ∧ g < w'.heap.size ∧ N ≤ cap ∧ cap ≤ maxLen ∧ (∀ j, j < N → w'.cell? ⟨g, j, none⟩ = some (.int .i64 ((f j : Nat) : Int))) ∧ Below w.heap.size w w'

theorem take_cell (xs : List Value) (ss : List ByteArray) (k : Nat) (hk : k < xs.length) (h : ∀ j, j < k → xs[j]? = some (.string (ss.getD j ByteArray.empty))) : ∀ j, j < k + 1 → (xs.set k (.string (ss.getD k ByteArray.empty)))[j]? = some (.string (ss.getD j ByteArray.empty)) := by
  intro j hj
  by_cases e : j = k
  · subst e
    rw [List.getElem?_set_self hk]
  · rw [List.getElem?_set_ne (fun x => e x.symm)]
    exact h j (by omega)

theorem chain4 {B Bw : Nat} {wC wr w4 w5 w6 : World} {o1 o2 : Obj} (h : Below B wC wr) (hs : B ≤ wr.heap.size) (hG4 : wr.grownBy w4 (some B)) (hG5 : (w4.alloc o1).grownBy w5 (some B)) (hb6 : Below Bw (w5.alloc o2) w6) (hBw : B ≤ Bw) : Below B wC w6 ∧ wr.heap.size ≤ w6.heap.size := by
  have h4 := bel_step0 h hs hG4 (Nat.le_refl _)
  have s4 := hG4.size
  have s5 := hG5.size
  have s6 := hb6.size
  simp only [World.size_alloc] at s5 s6
  have h5 := bel_step h4 (by omega) hG5 (Nat.le_refl _)
  exact ⟨(h5.alloc (by omega) o2).trans (hb6.mono hBw), by omega⟩

theorem doc_step (ss : List ByteArray) (k : Nat) (h : k < ss.length) : Pl.docL ((lists ss).take (k + 1)) = Pl.docL ((lists ss).take k) ++ (ss.getD k ByteArray.empty).data.toList ++ [10] := by
  rw [lists_take ss k h, Pl.docL_snoc]

theorem ends_step (ss : List ByteArray) (k : Nat) (h : k < ss.length) : 0 :: Pl.ends 0 ((lists ss).take (k + 1)) = (0 :: Pl.ends 0 ((lists ss).take k)) ++ [(Pl.docL ((lists ss).take k)).length + (ss.getD k ByteArray.empty).size + 1] := by
  have e := doc_step ss k h
  rw [lists_take ss k h] at e ⊢
  rw [Pl.ends_snoc, e, Nat.zero_add, List.length_append, List.length_append]
  rfl

theorem doc_room (ss : List ByteArray) (k n T : Nat) (hn : ss.length = n) (h : k < n) (hT : 16 * n + Pl.sumL (lists ss) = T) : (Pl.docL ((lists ss).take k)).length + (ss.getD k ByteArray.empty).size + 1 ≤ T := by
  have e := congrArg List.length (doc_step ss k (by omega))
  rw [List.length_append, List.length_append] at e
  have e2 := Pl.docL_length ((lists ss).take (k + 1))
  have e3 := Pl.sumL_take (lists ss) (k + 1)
  have e4 : ((lists ss).take (k + 1)).length ≤ k + 1 := List.length_take_le _ _
  have e5 : (ss.getD k ByteArray.empty).data.toList.length = (ss.getD k ByteArray.empty).size := rfl
  simp only [List.length_cons, List.length_nil] at e
  omega

set_option maxRecDepth 100000 in
set_option maxHeartbeats 4000000 in
theorem pl_some (ad : Addr) (ss : List ByteArray) (n cap : Nat) (w : World) (HN : Hid (ss.length = n)) (HL : Hid (Lines w ad ss)) (hb : n ≤ 65536) (hsum : Hid (n + Pl.sumL (lists ss) ≤ 1048576))
    (HA : ∀ j, j < ss.length → (ad.add j).block < w.heap.size)
    (c18 : Calls Try.prog 18 #[.slice (some ad) n cap] w fun e w' => e = .returned (.bool true) ∧ w = w')
    (NW : Nat) (hNW : NW = n + 1) (f : Nat → Nat) (hf : Hid (∀ j, (0 :: Pl.ends 0 (lists ss)).getD j 0 = f j))
    (c16 : Hid ((∀ l ∈ lists ss, Pl.plainB false l = true) → ∀ w, Calls Try.prog 16 #[.string ⟨(Pl.docL (lists ss)).toArray⟩] w fun e w' => ∃ g cap, e = .returned (.slice (some ⟨g, 0, none⟩) NW cap) ∧ Got w w' g NW cap f)) :
    Calls Try.prog 8 #[.slice (some ad) n cap] w fun e w' => e = .returned (.bool true) ∧ Below w.heap.size w w' := by
  have HA' : Hid (∀ j, j < ss.length → (ad.add j).block < w.heap.size) := HA
  clear HA
  go_enter Try.func8, Try.ntmps8
  go_wp2_with (go_at_call 18; refine c18.mono ?_; rintro e w' ⟨rfl, rfl⟩)
  clear c18
  -- the total
  go_loop [3, 4] (fun z i => ∃ k : Nat, k ≤ n ∧ i = .int .i64 k ∧ z = .int .i64 (((16 * n + Pl.sumL ((lists ss).take k) : Nat)) : Int) ∧ 16 * n + Pl.sumL ((lists ss).take k) ≤ 1048576) (fun _ i => n - (intOf i).toNat)
  case atStart => exact ⟨0, Nat.zero_le _, rfl, by simp [Pl.sumL], by simp [Pl.sumL]; omega⟩
  case round =>
    obtain ⟨k, hk, rfl, rfl, hs⟩ := hrel
    by_cases hlt : k < n
    · have hk' : k < ss.length := by rw [HN.out]; exact hlt
      have hc := HL.out k hk'
      have HS : Hid _ := sum_step ss k hk'
      have hm := Pl.sumL_take (lists ss) (k + 1)
      rw [HS.out] at hm
      obtain ⟨S, hSS⟩ : ∃ S, ss.getD k ByteArray.empty = S := ⟨_, rfl⟩
      rw [hSS] at hc HS hm
      obtain ⟨A, hA⟩ : ∃ A, Pl.sumL ((lists ss).take k) = A := ⟨_, rfl⟩
      rw [hA] at hs HS hm ⊢
      have hm2 : A + S.size ≤ 1048576 := by have := hsum.out; omega
      clear hSS hA hk' hm
      have q := run_at32 ad n cap (k : Int) k rfl hlt
      by_cases hb2 : 16 * n + A + S.size ≤ 1048576
      · go_wp2
        go_round
        case rel => exact ⟨k + 1, by omega, by go_num, by rw [HS.out]; go_num, by rw [HS.out]; omega⟩
        case measure => simp [intOf]; omega
      · go_wp2
        go_ret
        exact ⟨rfl, Below.refl _ _⟩
    · rw [List.take_of_length_le (by unfold lists; rw [List.length_map, HN.out]; omega)] at hs ⊢
      obtain ⟨T, hT⟩ : ∃ T, 16 * n + Pl.sumL (lists ss) = T := ⟨_, rfl⟩
      rw [hT] at hs ⊢
      have HT : Hid (16 * n + Pl.sumL (lists ss) = T) := hT
      clear hT
      go_wp2
      -- every line plain?
      go_loop [5] (fun i => ∃ k : Nat, k ≤ n ∧ i = .int .i64 k ∧ Hid (∀ j, j < k → Pl.plainB false (ss.getD j ByteArray.empty).data.toList = true)) (fun i => n - (intOf i).toNat)
      case atStart => exact ⟨0, Nat.zero_le _, rfl, fun j hj => by omega⟩
      case round =>
        clear hk hlt
        obtain ⟨k, hk, rfl, hpl⟩ := hrel
        by_cases hlt : k < n
        · have hk' : k < ss.length := by rw [HN.out]; exact hlt
          have hc := HL.out k hk'
          have hm := Pl.sumL_take (lists ss) (k + 1)
          rw [sum_step ss k hk'] at hm
          have HP1 : Hid (Pl.plainB false (ss.getD k ByteArray.empty).data.toList = true → ∀ j, j < k + 1 → Pl.plainB false (ss.getD j ByteArray.empty).data.toList = true) := by
            intro h j hj
            by_cases e : j = k
            · rw [e]; exact h
            · exact hpl.out j (by omega)
          obtain ⟨S, hSS⟩ : ∃ S, ss.getD k ByteArray.empty = S := ⟨_, rfl⟩
          rw [hSS] at hc hm HP1
          have c19 := plainLine_any S w (by have := hsum.out; omega)
          clear hSS hk' hm hpl
          have q := run_at32 ad n cap (k : Int) k rfl hlt
          cases hB : Pl.plainB false S.data.toList with
          | true =>
            rw [hB] at c19
            have HP2 : Hid _ := HP1.out hB
            clear hB HP1
            go_wp2_with (go_at_call 19; refine c19.mono ?_; rintro e w' ⟨rfl, rfl⟩)
            go_round
            case rel => exact ⟨k + 1, by omega, by go_num, HP2⟩
            case measure => simp [intOf]; omega
          | false =>
            rw [hB] at c19
            clear hB HP1
            go_wp2_with (go_at_call 19; refine c19.mono ?_; rintro e w' ⟨rfl, rfl⟩)
            go_ret
            exact ⟨rfl, Below.refl _ _⟩
        · have C16 := c16.out (by
            intro l hl
            unfold lists at hl
            rw [List.mem_map] at hl
            obtain ⟨x, hx, rfl⟩ := hl
            obtain ⟨j, hj, rfl⟩ := List.getElem_of_mem hx
            have := hpl.out j (by rw [HN.out] at hj; omega)
            rw [List.getD_eq_getElem?_getD, List.getElem?_eq_getElem hj] at this
            exact this)
          clear hpl c16
          go_wp2_with (at_make; refine wpList_mkS _ rfl _ _ rfl n rfl rfl (by omega) ?_; intro w1 xs hX hG)
          -- the copy
          go_loopw [7] (fun i wr => ∃ (k : Nat) (xs : List Value), k ≤ n ∧ i = .int .i64 k ∧ Strs wr w.heap.size n xs ∧ Hid (∀ j, j < k → xs[j]? = some (.string (ss.getD j ByteArray.empty))) ∧ Below w.heap.size w wr) (fun i _ => n - (intOf i).toNat)
          case atStart => exact ⟨0, xs, Nat.zero_le _, rfl, hX, fun j hj => by omega, bel_mk hG⟩
          case round =>
            clear hk hlt hX hG
            obtain ⟨k, xs, hk, rfl, hX, hxs, hbel⟩ := hrel
            by_cases hlt : k < n
            · have hk' : k < ss.length := by rw [HN.out]; exact hlt
              have hc : wr.cell? (ad.add k) = some (.string (ss.getD k ByteArray.empty)) := (hbel.cell (p := ad.add k) (HA'.out k hk')).trans (HL.out k hk')
              have hxk : k < xs.length := by rw [hX.len]; exact hlt
              have hold := hX.cell k hlt
              rw [List.getElem?_eq_getElem hxk] at hold
              have hfree := hX.free k
              have HX2 : Hid _ := (World.ownsRow.stored hX k (.string (ss.getD k ByteArray.empty))).1
              have HX3 : Hid _ := take_cell xs ss k hxk hxs.out
              obtain ⟨S, hSS⟩ : ∃ S, ss.getD k ByteArray.empty = S := ⟨_, rfl⟩
              rw [hSS] at hc HX2 HX3
              obtain ⟨old, hol⟩ : ∃ o, xs[k] = o := ⟨_, rfl⟩
              rw [hol] at hold
              clear hSS hk' hol hxs
              have q := run_at32 ad n cap (k : Int) k rfl hlt
              have q2 := run_at32' w.heap.size n n (k : Int) k rfl hlt
              go_wp2
              go_roundw
              case rel => exact ⟨k + 1, _, by omega, by go_num, HX2, HX3, hbel.setCell (Nat.le_refl _) _⟩
              case measure => simp [intOf]; omega
            · rename World => wC
              have hCl := hX.lt
              have HCc : Hid (∀ j, j < n → wC.cell? ⟨w.heap.size, j, none⟩ = some (.string (ss.getD j ByteArray.empty))) := fun j hj => (hX.cell j hj).trans (hxs.out j (by omega))
              clear hX hxs
              go_wp2_with (first | (at_make; refine wpList_mk _ rfl _ (.tmp 68) rfl _ T rfl rfl (by omega) (by omega) ?_; intro w1 hD1 hG1) | (at_make; refine wpList_mkI _ rfl _ (.tmp 72) rfl _ (n + 1) rfl rfl (by omega) (by omega) ?_; intro w2 hI2 hG2) | (at_builtin; refine wpList_nat _ rfl (.tmp 74) (.tmp 75) rfl w1.heap.size _ [] 0 rfl (hI2.alloc _) ⟨w2.heap.size, 0, none⟩ rfl (by simp) (by simp) (by have := hG2.size; simp; omega) ?_; intro v3 w3 hI3 hb3))
              have hDW := hD1.lt.2
              have hD3 : Buf w3 wC.heap.size wC.heap.size T [] := hD1.below (((bel_mk hG2).alloc hG2.size _).trans hb3) hDW
              have hs3 : w1.heap.size ≤ w3.heap.size := (((bel_mk hG2).alloc hG2.size _).trans hb3).size
              have hbd3 : Below wC.heap.size wC w3 := (bel_mk hG1).trans ((((bel_mk hG2).alloc hG2.size _).trans hb3).mono hG1.size)
              have hT16 : 16 * n ≤ T := by have := HT.out; omega
              clear hD1 hG1 hI2 hG2 hb3
              go_loopw [8, 9, 10] (fun d v i wr => ∃ k : Nat, k ≤ n ∧ i = .int .i64 k ∧ d = .slice (some ⟨wC.heap.size, 0, none⟩) (Pl.docL ((lists ss).take k)).length T ∧ Buf wr wC.heap.size wC.heap.size T (Pl.docL ((lists ss).take k)) ∧ Ints wr w1.heap.size v (0 :: Pl.ends 0 ((lists ss).take k)) ∧ Below wC.heap.size wC wr ∧ w1.heap.size ≤ wr.heap.size) (fun _ _ i _ => n - (intOf i).toNat)
              case atStart => exact ⟨0, Nat.zero_le _, rfl, rfl, hD3, hI3, hbd3, hs3⟩
              case round =>
                clear hk hlt hD3 hI3 hbd3 hs3
                obtain ⟨k, hk, rfl, rfl, hB, hI, hbd, hsz⟩ := hrel
                by_cases hlt : k < n
                · have hk' : k < ss.length := by rw [HN.out]; exact hlt
                  have hc : wr.cell? ⟨w.heap.size, k, none⟩ = some (.string (ss.getD k ByteArray.empty)) := (hbd.cell (p := ⟨w.heap.size, k, none⟩) hCl).trans (HCc.out k hlt)
                  have HD2 : Hid _ := doc_step ss k hk'
                  have HL2 : Hid _ := ends_step ss k hk'
                  have hroom := doc_room ss k n T HN.out hlt HT.out
                  have hll : (0 :: Pl.ends 0 ((lists ss).take k)).length ≤ k + 1 := by
                    rw [List.length_cons, Pl.ends_length]
                    have : ((lists ss).take k).length ≤ k := List.length_take_le _ _
                    omega
                  obtain ⟨S, hSS⟩ : ∃ S, ss.getD k ByteArray.empty = S := ⟨_, rfl⟩
                  rw [hSS] at hc HD2 HL2 hroom
                  obtain ⟨D, hDD⟩ : ∃ D, Pl.docL ((lists ss).take k) = D := ⟨_, rfl⟩
                  rw [hDD] at HD2 HL2 hroom hB ⊢
                  obtain ⟨L, hLL⟩ : ∃ L, 0 :: Pl.ends 0 ((lists ss).take k) = L := ⟨_, rfl⟩
                  rw [hLL] at HL2 hll hI
                  clear hSS hDD hLL hk'
                  have q := run_at32' w.heap.size n n (k : Int) k rfl hlt
                  go_wp2_with (first | (at_builtin; refine wpList_str _ rfl (.tmp 83) (.tmp 87) rfl wC.heap.size wC.heap.size T D S _ rfl rfl hB rfl (by omega) (by omega) ?_; intro w4 hB4 hG4) | (at_builtin; refine wpList_byte _ rfl (.tmp 89) (.tmp 90) rfl wC.heap.size wC.heap.size T (D ++ S.data.toList) 10 _ rfl (app_len rfl S) (hB4.alloc _) ⟨w4.heap.size, 0, none⟩ rfl (by simp) (by omega) ?_; intro w5 hB5 hG5) | (at_builtin; refine wpList_nat _ rfl (.tmp 92) (.tmp 95) rfl w1.heap.size _ L (D.length + S.size + 1) rfl ((((hI.kept hG4 hDW).alloc _).kept hG5 hDW).alloc _) ⟨w5.heap.size, 0, none⟩ rfl (by simp) (by omega) (by have a4 := hG4.size; have a5 := hG5.size; simp only [World.size_alloc] at a5 ⊢; omega) ?_; intro v6 w6 hI6 hb6))
                  have ch := chain4 hbd hbd.size hG4 hG5 hb6 (Nat.le_of_lt hDW)
                  go_roundw
                  case rel => exact ⟨k + 1, by omega, by go_num, by rw [HD2.out, List.length_append, List.length_append]; rfl, by rw [HD2.out]; exact (hB5.alloc _).below hb6 hDW, by rw [HL2.out]; exact hI6, ch.1, by have := ch.2; omega⟩
                  case measure => simp [intOf]; omega
                · rw [List.take_of_length_le (by unfold lists; rw [List.length_map, HN.out]; omega)] at hB hI ⊢
                  have hNL : (0 :: Pl.ends 0 (lists ss)).length = NW := by
                    rw [List.length_cons, Pl.ends_length]
                    unfold lists
                    rw [List.length_map, HN.out, hNW]
                  obtain ⟨gw, cw, rfl, hw1, hw2, hw3, hw4, hw5⟩ := hI.read (by rw [hNL]; omega)
                  rw [hNL] at hw3 hw5 ⊢
                  have HW : Hid (∀ j, j < NW → wr.cell? ⟨gw, j, none⟩ = some (.int .i64 ((f j : Nat) : Int))) := fun j hj => by rw [hw5 j hj, hf.out]
                  have kc := run_back wr _ _ _ (Pl.docL (lists ss)) _ rfl hB
                  obtain ⟨DD, hDD⟩ : ∃ DD, Pl.docL (lists ss) = DD := ⟨_, rfl⟩
                  rw [hDD] at kc C16 ⊢
                  have HBel : Hid (Below w.heap.size w wr) := hbel.trans (hbd.mono hbel.size)
                  have hNW2 : NW ≤ 65537 := by omega
                  clear hNL hw5 hI hB hDD hbd hbel hNW
                  go_wp2_with (go_at_call 16; refine (C16 _).mono ?_; rintro e w7 ⟨g7, c7, rfl, hF7⟩)
                  have b7 := hF7.2.2.2.2.2
                  have HG : Hid (∀ j, j < NW → w7.cell? ⟨g7, j, none⟩ = some (.int .i64 ((f j : Nat) : Int))) := hF7.2.2.2.2.1
                  have HW7 : Hid (∀ j, j < NW → w7.cell? ⟨gw, j, none⟩ = some (.int .i64 ((f j : Nat) : Int))) := fun j hj => (b7.cell (p := ⟨gw, j, none⟩) hw2).trans (HW.out j hj)
                  have HB7 : Hid (Below w.heap.size w w7) := HBel.out.trans (b7.mono HBel.out.size)
                  clear b7 hF7 HW HBel kc C16
                  go_loopw [12] (fun i wr => ∃ j nq : Nat, j ≤ NW ∧ i = .int .i64 (j : Int) ∧ wr = w7.drewN nq) (fun i _ => NW - (intOf i).toNat)
                  case atStart => exact ⟨0, 0, Nat.zero_le _, rfl, rfl⟩
                  case round =>
                    obtain ⟨j, nq, hj, rfl, rfl⟩ := hrel
                    by_cases hjn : j < NW
                    · have x1 := HG.out j hjn
                      have x2 := HW7.out j hjn
                      have q1 := run_at29 g7 NW c7 (j : Int) j rfl hjn
                      have q2 := run_at29 gw NW cw (j : Int) j rfl hjn
                      go_wp2
                      go_quiet (fail)
                      go_wp2
                      go_roundw
                      case rel => exact ⟨j + 1, _, by omega, by go_num, rfl⟩
                      case measure => simp [intOf]; omega
                    · go_wp2
                      go_ret
                      exact ⟨rfl, HB7.out.trans ⟨rfl, rfl, rfl, Nat.le_refl _, fun _ _ => rfl⟩⟩

theorem bytes18_nil (w : World) : Calls Try.prog 18 #[.slice none 0 0] w fun e w' => e = .returned (.bool true) ∧ w = w' := by
  go_enter Try.func18, Try.ntmps18
  go_wp2
  go_loop [3, 4] (fun z i => z = .int .i64 0 ∧ i = .int .i64 0) (fun _ _ => 0)
  case atStart => exact ⟨rfl, rfl⟩
  case round =>
    obtain ⟨rfl, rfl⟩ := hrel
    go_wp2
    go_ret
    exact ⟨rfl, rfl⟩

set_option maxRecDepth 100000 in
set_option maxHeartbeats 4000000 in
theorem pl_nil (w : World)
    (c16 : ∀ w, Calls Try.prog 16 #[.string ⟨([] : List UInt8).toArray⟩] w fun e w' => ∃ g cap, e = .returned (.slice (some ⟨g, 0, none⟩) 1 cap) ∧ Got w w' g 1 cap (fun _ => 0)) :
    Calls Try.prog 8 #[.slice none 0 0] w fun e w' => e = .returned (.bool true) ∧ Below w.heap.size w w' := by
  have c18 := bytes18_nil w
  obtain ⟨DD, hDD⟩ : ∃ DD : List UInt8, [] = DD := ⟨_, rfl⟩
  have HDD : Hid (DD.length = 0) := by rw [← hDD]; rfl
  have HD1 : Hid ([] = DD) := hDD
  rw [hDD] at c16
  clear hDD
  go_enter Try.func8, Try.ntmps8
  go_wp2_with (go_at_call 18; refine c18.mono ?_; rintro e w' ⟨rfl, rfl⟩)
  clear c18
  go_loop [3, 4] (fun z i => z = .int .i64 0 ∧ i = .int .i64 0) (fun _ _ => 0)
  case atStart => exact ⟨rfl, rfl⟩
  case round =>
    obtain ⟨rfl, rfl⟩ := hrel
    go_wp2
    go_loop [5] (fun i => i = .int .i64 0) (fun _ => 0)
    case atStart => exact rfl
    case round =>
      obtain rfl := hrel
      go_wp2_with (first | (at_make; refine wpList_mk _ rfl _ (.tmp 68) rfl _ 0 rfl rfl (by omega) (by omega) ?_; intro w1 hD1 hG1) | (at_make; refine wpList_mkI _ rfl _ (.tmp 72) rfl _ 1 rfl rfl (by omega) (by omega) ?_; intro w2 hI2 hG2) | (at_builtin; refine wpList_nat _ rfl (.tmp 74) (.tmp 75) rfl w1.heap.size _ [] 0 rfl (hI2.alloc _) ⟨w2.heap.size, 0, none⟩ rfl (by simp) (by simp) (by have := hG2.size; simp; omega) ?_; intro v3 w3 hI3 hb3))
      have hD3 : Buf w3 w.heap.size w.heap.size 0 DD := by
        rw [← HD1.out]
        exact hD1.below (((bel_mk hG2).alloc hG2.size _).trans hb3) hD1.lt.2
      have hbel : Below w.heap.size w w3 := (bel_mk hG1).trans ((((bel_mk hG2).alloc hG2.size _).trans hb3).mono hG1.size)
      clear hD1 hG1 hI2 hG2 hb3
      go_loop [8, 9, 10] (fun d v i => d = .slice (some ⟨w.heap.size, 0, none⟩) 0 0 ∧ v = v3 ∧ i = .int .i64 0) (fun _ _ _ => 0)
      case atStart => exact ⟨rfl, rfl, rfl⟩
      case round =>
        obtain ⟨rfl, rfl, rfl⟩ := hrel
        obtain ⟨gw, cw, rfl, hw1, hw2, hw3, hw4, hw5⟩ := hI3.read (by simp)
        have hc1 : w3.cell? ⟨gw, 0, none⟩ = some (.int .i64 0) := hw5 0 (by simp)
        have kc := run_back w3 _ _ _ DD 0 HDD.out.symm hD3
        clear hI3 hD3 hw5
        go_wp2_with (go_at_call 16; refine (c16 _).mono ?_; rintro e w7 ⟨g7, c7, rfl, hF7⟩)
        have b7 := hF7.2.2.2.2.2
        have x1 : w7.cell? ⟨g7, 0, none⟩ = some (.int .i64 0) := hF7.2.2.2.2.1 0 (by omega)
        have x2 : w7.cell? ⟨gw, 0, none⟩ = some (.int .i64 0) := (b7.cell (p := ⟨gw, 0, none⟩) hw2).trans hc1
        have HB7 : Hid (Below w.heap.size w w7) := hbel.trans (b7.mono hbel.size)
        clear b7 hF7 hbel kc c16 hc1
        go_loopw [12] (fun i wr => ∃ j nq : Nat, j ≤ 1 ∧ i = .int .i64 (j : Int) ∧ wr = w7.drewN nq) (fun i _ => 1 - (intOf i).toNat)
        case atStart => exact ⟨0, 0, Nat.zero_le _, rfl, rfl⟩
        case round =>
          obtain ⟨j, nq, hj, rfl, rfl⟩ := hrel
          by_cases hjn : j < 1
          · have ej : j = 0 := by omega
            subst ej
            have q1 := run_at29 g7 1 c7 0 0 rfl (by omega)
            have q2 := run_at29 gw 1 cw 0 0 rfl (by omega)
            go_wp2
            go_quiet (fail)
            go_wp2
            go_roundw
            case rel => exact ⟨1, _, by omega, by go_num, rfl⟩
            case measure => simp [intOf]
          · have ej : j = 1 := by omega
            subst ej
            go_wp2
            go_ret
            exact ⟨rfl, HB7.out.trans ⟨rfl, rfl, rfl, Nat.le_refl _, fun _ _ => rfl⟩⟩

/-- ZZStatementStarts at a text that was built out of the bytes D. -/
theorem got16 (D : List UInt8) (w : World) (hs : D.length ≤ 2097152) (N : Nat) (f : Nat → Nat) (hN : (Pl.starts (Pl.btl D) D.length).length = N) (hf : ∀ j, (Pl.starts (Pl.btl D) D.length).getD j 0 = f j) :
    Calls Try.prog 16 #[.string ⟨D.toArray⟩] w fun e w' => ∃ g cap, e = .returned (.slice (some ⟨g, 0, none⟩) N cap) ∧ Got w w' g N cap f := by
  have e1 : (⟨D.toArray⟩ : ByteArray).size = D.length := List.size_toArray
  have e2 : bt ⟨D.toArray⟩ = Pl.btl D := rfl
  refine (ZZStarts_fn ⟨D.toArray⟩ w (by rw [e1]; exact hs) N f (by rw [e1, e2]; exact hN) (by rw [e1, e2]; exact hf)).mono ?_
  rintro e w' ⟨g, cap, rfl, h1, h2, h3, h4, h5, h6⟩
  exact ⟨g, cap, rfl, h1, h2, h3, h4, h5, h6⟩

/-- WHAT THE WALK IS TOLD OF THE LINES THAT CAME IN: nil; or a row of strings from an address on. -/
def IsLines (w : World) (a : Option Addr) (len cap : Nat) (ss : List ByteArray) : Prop :=
  (a = none ∧ len = 0 ∧ cap = 0) ∨ ∃ x, a = some x ∧ len ≤ cap ∧ cap ≤ maxLen ∧ ss.length = len ∧ Lines w x ss ∧ ∀ s ∈ ss, s.size ≤ maxLen

set_option maxRecDepth 100000 in
set_option maxHeartbeats 1000000 in
theorem pl_walk (a : Option Addr) (len cap : Nat) (ss : List ByteArray) (w : World) (h : IsLines w a len cap ss) :
    Calls Try.prog 8 #[.slice a len cap] w fun e w' => e = .returned (.bool true) ∧ Below w.heap.size w w' := by
  rcases h with ⟨rfl, rfl, rfl⟩ | ⟨ad, rfl, hlc, hcm, hn, hL, hsz⟩
  · refine pl_nil w (fun w => got16 [] w (by simp) 1 (fun _ => 0) rfl (fun j => ?_))
    cases j with
    | zero => rfl
    | succ j => rfl
  · by_cases hs : len + Pl.sumL (lists ss) ≤ 1048576
    · have c18 := bytes18_yes ad ss len cap w hn (by omega) hL hsz hs
      by_cases hb : len ≤ 65536
      · refine pl_some ad ss len cap w hn hL hb hs (fun j hj => World.block_lt_of_cell? w _ (hL j hj)) c18 (len + 1) rfl (fun j => (0 :: Pl.ends 0 (lists ss)).getD j 0) (fun _ => rfl) (fun hp w => ?_)
        have law := Pl.plain_law (lists ss) hp
        have hl := Pl.docL_length (lists ss)
        have hll : (lists ss).length = len := by unfold lists; rw [List.length_map]; exact hn
        exact got16 _ w (by omega) _ _ (by rw [law, List.length_cons, Pl.ends_length, hll]) (fun j => by rw [law])
      · go_enter Try.func8, Try.ntmps8
        go_wp2_with (go_at_call 18; refine c18.mono ?_; rintro e w' ⟨rfl, rfl⟩)
        go_ret
        exact ⟨rfl, Below.refl _ _⟩
    · have c18 := bytes18_no ad ss len cap w hn (by omega) hL hsz hs
      go_enter Try.func8, Try.ntmps8
      go_wp2_with (go_at_call 18; refine c18.mono ?_; rintro e w' ⟨rfl, rfl⟩)
      go_ret
      exact ⟨rfl, Below.refl _ _⟩
end Go.Proofs.Qxb6001362a
