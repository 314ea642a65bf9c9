/-
  THE WALK of FnCloneBoundsShareNothing (function 7).
-/
import Derived.Test.Qxb6600979aCopWalk
import Derived.ArgAppend
namespace Go.Proofs.Qxb6600979a
open Go.RowKit

/-- What an append that had to grow hands back. -/
def Grew (w w' : World) (g c n : Nat) (zs : List Int) (z : Int) : Prop :=
  w.heap.size ≤ g ∧ g < w'.heap.size ∧ n + 1 ≤ c ∧ c ≤ maxLen ∧ Src w' (some ⟨g, 0, none⟩) (n + 1) c (zs ++ [z]) ∧ Below w.heap.size w w'

/-- 'append(b, z)', b full: it grows. -/
theorem wpList_grow1 (w : World) {ops : Array Oper} {rest : List Oper} {o : Oper} {a : Act} {Q : Exit → Act → World → Prop}
    (hg : o.guard = none) (s x : Operand) (hop : o.op = Op.call { callee := Callee.builtin Builtin.append, args := #[s, x], argTypes := #[29, 29] })
    (ao : Option Addr) (n : Nat) (zs : List Int) (hs : a.eval s = .slice ao n n) (hsrc : Src w ao n n zs) (hn : n ≤ 1048576)
    (ad : Addr) (z : Int) (hx : a.eval x = .slice (some ad) 1 1) (hc : w.cell? ad = some (.int .u8 z))
    (hK : ∀ g c w', Grew w w' g c n zs z → wpList Try.prog ops Q rest (a.put o.dst (.slice (some ⟨g, 0, none⟩) (n + 1) c)) w') :
    wpList Try.prog ops Q (o :: rest) a w := by
  obtain ⟨i0, hi, hz0, hz1, hz2⟩ := info_parts info5
  obtain ⟨h1, h2, h3⟩ := hsrc
  refine wpList_append_grows w hg s x 29 hop 5 i0 (.int .u8 0) 1 1 Try.underlying29 hi hz0 hz1 hz2 rfl (by decide) ao n n (zs.map (Value.int .u8)) hs h2 (by rw [List.length_map]; omega) ?_ ad 1 1 [.int .u8 z] hx rfl ?_ ?_ (by omega) (by unfold maxLen; omega) (by omega) ?_
  · intro b e j u hj
    have hj' : j < zs.length := by
      have := (List.getElem?_eq_some_iff.1 hj).1
      rwa [List.length_map] at this
    rw [List.getElem?_map, List.getElem?_eq_getElem hj'] at hj
    simp only [Option.map_some, Option.some.injEq] at hj
    subst hj
    rw [h3 b e j (by omega), List.getD_eq_getElem?_getD, List.getElem?_eq_getElem hj']
    rfl
  · intro j u hj
    match j, hj with
    | 0, hj =>
      simp only [List.getElem?_cons_zero, Option.some.injEq] at hj
      subst hj
      rw [Addr.add_zero']
      exact hc
  · intro u hu
    simp only [List.mem_singleton] at hu
    subst hu
    rfl
  · intro v' w' hown hgr
    rcases hown.2 with ⟨_, h0⟩ | ⟨g, c, cur, hv, hg1, hh, hc1, hc2, r⟩
    · omega
    · subst hv
      have hlt := (World.ownsRow.lt hown g rfl).2
      refine hK g c w' ⟨hg1, hlt, hc1, hc2, ⟨by simp [h1], (fun e => by cases e), fun ad' e j hj => ?_⟩, bel_mk hgr⟩
      cases e
      rw [Addr.add_lit, Nat.zero_add, World.ownsRow.cellAt hown j (by omega), show zs.map (Value.int .u8) ++ [.int .u8 z] = (zs ++ [z]).map (Value.int .u8) from by simp]
      have hj' : j < (zs ++ [z]).length := by simp [h1]; omega
      rw [List.getElem?_map, List.getElem?_eq_getElem hj', List.getD_eq_getElem?_getD, List.getElem?_eq_getElem hj']
      rfl

theorem Grew.last {w w' : World} {g c n : Nat} {zs : List Int} {z : Int} (h : Grew w w' g c n zs z) (hz : zs.length = n) : w'.cell? ⟨g, n, none⟩ = some (.int .u8 z) := by
  have := h.2.2.2.2.1.2.2 _ rfl n (by omega)
  rw [Addr.add_lit, Nat.zero_add] at this
  rw [this, List.getD_eq_getElem?_getD, List.getElem?_append_right (by omega), hz, Nat.sub_self]
  rfl

/-- Its first n elements are the old ones. -/
theorem Grew.old {w w' : World} {g c n : Nat} {zs : List Int} {z : Int} (h : Grew w w' g c n zs z) (hz : zs.length = n) : Src w' (some ⟨g, 0, none⟩) n c zs := by
  refine ⟨hz, (fun e => by cases e), fun ad e j hj => ?_⟩
  rw [h.2.2.2.2.1.2.2 ad e j (by omega), List.getD_eq_getElem?_getD, List.getElem?_append_left (by omega), List.getD_eq_getElem?_getD]

theorem belAD (w : World) (o : Obj) (k : Nat) : Below w.heap.size w ((w.alloc o).drewN k) := onto (bel1 w o) (below_dr _ k)

theorem same_bel (ao bo : Option Addr) (n c c' : Nat) (zs : List Int) (w : World) (h : Src w ao n c zs) (h' : Src w bo n c' zs) (hn : n ≤ 1048577) :
    Calls Try.prog 23 #[.slice ao n c, .slice bo n c'] w fun e w' => e = .returned (.bool true) ∧ Below w.heap.size w w' := by
  refine (same_any ao bo n c c' zs w h h' hn).mono ?_
  rintro e w' ⟨rfl, k, rfl⟩
  exact ⟨rfl, below_dr w k⟩

theorem cell_on {w w' : World} {p : Addr} {v : Value} (hb : Below w.heap.size w w') (h : w.cell? p = some v) : w'.cell? p = some v := by
  rw [hb.cell (World.block_lt_of_cell? w p h)]
  exact h

theorem run_at29o (g off N cap : Nat) (i : Int) (k : Nat) (hi : i = k) (hk : k < N) (wx : World) : (Instr.indexAt 29 (.slice (some ⟨g, off, none⟩) N cap) (.int .i64 i)).run Try.prog wx = .ok (.pointer (some ⟨g, off + k, none⟩)) wx := by
  rw [run_at29 ⟨g, off, none⟩ N cap i k hi hk, Addr.add_lit]

/-- The slice lies below block g. -/
def Lo (ao : Option Addr) (g : Nat) : Prop := ∀ ad, ao = some ad → ad.block < g

theorem Dup.lo {w w' : World} {ao : Option Addr} {n g : Nat} {zs : List Int} (h : Dup w w' ao n zs) (hle : w'.heap.size ≤ g) : Lo ao g := by
  intro ad e
  rcases h with ⟨rfl, _⟩ | ⟨g', rfl, _, h2, _⟩
  · cases e
  · cases e
    show g' < g
    omega

theorem Src.keep {w w' : World} {ao : Option Addr} {n c g : Nat} {zs : List Int} (h : Src w ao n c zs) (hb : Below g w w') (hl : Lo ao g) : Src w' ao n c zs := by
  refine ⟨h.1, h.2.1, fun ad e j hj => ?_⟩
  rw [hb.cell (p := ad.add j) (by rw [show (ad.add j).block = ad.block from by unfold Addr.add; split <;> rfl]; exact hl ad e)]
  exact h.2.2 ad e j hj

/-- All that is known once the clone is made. -/
structure Made (w w8 : World) (d0 d1 x0 x1 bo : Option Addr) (g n0 n1 : Nat) (zs ys : List Int) : Prop where
  sd0 : Src w8 d0 n0 n0 zs
  sd1 : Src w8 d1 n1 n1 ys
  sx0 : Src w8 x0 n0 n0 zs
  sx1 : Src w8 x1 n1 n1 ys
  scf : Src w8 (some ⟨g, 0, none⟩) n0 n0 zs
  sct : Src w8 bo n1 n1 ys
  ld0 : Lo d0 g
  ld1 : Lo d1 g
  lx0 : Lo x0 g
  lx1 : Lo x1 g
  row : Row w8 g g (n0 + n1) (zs ++ ys)
  base : w.heap.size ≤ g
  there : ∀ ad, bo = some ad → ad = if n1 = 0 then ⟨g, 0, none⟩ else ⟨g, n0, none⟩
  bel : Below w.heap.size w w8

set_option maxRecDepth 100000 in
set_option maxHeartbeats 2000000 in
theorem sh_main (a0 : Option Addr) (n0 c0 : Nat) (zs : List Int) (a1 : Option Addr) (n1 c1 : Nat) (ys : List Int) (w : World) (h0 : Src w a0 n0 c0 zs) (h1 : Src w a1 n1 c1 ys) (hn : n0 + n1 ≤ 1048576) :
    Calls Try.prog 7 #[.slice a0 n0 c0, .slice a1 n1 c1] w fun e w' => e = .returned (.bool true) ∧ Below w.heap.size w w' := by
  have h27 := bytes27_yes a0 a1 n0 c0 n1 c1 w hn
  have HZ : Hid (zs.length = n0) := h0.1
  have HY : Hid (ys.length = n1) := h1.1
  go_enter Try.func7, Try.ntmps7
  go_upto_region 12 with (first | (go_at_call 27; refine h27.mono ?_; rintro e w' ⟨rfl, rfl⟩) | (go_at_call_of 20 (Value.slice a0 n0 c0); refine (dup_any a0 n0 c0 zs _ h0 (by omega)).mono ?_; rintro e w1 ⟨d0, rfl, hd0, hD0, hb1⟩) | (go_at_call_of 20 (Value.slice a1 n1 c1); refine (dup_any a1 n1 c1 ys _ (h1.below hb1) (by omega)).mono ?_; rintro e w2 ⟨d1, rfl, hd1, hD1, hb2⟩) | (go_at_call_of 20 (Value.slice d0 n0 n0); refine (dup_any d0 n0 n0 zs _ (hD0.src.below hb2) (by omega)).mono ?_; rintro e w3 ⟨x0, rfl, hx0, hX0, hb3⟩) | (go_at_call_of 20 (Value.slice d1 n1 n1); refine (dup_any d1 n1 n1 ys _ (hD1.src.below hb3) (by omega)).mono ?_; rintro e w4 ⟨x1, rfl, hx1, hX1, hb4⟩) | (go_at_call 26; refine (mkr_any _ _ _ _ _ _ _).mono ?_; rintro e w5 ⟨rfl, hb5⟩) | (go_at_call 25; refine (ZZclone_any d0 d1 n0 n0 n1 n1 zs ys _ ((((hD0.src.below hb2).below hb3).below hb4).below hb5) (((hD1.src.below hb3).below hb4).below hb5) hn).mono ?_; rintro e w6 ⟨g, bo, rfl, hbo, hC⟩) | (go_at_call 14; refine (from_any _ _ _ _ _ _ _).mono ?_; rintro e w7 ⟨rfl, hb7⟩; obtain ⟨p0, p1⟩ := box_cells w6 w7 _ _ hb7) | (go_at_call 15; refine (to_any _ _ _ _ _ _ _).mono ?_; rintro e w8 ⟨rfl, hb8⟩))
  have M : Hid (Made w w8 d0 d1 x0 x1 bo g n0 n1 zs ys) := by
    have B6 := hC.2.2.2.2.2
    have B68 := onto (onto (bel1 w6 _) hb7) hb8
    have z2 := hb2.size
    have z3 := hb3.size
    have z4 := hb4.size
    have z5 := hb5.size
    have zg := hC.1
    refine ⟨((((((hD0.src.below hb2).below hb3).below hb4).below hb5).below B6).below B68), (((((hD1.src.below hb3).below hb4).below hb5).below B6).below B68), ((((hX0.src.below hb4).below hb5).below B6).below B68), (((hX1.src.below hb5).below B6).below B68), (hC.from HZ.out HY.out).below B68, (hC.to HZ.out HY.out).below B68, hD0.lo (by omega), hD1.lo (by omega), hX0.lo (by omega), hX1.lo (by omega), hC.2.2.2.2.1.below B68 hC.2.1, ?_, hC.2.2.1, onto (onto (onto (onto (onto (onto (onto hb1 hb2) hb3) hb4) hb5) B6) B68) (Below.refl _ _)⟩
    have z1 := hb1.size
    omega
  clear hD0 hD1 hX0 hX1 hC hb1 hb2 hb3 hb4 hb5 hb7 hb8 p0 p1 h27 h0 h1
  have e1 := fun bo => is_nil bo n1 n1
  have hx1' : x1.isNone = bo.isNone := by rw [hx1, hbo]
  have hd1' : d1.isNone = bo.isNone := by rw [hbo]
  clear hd0 hd1 hx0 hx1 hbo
  go_wp2_with (first | (at_builtin; refine wpList_grow1 _ rfl (.tmp 50) (.tmp 51) rfl (some ⟨g, 0, none⟩) n0 zs rfl (M.out.scf.below (bel1 w8 _)) (by omega) ⟨w8.heap.size, 0, none⟩ 90 rfl (by simp) ?_; intro g2 c2 w9 hW9) | (go_at_call_of 23 (Value.slice bo n1 n1); refine (same_bel _ _ n1 n1 n1 ys _ (M.out.sct.below (onto (bel1 w8 _) hW9.2.2.2.2.2)) (M.out.sx1.below (onto (bel1 w8 _) hW9.2.2.2.2.2)) (by omega)).mono ?_; rintro e wa ⟨rfl, hba⟩) | (at_builtin; refine wpList_grow1 _ rfl (.tmp 64) (.tmp 65) rfl bo n1 ys rfl (M.out.sct.below (onto (onto (onto (bel1 w8 _) hW9.2.2.2.2.2) hba) (bel1 wa _))) (by omega) ⟨wa.heap.size, 0, none⟩ 165 rfl (by simp) ?_; intro g3 c3 w10 hW10))
  have B810 : Hid (Below w8.heap.size w8 w10) := onto (onto (onto (onto (bel1 w8 _) hW9.2.2.2.2.2) hba) (bel1 wa _)) hW10.2.2.2.2.2
  have T0 : Hid (Src w10 (some ⟨g2, 0, none⟩) n0 c2 zs) := (hW9.old HZ.out).below (onto (onto hba (bel1 wa _)) hW10.2.2.2.2.2)
  have L0 : Hid (w10.cell? ⟨g2, n0, none⟩ = some (.int .u8 90)) := cell_on (onto (onto hba (bel1 wa _)) hW10.2.2.2.2.2) (hW9.last HZ.out)
  have T1 : Hid (Src w10 (some ⟨g3, 0, none⟩) n1 c3 ys) := hW10.old HY.out
  have L1 : Hid (w10.cell? ⟨g3, n1, none⟩ = some (.int .u8 165)) := hW10.last HY.out
  have hc2 : n0 + 1 ≤ c2 := hW9.2.2.1
  have hc3 : n1 + 1 ≤ c3 := hW10.2.2.1
  have hm2 : c2 ≤ 9223372036854775807 := by have := hW9.2.2.2.1; unfold maxLen at this; omega
  have hm3 : c3 ≤ 9223372036854775807 := by have := hW10.2.2.2.1; unfold maxLen at this; omega
  clear hW9 hba hW10
  have qa := run_at29' g2 (n0 + 1) c2 (n0 : Int) n0 rfl (by omega)
  have qb := run_at29' g3 (n1 + 1) c3 (n1 : Int) n1 rfl (by omega)
  go_wp2_with (first | (go_at_call_of 23 (Value.slice (some ⟨g, 0, none⟩) n0 n0); refine (same_bel _ _ n0 n0 n0 zs _ (M.out.scf.below B810.out) (M.out.sx0.below B810.out) (by omega)).mono ?_; rintro e wb ⟨rfl, hbb⟩; have xa := cell_on hbb L0.out) | (go_at_call_of 23 (Value.slice (some ⟨g2, 0, none⟩) n0 c2); refine (same_bel _ _ n0 c2 n0 zs _ (T0.out.below hbb) (M.out.sx0.below (onto B810.out hbb)) (by omega)).mono ?_; rintro e wc ⟨rfl, hbc⟩; have xb := cell_on (onto hbb hbc) L1.out) | (go_at_call_of 23 (Value.slice (some ⟨g3, 0, none⟩) n1 c3); refine (same_bel _ _ n1 c3 n1 ys _ (T1.out.below (onto hbb hbc)) (M.out.sx1.below (onto B810.out (onto hbb hbc))) (by omega)).mono ?_; rintro e wd ⟨rfl, hbd⟩))
  have B8d : Hid (Below w8.heap.size w8 wd) := onto B810.out (onto (onto hbb hbc) hbd)
  have HRd : Row wd g g (n0 + n1) (zs ++ ys) := M.out.row.below B8d.out M.out.row.lt.2
  have HLd : Hid ((zs ++ ys).length = n0 + n1) := by show _ = _; rw [List.length_append, HZ.out, HY.out]
  clear B810 T0 L0 T1 L1 hc2 hc3 hm2 hm3 qa qb xa xb hbb hbc hbd
  go_loopw [12] (fun i wr => ∃ (k : Nat) (xs : List Int), k ≤ n0 ∧ i = .int .i64 k ∧ Hid (xs.length = n0 + n1) ∧ Row wr g g (n0 + n1) xs ∧ Below g wd wr) (fun i _ => n0 - (intOf i).toNat)
  case atStart => exact ⟨0, _, Nat.zero_le _, rfl, HLd, HRd, Below.refl _ _⟩
  case round =>
    clear HRd HLd
    obtain ⟨k, xs, hk, rfl, hxl, hR, hbx⟩ := hrel
    by_cases hlt : k < n0
    · have x1 := hR.cell k (by rw [hxl.out]; omega)
      have f1 := hR.free k
      have HS : Hid (∀ z, Row (wr.setCell ⟨g, k, none⟩ (.int .u8 z)) g g (n0 + n1) (xs.set k z)) := fun z => hR.set k z
      have HS2 : Hid (∀ z, (xs.set k z).length = n0 + n1) := fun z => by rw [List.length_set]; exact hxl.out
      obtain ⟨x, hxx⟩ : ∃ x, xs.getD k 0 = x := ⟨_, rfl⟩
      rw [hxx] at x1
      clear hxx
      have q1 := run_at29' g n0 n0 (k : Int) k rfl hlt
      go_wp2
      go_roundw
      case rel => exact ⟨k + 1, _, by omega, by go_num, HS2.out _, HS.out _, hbx.setCell (Nat.le_refl _) _⟩
      case measure => simp [intOf]; omega
    · go_wp2
      rename World => wq
      go_loopw [13] (fun i wr => ∃ (m : Nat) (xs : List Int), m ≤ n1 ∧ i = .int .i64 m ∧ Hid (xs.length = n0 + n1) ∧ Row wr g g (n0 + n1) xs ∧ Below g wd wr) (fun i _ => n1 - (intOf i).toNat)
      case atStart => exact ⟨0, xs, Nat.zero_le _, rfl, hxl, hR, hbx⟩
      case round =>
        clear hxl hR hbx
        obtain ⟨m, xs, hm, rfl, hxl, hR, hbx⟩ := hrel
        by_cases hlt2 : m < n1
        · obtain ⟨ad, hbo⟩ : ∃ ad, bo = some ad := by
            cases hb : bo with
            | none => exact absurd (M.out.sct.2.1 hb).1 (by omega)
            | some ad => exact ⟨ad, rfl⟩
          have had := M.out.there ad hbo
          rw [if_neg (by omega)] at had
          subst had
          subst hbo
          have x1 := hR.cell (n0 + m) (by rw [hxl.out]; omega)
          have f1 := hR.free (n0 + m)
          have HS : Hid (∀ z, Row (wr.setCell ⟨g, n0 + m, none⟩ (.int .u8 z)) g g (n0 + n1) (xs.set (n0 + m) z)) := fun z => hR.set (n0 + m) z
          have HS2 : Hid (∀ z, (xs.set (n0 + m) z).length = n0 + n1) := fun z => by rw [List.length_set]; exact hxl.out
          obtain ⟨x, hxx⟩ : ∃ x, xs.getD (n0 + m) 0 = x := ⟨_, rfl⟩
          rw [hxx] at x1
          clear hxx
          have q1 := run_at29o g n0 n1 n1 (m : Int) m rfl hlt2
          go_wp2
          go_roundw
          case rel => exact ⟨m + 1, _, by omega, by go_num, HS2.out _, HS.out _, hbx.setCell (Nat.le_refl _) _⟩
          case measure => simp [intOf]; omega
        · have Sd0 : Hid (Src wr d0 n0 n0 zs) := (M.out.sd0.below B8d.out).keep hbx M.out.ld0
          have Sd1 : Hid (Src wr d1 n1 n1 ys) := (M.out.sd1.below B8d.out).keep hbx M.out.ld1
          have Sx0 : Hid (Src wr x0 n0 n0 zs) := (M.out.sx0.below B8d.out).keep hbx M.out.lx0
          have Sx1 : Hid (Src wr x1 n1 n1 ys) := (M.out.sx1.below B8d.out).keep hbx M.out.lx1
          have BF : Hid (Below w.heap.size w wr) := (onto M.out.bel B8d.out).trans (hbx.mono M.out.base)
          clear hR hxl hbx
          go_wp2_with (first | (go_at_call_of 23 (Value.slice d0 n0 n0); refine (same_bel _ _ n0 n0 n0 zs _ Sd0.out Sx0.out (by omega)).mono ?_; rintro e we ⟨rfl, hbe⟩) | (go_at_call_of 23 (Value.slice d1 n1 n1); refine (same_bel _ _ n1 n1 n1 ys _ (Sd1.out.below hbe) (Sx1.out.below hbe) (by omega)).mono ?_; rintro e wf ⟨rfl, hbf⟩))
          go_ret
          exact ⟨rfl, onto (onto BF.out hbe) hbf⟩

set_option maxRecDepth 100000 in
set_option maxHeartbeats 1000000 in
theorem sh_walk (a0 : Option Addr) (len0 cap0 : Nat) (z0 : List Int) (a1 : Option Addr) (len1 cap1 : Nat) (z1 : List Int) (w : World) (w0 : IsRow .u8 w a0 len0 cap0 z0) (w1 : IsRow .u8 w a1 len1 cap1 z1) :
    Calls Try.prog 7 #[.slice a0 len0 cap0, .slice a1 len1 cap1] w fun e w' => e = .returned (.bool true) ∧ Below w.heap.size w w' := by
  by_cases hn : len0 + len1 ≤ 1048576
  · exact sh_main a0 len0 cap0 _ a1 len1 cap1 _ w w0.src.1 w1.src.1 hn
  · have h27 := bytes27_no a0 a1 len0 cap0 len1 cap1 w w0.src.2 w1.src.2 hn
    go_enter Try.func7, Try.ntmps7
    go_wp2_with (go_at_call 27; refine h27.mono ?_; rintro e w' ⟨rfl, rfl⟩)
    go_ret
    exact ⟨rfl, Below.refl _ _⟩
end Go.Proofs.Qxb6600979a
