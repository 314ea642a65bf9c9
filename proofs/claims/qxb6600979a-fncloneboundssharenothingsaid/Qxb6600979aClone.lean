/-
  THE WALK of keyRange.clone (function 31) and of its exported name ZZClone (25).
-/
import Derived.Test.Qxb6600979aBase
namespace Go.Proofs.Qxb6600979a
open Go.RowKit

/-- The zero bytes of a new row (a plain name: the walk does not look into it). -/
def mk0 (T : Nat) : Array Value := madeCells (Value.int .u8 0).cells T

theorem run_mk0 (T : Nat) (hT : T ≤ 4194304) (C : Int) (hC : C = T) (wx : World) : (Instr.makeSlice 29 (.int .i64 0) (.int .i64 C)).run Try.prog wx = .ok (.slice (some ⟨wx.heap.size, 0, none⟩) 0 T) (wx.alloc (.cells (mk0 T) 5)) := by
  obtain ⟨i0, hi, hz0, hz1, hz2⟩ := info_parts info5
  subst hC
  have := run_make (P := Try.prog) wx 29 5 i0 (.int .u8 0) Try.underlying29 hi hz0 .i64 .i64 0 (T : Int) (by omega) (by omega) (by rw [hz2]; omega) (by omega)
  rw [hz1] at this
  simpa [mk0] using this

theorem row_mk0 (w : World) (T : Nat) (hT : T ≤ 4194304) : Row (w.alloc (.cells (mk0 T) 5)) w.heap.size w.heap.size T [] := by
  refine World.ownsRow_made w (mk0 T) T (Nat.le_refl _) (by unfold maxLen; omega) ?_
  unfold mk0
  rw [size_madeCells]
  omega

/-- 'append(b, s...)' within the capacity, as one step of a region that draws. -/
theorem step_fits {ops : Array Oper} {o : Oper} {a : Act} {w : World} {K : Act → World → Prop} {Q : Exit → Act → World → Prop} {E : Prop}
    (hg : o.guard = none) (s x : Operand) (hop : o.op = Op.call { callee := Callee.builtin Builtin.append, args := #[s, x], argTypes := #[29, 29] })
    (base g cap : Nat) (l : List Int) (k : Nat) (hs : a.eval s = .slice (some ⟨g, 0, none⟩) k cap) (hk : k = l.length) (hown : Row w base g cap l)
    (ao : Option Addr) (m c : Nat) (zs : List Int) (hx : a.eval x = .slice ao m c) (hsrc : Src w ao m c zs) (room : k + m ≤ cap)
    (hK : ∀ w', Row w' base g cap (l ++ zs) → w.grownBy w' (some g) → K (a.put o.dst (.slice (some ⟨g, 0, none⟩) (k + m) cap)) w') :
    if Region.wanted o (yielded ops a.tmps) = true then Oper.wp Try.prog o a w K Q else E := by
  have hw : Region.wanted o (yielded ops a.tmps) = true := by simp [Region.wanted, hg]
  rw [if_pos hw]
  obtain ⟨i0, hi, hz0, hz1, hz2⟩ := info_parts info5
  obtain ⟨h1, h2, h3⟩ := hsrc
  subst hk
  cases ao with
  | none =>
    obtain ⟨rfl, rfl⟩ := h2 rfl
    have hz : zs = [] := List.eq_nil_of_length_eq_zero h1
    subst hz
    have hrun := run_append_owned_none (P := Try.prog) w base 29 o.type 5 i0 1 Try.underlying29 hi _ l.length _ hown
    unfold Oper.wp
    simp [execOp, hop, resolve, invoke, builtin, hs, hx, hrun, Result.andThen]
    have := hK w (by rw [List.append_nil]; exact hown) (World.grownBy.refl _ _)
    rw [Nat.add_zero] at this
    exact this
  | some ad =>
    obtain ⟨w', hrun, r1, r2⟩ := run_append_fits (P := Try.prog) w base 29 o.type 5 i0 1 Try.underlying29 hi hz1 g l.length cap _ hown ad m c (zs.map (Value.int .u8)) (by rw [List.length_map]; omega) (by
      intro j u hj
      have hj' : j < zs.length := by
        have := (List.getElem?_eq_some_iff.1 hj).1
        rwa [List.length_map] at this
      rw [List.getElem?_map, List.getElem?_eq_getElem hj'] at hj
      simp only [Option.map_some, Option.some.injEq] at hj
      subst hj
      rw [h3 ad rfl j (by omega), List.getD_eq_getElem?_getD, List.getElem?_eq_getElem hj']
      rfl) (by
      intro u hu
      simp only [List.mem_map] at hu
      obtain ⟨z, _, rfl⟩ := hu
      rfl) room
    unfold Oper.wp
    simp [execOp, hop, resolve, invoke, builtin, hs, hx, hrun, Result.andThen]
    refine hK w' ?_ r2
    unfold Row
    rw [List.length_append, List.map_append, h1]
    exact r1

theorem row_new (w : World) (o1 o2 : Obj) (T : Nat) (hT : T ≤ 4194304) : Row (((w.alloc o1).alloc o2).alloc (.cells (mk0 T) 5)).drew (w.heap.size + 1 + 1) (w.heap.size + 1 + 1) T [] := by
  have := row_mk0 ((w.alloc o1).alloc o2) T hT
  simp only [World.size_alloc] at this
  exact this

theorem bel3 (w : World) (o1 o2 o3 : Obj) : Below w.heap.size w (((w.alloc o1).alloc o2).alloc o3).drew :=
  ((((Below.refl _ w).alloc (Nat.le_refl _) o1).alloc (by simp) o2).alloc (by simp; omega) o3).drew

theorem keep_cell {w w' : World} {g : Nat} {p : Addr} {v : Value} (hG : w.grownBy w' (some g)) (h : w.cell? p = some v) (hp : p.block < g) : w'.cell? p = some v :=
  hG.cell h (fun e => by simp only [Option.some.injEq] at e; omega)

theorem keep2 {w w' : World} {g B : Nat} {v0 v1 : Value} (hG : w.grownBy w' (some g)) (h : w.cell? ⟨B, 0, none⟩ = some v0 ∧ w.cell? ⟨B, 1, none⟩ = some v1) (hB : B < g) : w'.cell? ⟨B, 0, none⟩ = some v0 ∧ w'.cell? ⟨B, 1, none⟩ = some v1 :=
  ⟨keep_cell hG h.1 hB, keep_cell hG h.2 hB⟩

/-- What lies where behind the two appends. -/
structure Boxes (w w4 : World) (v0 v1 : Value) : Prop where
  c0 : w4.cell? ⟨w.heap.size, 0, none⟩ = some v0
  c1 : w4.cell? ⟨w.heap.size, 1, none⟩ = some v1
  r0 : w4.cell? ⟨w.heap.size + 1, 0, none⟩ = some (.slice none 0 0)
  r1 : w4.cell? ⟨w.heap.size + 1, 1, none⟩ = some (.slice none 0 0)
  f0 : w4.frozen? ⟨w.heap.size + 1, 0, none⟩ = false
  f1 : w4.frozen? ⟨w.heap.size + 1, 1, none⟩ = false
  size : w.heap.size + 1 + 1 < w4.heap.size
  bel : Below w.heap.size w w4

theorem boxes (w w3 w4 : World) (v0 v1 : Value) (o3 : Obj) (hG3 : ((((w.alloc (.cells #[v0, v1] 32)).alloc (.cells #[.slice none 0 0, .slice none 0 0] 32)).alloc o3).drew).grownBy w3 (some (w.heap.size + 1 + 1))) (hG4 : w3.grownBy w4 (some (w.heap.size + 1 + 1))) : Boxes w w4 v0 v1 := by
  have s3 := hG3.size
  have s4 := hG4.size
  have e : ((((w.alloc (.cells #[v0, v1] 32)).alloc (.cells #[.slice none 0 0, .slice none 0 0] 32)).alloc o3).drew).heap.size = w.heap.size + 1 + 1 + 1 := by
    show (((w.alloc (.cells #[v0, v1] 32)).alloc (.cells #[.slice none 0 0, .slice none 0 0] 32)).alloc o3).heap.size = _
    simp only [World.size_alloc]
  rw [e] at s3
  have B : Below (w.heap.size + 1 + 1) ((((w.alloc (.cells #[v0, v1] 32)).alloc (.cells #[.slice none 0 0, .slice none 0 0] 32)).alloc o3).drew) w4 :=
    ((Below.refl _ _).grown hG3 (by rw [e]; omega) (fun k x => by cases x; exact Nat.le_refl _)).grown hG4 (by omega) (fun k x => by cases x; exact Nat.le_refl _)
  refine ⟨?_, ?_, ?_, ?_, ?_, ?_, by omega, (bel3 w _ _ o3).trans (B.mono (by omega))⟩
  · rw [B.cell (p := ⟨w.heap.size, 0, none⟩) (by show w.heap.size < w.heap.size + 1 + 1; omega)]; go_simp
  · rw [B.cell (p := ⟨w.heap.size, 1, none⟩) (by show w.heap.size < w.heap.size + 1 + 1; omega)]; go_simp
  · rw [B.cell (p := ⟨w.heap.size + 1, 0, none⟩) (by show w.heap.size + 1 < w.heap.size + 1 + 1; omega)]; go_simp
  · rw [B.cell (p := ⟨w.heap.size + 1, 1, none⟩) (by show w.heap.size + 1 < w.heap.size + 1 + 1; omega)]; go_simp
  · rw [B.frozen (p := ⟨w.heap.size + 1, 0, none⟩) (by show w.heap.size + 1 < w.heap.size + 1 + 1; omega)]; go_simp
  · rw [B.frozen (p := ⟨w.heap.size + 1, 1, none⟩) (by show w.heap.size + 1 < w.heap.size + 1 + 1; omega)]; go_simp

theorem row_end {w4 : World} {g T B : Nat} {l : List Int} (h : Row w4 g g T l) (hB : B < g) (v0 v1 : Value) (o : Obj) : Row (((w4.setCell ⟨B, 0, none⟩ v0).setCell ⟨B, 1, none⟩ v1).alloc o) g g T l :=
  World.ownsRow.alloc (ownsRow_setCell_below (ownsRow_setCell_below h (a := ⟨B, 0, none⟩) hB v0) (a := ⟨B, 1, none⟩) hB v1) o

theorem bel_end {w w4 : World} {B : Nat} (h : Below w.heap.size w w4) (hB : w.heap.size ≤ B) (v0 v1 : Value) (o : Obj) : Below w.heap.size w (((w4.setCell ⟨B, 0, none⟩ v0).setCell ⟨B, 1, none⟩ v1).alloc o) := by
  have h2 := (h.setCell (p := ⟨B, 0, none⟩) hB v0).setCell (p := ⟨B, 1, none⟩) hB v1
  exact h2.alloc h2.size o

set_option maxHeartbeats 1000000 in
theorem clone_some (a : Option Addr) (n c : Nat) (zs : List Int) (bd : Addr) (n' c' : Nat) (ys : List Int) (w : World) (h : Src w a n c zs) (h' : Src w (some bd) n' c' ys) (hn : n + n' ≤ 1048576) :
    Calls Try.prog 31 #[.agg #[.slice a n c, .slice (some bd) n' c']] w fun e w' => ∃ g ad, e = .returned (.agg #[.slice (some ⟨g, 0, none⟩) n n, .slice (some ad) n' n']) ∧ w.heap.size ≤ g ∧ g < w'.heap.size ∧ ad = (if n' = 0 then ⟨g, 0, none⟩ else ⟨g, n, none⟩) ∧ Row w' g g (n + n') (zs ++ ys) ∧ Below w.heap.size w w' := by
  have hwr : IntKind.i64.wrap ((n : Int) + (n' : Int)) = (n : Int) + (n' : Int) := by rw [IntKind.wrap_i64]; omega
  have hmk := run_mk0 (n + n') (by omega) ((n : Int) + (n' : Int)) (by omega)
  go_enter Try.func31, Try.ntmps31
  go_wp2
  go_region_held3 (fun w' => w'.cell? ⟨w.heap.size, 0, none⟩ = some (.slice a n c) ∧ w'.cell? ⟨w.heap.size, 1, none⟩ = some (.slice (some bd) n' c')) (first | exact keep2 (g := w.heap.size + 1 + 1) (by assumption) (by assumption) (by omega) | go_keep) (first | (refine step_fits rfl (.tmp 13) (.tmp 15) rfl (w.heap.size + 1 + 1) (w.heap.size + 1 + 1) (n + n') [] _ rfl rfl (row_new w _ _ (n + n') (by omega)) a n c zs rfl (h.below (bel3 w _ _ _)) (by omega) ?_; intro w3 hR3 hG3) | (refine step_fits rfl (.tmp 16) (.tmp 18) rfl (w.heap.size + 1 + 1) (w.heap.size + 1 + 1) (n + n') ([] ++ zs) _ rfl (by have := h.1; simp; omega) hR3 (some bd) n' c' ys rfl (h'.below ((bel3 w _ _ _).trans ((Below.refl _ _).grown hG3 (by simp; omega) (fun k e => by cases e; omega)))) (by omega) ?_; intro w4 hR4 hG4))
  have HX := boxes w w3 w4 _ _ _ hG3 hG4
  have c0 := HX.c0
  have c1 := HX.c1
  have r0 := HX.r0
  have r1 := HX.r1
  have f0 := HX.f0
  have f1 := HX.f1
  have hsz := HX.size
  have hlt1 : w.heap.size < w4.heap.size := by omega
  have hlt2 : w.heap.size + 1 < w4.heap.size := by omega
  have hbl : Hid (Below w.heap.size w w4) := HX.bel
  have HR4 : Hid (Row w4 (w.heap.size + 1 + 1) (w.heap.size + 1 + 1) (n + n') (zs ++ ys)) := hR4
  clear HX hG3 hG4 hR3 hR4 h h' hmk hwr
  go_wp2
  · refine bodyPost_ret (v := .agg #[.slice (some ⟨w.heap.size + 1 + 1, 0, none⟩) n n, .slice (some ⟨w.heap.size + 1 + 1, 0, none⟩) 0 0]) (by simp [results, Try.results31, go_sem, r0, r1, hlt2]) rfl ?_
    have hz : n' = 0 := by assumption
    have HR5 : Hid (Row w4 (w.heap.size + 1 + 1) (w.heap.size + 1 + 1) n (zs ++ ys)) := by
      have := HR4.out
      rw [hz, Nat.add_zero] at this
      exact this
    exact ⟨w.heap.size + 1 + 1, _, rfl, by omega, by simp; omega, rfl, row_end HR5.out (by omega) _ _ _, bel_end hbl.out (by omega) _ _ _⟩
  · refine bodyPost_ret (v := .agg #[.slice (some ⟨w.heap.size + 1 + 1, 0, none⟩) n n, .slice (some ⟨w.heap.size + 1 + 1, n, none⟩) n' n']) (by simp [results, Try.results31, go_sem, r0, r1, hlt2]) rfl ?_
    exact ⟨w.heap.size + 1 + 1, _, rfl, by omega, by simp; omega, rfl, row_end HR4.out (by omega) _ _ _, bel_end hbl.out (by omega) _ _ _⟩
set_option maxHeartbeats 1000000 in
theorem clone_nil (a : Option Addr) (n c : Nat) (zs : List Int) (w : World) (h : Src w a n c zs) (hn : n ≤ 1048576) :
    Calls Try.prog 31 #[.agg #[.slice a n c, .slice none 0 0]] w fun e w' => ∃ g, e = .returned (.agg #[.slice (some ⟨g, 0, none⟩) n n, .slice none 0 0]) ∧ w.heap.size ≤ g ∧ g < w'.heap.size ∧ Row w' g g n zs ∧ Below w.heap.size w w' := by
  have hwr : IntKind.i64.wrap (n : Int) = (n : Int) := by rw [IntKind.wrap_i64]; omega
  have hmk := run_mk0 n (by omega) (n : Int) rfl
  go_enter Try.func31, Try.ntmps31
  go_wp2
  go_region_held3 (fun w' => w'.cell? ⟨w.heap.size, 0, none⟩ = some (.slice a n c) ∧ w'.cell? ⟨w.heap.size, 1, none⟩ = some (.slice none 0 0)) (first | exact keep2 (g := w.heap.size + 1 + 1) (by assumption) (by assumption) (by omega) | go_keep) (first | (refine step_fits rfl (.tmp 13) (.tmp 15) rfl (w.heap.size + 1 + 1) (w.heap.size + 1 + 1) n [] _ rfl rfl (row_new w _ _ n (by omega)) a n c zs rfl (h.below (bel3 w _ _ _)) (by omega) ?_; intro w3 hR3 hG3) | (refine step_fits rfl (.tmp 16) (.tmp 18) rfl (w.heap.size + 1 + 1) (w.heap.size + 1 + 1) n ([] ++ zs) _ rfl (by have := h.1; simp; omega) hR3 none 0 0 [] rfl (Src.nil _) (by omega) ?_; intro w4 hR4 hG4))
  have HX := boxes w w3 w4 _ _ _ hG3 hG4
  have c0 := HX.c0
  have c1 := HX.c1
  have r0 := HX.r0
  have r1 := HX.r1
  have f0 := HX.f0
  have f1 := HX.f1
  have hsz := HX.size
  have hlt1 : w.heap.size < w4.heap.size := by omega
  have hlt2 : w.heap.size + 1 < w4.heap.size := by omega
  have hbl : Hid (Below w.heap.size w w4) := HX.bel
  have HR4 : Hid (Row w4 (w.heap.size + 1 + 1) (w.heap.size + 1 + 1) n zs) := by
    rw [List.append_nil] at hR4
    exact hR4
  clear HX hG3 hG4 hR3 hR4 h hmk hwr
  go_wp2
  refine bodyPost_ret (v := .agg #[.slice (some ⟨w.heap.size + 1 + 1, 0, none⟩) n n, .slice none 0 0]) (by simp [results, Try.results31, go_sem, r0, r1, hlt2]) rfl ?_
  exact ⟨w.heap.size + 1 + 1, rfl, by omega, by simp; omega, row_end HR4.out (by omega) _ _ _, bel_end hbl.out (by omega) _ _ _⟩

/-- What a clone is: its bounds lie in one row of its own, one behind the other. -/
def Cloned (w w' : World) (g n n' : Nat) (bo : Option Addr) (zs ys : List Int) : Prop :=
  w.heap.size ≤ g ∧ g < w'.heap.size ∧ (∀ ad, bo = some ad → ad = if n' = 0 then ⟨g, 0, none⟩ else ⟨g, n, none⟩) ∧ (bo = none → n' = 0 ∧ ys = []) ∧ Row w' g g (n + n') (zs ++ ys) ∧ Below w.heap.size w w'

theorem clone_any (a b : Option Addr) (n c n' c' : Nat) (zs ys : List Int) (w : World) (h : Src w a n c zs) (h' : Src w b n' c' ys) (hn : n + n' ≤ 1048576) :
    Calls Try.prog 31 #[.agg #[.slice a n c, .slice b n' c']] w fun e w' => ∃ g bo, e = .returned (.agg #[.slice (some ⟨g, 0, none⟩) n n, .slice bo n' n']) ∧ bo.isNone = b.isNone ∧ Cloned w w' g n n' bo zs ys := by
  cases b with
  | none =>
    obtain ⟨h1, h2, _⟩ := h'
    obtain ⟨rfl, rfl⟩ := h2 rfl
    have hz : ys = [] := List.eq_nil_of_length_eq_zero h1
    subst hz
    refine (clone_nil a n c zs w h (by omega)).mono ?_
    rintro e w' ⟨g, rfl, g1, g2, g3, g4⟩
    exact ⟨g, none, rfl, rfl, g1, g2, (fun ad x => by cases x), fun _ => ⟨rfl, rfl⟩, by rw [List.append_nil, Nat.add_zero]; exact g3, g4⟩
  | some bd =>
    refine (clone_some a n c zs bd n' c' ys w h h' hn).mono ?_
    rintro e w' ⟨g, ad, rfl, g1, g2, g3, g4, g5⟩
    exact ⟨g, some ad, rfl, rfl, g1, g2, (fun x e => by cases e; exact g3), (fun x => by cases x), g4, g5⟩

theorem Cloned.from {w w' : World} {g n n' : Nat} {bo : Option Addr} {zs ys : List Int} (h : Cloned w w' g n n' bo zs ys) (hz : zs.length = n) (hy : ys.length = n') : Src w' (some ⟨g, 0, none⟩) n n zs := by
  refine ⟨hz, (fun e => by cases e), fun ad e j hj => ?_⟩
  cases e
  have hl : j < (zs ++ ys).length := by rw [List.length_append]; omega
  rw [Addr.add_lit, Nat.zero_add, h.2.2.2.2.1.cell j hl, List.getD_eq_getElem?_getD, List.getElem?_append_left (by omega), List.getD_eq_getElem?_getD]

theorem Cloned.to {w w' : World} {g n n' : Nat} {bo : Option Addr} {zs ys : List Int} (h : Cloned w w' g n n' bo zs ys) (hz : zs.length = n) (hy : ys.length = n') : Src w' bo n' n' ys := by
  refine ⟨hy, (fun e => ⟨(h.2.2.2.1 e).1, (h.2.2.2.1 e).1⟩), fun ad e j hj => ?_⟩
  have := h.2.2.1 ad e
  rw [if_neg (by omega)] at this
  subst this
  have hl : n + j < (zs ++ ys).length := by rw [List.length_append]; omega
  rw [Addr.add_lit, h.2.2.2.2.1.cell (n + j) hl, List.getD_eq_getElem?_getD, List.getElem?_append_right (by omega), hz, Nat.add_sub_cancel_left, List.getD_eq_getElem?_getD]

theorem bel2 (w : World) (o1 o2 : Obj) : Below w.heap.size w ((w.alloc o1).alloc o2) :=
  ((Below.refl _ w).alloc (Nat.le_refl _) o1).alloc (by simp) o2

theorem res_cells (w w1 : World) (o1 : Obj) (v0 v1 : Value) (hb : Below ((w.alloc o1).alloc (.cells #[v0, v1] 32)).heap.size ((w.alloc o1).alloc (.cells #[v0, v1] 32)) w1) :
    w1.cell? ⟨w.heap.size + 1, 0, none⟩ = some v0 ∧ w1.cell? ⟨w.heap.size + 1, 1, none⟩ = some v1 ∧ w1.frozen? ⟨w.heap.size + 1, 0, none⟩ = false ∧ w1.frozen? ⟨w.heap.size + 1, 1, none⟩ = false := by
  have hs : w.heap.size + 1 < ((w.alloc o1).alloc (.cells #[v0, v1] 32)).heap.size := by simp
  refine ⟨?_, ?_, ?_, ?_⟩
  · rw [hb.cell (p := ⟨w.heap.size + 1, 0, none⟩) hs]; go_simp
  · rw [hb.cell (p := ⟨w.heap.size + 1, 1, none⟩) hs]; go_simp
  · rw [hb.frozen (p := ⟨w.heap.size + 1, 0, none⟩) hs]; go_simp
  · rw [hb.frozen (p := ⟨w.heap.size + 1, 1, none⟩) hs]; go_simp

theorem cloned_end {w w1 : World} {o1 o2 : Obj} {g n n' : Nat} {bo : Option Addr} {zs ys : List Int} (h : Cloned ((w.alloc o1).alloc o2) w1 g n n' bo zs ys) (v0 v1 : Value) :
    Cloned w ((w1.setCell ⟨w.heap.size + 1, 0, none⟩ v0).setCell ⟨w.heap.size + 1, 1, none⟩ v1) g n n' bo zs ys := by
  obtain ⟨h1, h2, h3, h4, h5, h6⟩ := h
  simp only [World.size_alloc] at h1
  refine ⟨by omega, by simpa [World.setCell] using h2, h3, h4, ownsRow_setCell_below (ownsRow_setCell_below h5 (a := ⟨w.heap.size + 1, 0, none⟩) (by show w.heap.size + 1 < g; omega) v0) (a := ⟨w.heap.size + 1, 1, none⟩) (by show w.heap.size + 1 < g; omega) v1, ?_⟩
  have hb := (bel2 w o1 o2).trans (h6.mono (bel2 w o1 o2).size)
  exact (hb.setCell (p := ⟨w.heap.size + 1, 0, none⟩) (by show w.heap.size ≤ w.heap.size + 1; omega) v0).setCell (p := ⟨w.heap.size + 1, 1, none⟩) (by show w.heap.size ≤ w.heap.size + 1; omega) v1

set_option maxHeartbeats 1000000 in
theorem ZZclone_any (a b : Option Addr) (n c n' c' : Nat) (zs ys : List Int) (w : World) (h : Src w a n c zs) (h' : Src w b n' c' ys) (hn : n + n' ≤ 1048576) :
    Calls Try.prog 25 #[.agg #[.slice a n c, .slice b n' c']] w fun e w' => ∃ g bo, e = .returned (.agg #[.slice (some ⟨g, 0, none⟩) n n, .slice bo n' n']) ∧ bo.isNone = b.isNone ∧ Cloned w w' g n n' bo zs ys := by
  have HS := fun o1 o2 => clone_any a b n c n' c' zs ys ((w.alloc o1).alloc o2) (h.below (bel2 w o1 o2)) (h'.below (bel2 w o1 o2)) hn
  clear h h'
  go_enter Try.func25, Try.ntmps25
  go_wp2_with (go_at_call 31; refine (HS _ _).mono ?_; rintro e w1 ⟨g, bo, rfl, hbo, hC⟩; obtain ⟨r0, r1, f0, f1⟩ := res_cells w w1 _ _ _ hC.2.2.2.2.2)
  refine bodyPost_ret (v := .agg #[.slice (some ⟨g, 0, none⟩) n n, .slice bo n' n']) (by simp [results, Try.results25, go_sem, r0, r1]) rfl ?_
  exact ⟨g, bo, rfl, hbo, cloned_end hC _ _⟩

end Go.Proofs.Qxb6600979a
