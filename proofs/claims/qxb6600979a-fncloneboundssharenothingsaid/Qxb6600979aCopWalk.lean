/-
  THE WALK of FnCloneCopiesBoundsExactly (function 6).
-/
import Derived.Test.Qxb6600979aClone
namespace Go.Proofs.Qxb6600979a
open Go.RowKit

theorem bel1 (w : World) (o : Obj) : Below w.heap.size w (w.alloc o) := (Below.refl _ w).alloc (Nat.le_refl _) o

theorem onto {w w1 w2 : World} (h : Below w.heap.size w w1) (k : Below w1.heap.size w1 w2) : Below w.heap.size w w2 := h.trans (k.mono h.size)

theorem box_cells (w4 w5 : World) (v0 v1 : Value) (hb : Below (w4.alloc (.cells #[v0, v1] 32)).heap.size (w4.alloc (.cells #[v0, v1] 32)) w5) :
    w5.cell? ⟨w4.heap.size, 0, none⟩ = some v0 ∧ w5.cell? ⟨w4.heap.size, 1, none⟩ = some v1 := by
  have hs : w4.heap.size < (w4.alloc (.cells #[v0, v1] 32)).heap.size := by simp
  refine ⟨?_, ?_⟩
  · rw [hb.cell (p := ⟨w4.heap.size, 0, none⟩) hs]; go_simp
  · rw [hb.cell (p := ⟨w4.heap.size, 1, none⟩) hs]; go_simp

set_option maxHeartbeats 1000000 in
theorem cop_main (a0 : Option Addr) (n0 c0 : Nat) (zs : List Int) (a1 : Option Addr) (n1 c1 : Nat) (ys : List Int) (w : World) (h0 : Src w a0 n0 c0 zs) (h1 : Src w a1 n1 c1 ys) (hn : n0 + n1 ≤ 1048576) :
    Calls Try.prog 6 #[.slice a0 n0 c0, .slice a1 n1 c1] w fun e w' => e = .returned (.bool true) ∧ Below w.heap.size w w' := by
  have h24 := bytes24_yes a0 a1 n0 c0 n1 c1 w hn
  have HZ : Hid (zs.length = n0) := h0.1
  have HY : Hid (ys.length = n1) := h1.1
  have e1 := fun bo => is_nil bo n1 n1
  go_enter Try.func6, Try.ntmps6
  go_wp2_with (first | (go_at_call 24; refine h24.mono ?_; rintro e w' ⟨rfl, rfl⟩) | (go_at_call_of 20 (Value.slice a0 n0 c0); refine (dup_any a0 n0 c0 zs _ h0 (by omega)).mono ?_; rintro e w1 ⟨d0, rfl, hd0, hD0, hb1⟩) | (go_at_call_of 20 (Value.slice a1 n1 c1); refine (dup_any a1 n1 c1 ys _ (h1.below hb1) (by omega)).mono ?_; rintro e w2 ⟨d1, rfl, hd1, hD1, hb2⟩) | (go_at_call 26; refine (mkr_any _ _ _ _ _ _ _).mono ?_; rintro e w3 ⟨rfl, hb3⟩) | (go_at_call 25; refine (ZZclone_any d0 d1 n0 n0 n1 n1 zs ys _ ((hD0.src.below hb2).below hb3) (hD1.src.below hb3) hn).mono ?_; rintro e w4 ⟨g, bo, rfl, hbo, hC⟩) | (go_at_call 14; refine (from_any _ _ _ _ _ _ _).mono ?_; rintro e w5 ⟨rfl, hb5⟩; obtain ⟨p0, p1⟩ := box_cells w4 w5 _ _ hb5) | (go_at_call 15; refine (to_any _ _ _ _ _ _ _).mono ?_; rintro e w6 ⟨rfl, hb6⟩) | (go_at_call_of 23 (Value.slice d0 n0 n0); refine (same_any _ _ n0 n0 n0 zs _ ((((hC.from HZ.out HY.out).below (bel1 w4 _)).below hb5).below hb6) ((((((hD0.src.below hb2).below hb3).below hC.2.2.2.2.2).below (bel1 w4 _)).below hb5).below hb6) (by omega)).mono ?_; rintro e w7 ⟨rfl, k7, rfl⟩) | (go_at_call_of 23 (Value.slice d1 n1 n1); refine (same_any _ _ n1 n1 n1 ys _ (((((hC.to HZ.out HY.out).below (bel1 w4 _)).below hb5).below hb6).drewN k7) ((((((hD1.src.below hb3).below hC.2.2.2.2.2).below (bel1 w4 _)).below hb5).below hb6).drewN k7) (by omega)).mono ?_; rintro e w8 ⟨rfl, k8, rfl⟩))
  go_ret
  exact ⟨rfl, onto (onto (onto (onto (onto (onto (onto hb1 hb2) hb3) hC.2.2.2.2.2) (bel1 w4 _)) hb5) hb6) (below_dr w6 _)⟩

/-- WHAT THE WALK IS TOLD OF A SLICE OF INTEGERS THAT CAME IN (the given shell's own word). -/
def IsRow (k : IntKind) (w : World) (a : Option Addr) (len cap : Nat) (zs : List Int) : Prop :=
  (a = none ∧ len = 0 ∧ cap = 0 ∧ zs = []) ∨
  ∃ x, a = some x ∧ len ≤ cap ∧ cap ≤ maxLen ∧ zs.length = cap ∧ (∀ i, i < zs.length → w.cell? (x.add i) = some (.int k (zs.getD i 0))) ∧ ∀ n ∈ zs, (Lit.int k n).wf = true

theorem IsRow.src {w : World} {a : Option Addr} {len cap : Nat} {zs : List Int} (h : IsRow .u8 w a len cap zs) : Src w a len cap (zs.take len) ∧ len ≤ maxLen := by
  rcases h with ⟨rfl, rfl, rfl, rfl⟩ | ⟨x, rfl, h1, h2, h3, h4, _⟩
  · exact ⟨Src.nil w, Nat.zero_le _⟩
  · refine ⟨⟨by rw [List.length_take]; omega, (fun e => by cases e), fun ad e j hj => ?_⟩, by omega⟩
    cases e
    rw [h4 j (by omega), List.getD_eq_getElem?_getD, List.getD_eq_getElem?_getD, List.getElem?_take, if_pos hj]

set_option maxHeartbeats 1000000 in
theorem cop_walk (a0 : Option Addr) (len0 cap0 : Nat) (z0 : List Int) (a1 : Option Addr) (len1 cap1 : Nat) (z1 : List Int) (w : World) (w0 : IsRow .u8 w a0 len0 cap0 z0) (w1 : IsRow .u8 w a1 len1 cap1 z1) :
    Calls Try.prog 6 #[.slice a0 len0 cap0, .slice a1 len1 cap1] w fun e w' => e = .returned (.bool true) ∧ Below w.heap.size w w' := by
  by_cases hn : len0 + len1 ≤ 1048576
  · exact cop_main a0 len0 cap0 _ a1 len1 cap1 _ w w0.src.1 w1.src.1 hn
  · have h24 := bytes24_no a0 a1 len0 cap0 len1 cap1 w w0.src.2 w1.src.2 hn
    go_enter Try.func6, Try.ntmps6
    go_wp2_with (go_at_call 24; refine h24.mono ?_; rintro e w' ⟨rfl, rfl⟩)
    go_ret
    exact ⟨rfl, Below.refl _ _⟩
end Go.Proofs.Qxb6600979a
