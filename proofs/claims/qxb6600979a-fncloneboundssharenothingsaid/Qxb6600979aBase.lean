/-
  The callees of the two laws: dupBytes (20), sameBytes (23), ZZMakeKeyRange (26), ZZFrom (14), ZZTo (15).
-/
import Derived.Test.Qxb6600979aProg
import Derived.WalkKit
import Derived.ProofKit
import Derived.Below
import Derived.BigQuiet
import Derived.Deep.QuietTactic
import Derived.Deep.RegionHeld3
import Derived.Deep.DeepCutAuto
import Derived.WalkLawsBesides
import Derived.Lib.SliceRun
namespace Go.Proofs.Qxb6600979a
open Go.RowKit

theorem info5 : (Try.prog.info? 5).map (fun i => (i.zero, i.size, i.bytes)) = some (some (.int .u8 0), 1, 1) := by kernel_rfl

/-- What is known of a slice of bytes: n elements, the numbers zs; nil has none. -/
def Src (w : World) (ao : Option Addr) (n c : Nat) (zs : List Int) : Prop :=
  zs.length = n ∧ (ao = none → n = 0 ∧ c = 0) ∧ ∀ ad, ao = some ad → ∀ j, j < n → w.cell? (ad.add j) = some (.int .u8 (zs.getD j 0))

theorem Src.nil (w : World) : Src w none 0 0 [] := ⟨rfl, fun _ => ⟨rfl, rfl⟩, fun ad h => by cases h⟩

theorem Src.below {w w' : World} {ao : Option Addr} {n c : Nat} {zs : List Int} (h : Src w ao n c zs) (hb : Below w.heap.size w w') : Src w' ao n c zs := by
  refine ⟨h.1, h.2.1, fun ad e j hj => ?_⟩
  have hc := h.2.2 ad e j hj
  rw [hb.cell (p := ad.add j) (World.block_lt_of_cell? w _ hc)]
  exact hc

theorem Src.drewN {w : World} {ao : Option Addr} {n c : Nat} {zs : List Int} (h : Src w ao n c zs) (k : Nat) : Src (w.drewN k) ao n c zs := h.below ⟨rfl, rfl, rfl, Nat.le_refl _, fun _ _ => rfl⟩

theorem below_dr (w : World) (n : Nat) : Below w.heap.size w (w.drewN n) := ⟨rfl, rfl, rfl, Nat.le_refl _, fun _ _ => rfl⟩

/-- A row of bytes of the call's own: at the head of block g, l.length of cap cells used. -/
def Row (w : World) (base g cap : Nat) (l : List Int) : Prop := w.ownsRow base 5 1 (.slice (some ⟨g, 0, none⟩) l.length cap) l.length (l.map (Value.int .u8))

theorem Row.lt {w : World} {base g cap : Nat} {l : List Int} (h : Row w base g cap l) : base ≤ g ∧ g < w.heap.size := World.ownsRow.lt h g rfl

theorem Row.below {w w' : World} {base g cap B : Nat} {l : List Int} (h : Row w base g cap l) (hb : Below B w w') (hg : g < B) : Row w' base g cap l := by
  obtain ⟨h1, h2⟩ := h
  refine ⟨h1, ?_⟩
  rcases h2 with ⟨h2, _⟩ | ⟨g', cap', cur, hv, hg', hh, r⟩
  · cases h2
  · refine .inr ⟨g', cap', cur, hv, hg', ?_, r⟩
    cases hv
    rw [hb.block g hg]
    exact hh

theorem Row.cell {w : World} {base g cap : Nat} {l : List Int} (h : Row w base g cap l) (j : Nat) (hj : j < l.length) : w.cell? ⟨g, j, none⟩ = some (.int .u8 (l.getD j 0)) := by
  have := World.ownsRow.cellAt h j (by omega)
  rw [this, List.getElem?_map, List.getElem?_eq_getElem hj, List.getD_eq_getElem?_getD, List.getElem?_eq_getElem hj]
  rfl

theorem Row.free {w : World} {base g cap : Nat} {l : List Int} (h : Row w base g cap l) (j : Nat) : w.frozen? ⟨g, j, none⟩ = false := World.ownsRow.frozenAt h j

theorem Row.src {w : World} {base g cap : Nat} {l : List Int} (h : Row w base g cap l) (c : Nat) : Src w (some ⟨g, 0, none⟩) l.length c l := by
  refine ⟨rfl, (fun e => by cases e), fun ad e j hj => ?_⟩
  cases e
  rw [Addr.add_lit, Nat.zero_add]
  exact h.cell j hj

theorem Row.set {w : World} {base g cap : Nat} {l : List Int} (h : Row w base g cap l) (j : Nat) (z : Int) : Row (w.setCell ⟨g, j, none⟩ (.int .u8 z)) base g cap (l.set j z) := by
  have := (World.ownsRow.stored h j (.int .u8 z)).1
  unfold Row
  rw [List.map_set, List.length_set]
  exact this

theorem run_at29 (ad : Addr) (N cap : Nat) (i : Int) (k : Nat) (hi : i = k) (hk : k < N) (wx : World) : (Instr.indexAt 29 (.slice (some ad) N cap) (.int .i64 i)).run Try.prog wx = .ok (.pointer (some (ad.add k))) wx := by
  subst hi
  have h1 : (0 : Int) ≤ (k : Int) := by omega
  have h2 : (k : Int) < (N : Int) := by omega
  go_simp

theorem run_at29' (g N cap : Nat) (i : Int) (k : Nat) (hi : i = k) (hk : k < N) (wx : World) : (Instr.indexAt 29 (.slice (some ⟨g, 0, none⟩) N cap) (.int .i64 i)).run Try.prog wx = .ok (.pointer (some ⟨g, k, none⟩)) wx := by
  rw [run_at29 ⟨g, 0, none⟩ N cap i k hi hk, Addr.add_lit, Nat.zero_add]

/-- 'b == nil'. -/
theorem is_nil (ao : Option Addr) (n c : Nat) (wx : World) : (binOp .eql 29 (.slice ao n c) (.slice none 0 0)).run Try.prog wx = .ok (.bool ao.isNone) wx :=
  Lib.run_eql_slice_nil wx 29 5 ao n c 0 0 Try.underlying29

/-- 'make([]byte, n)'. -/
theorem wpList_mkB (w : World) {ops : Array Oper} {rest : List Oper} {o : Oper} {a : Act} {Q : Exit → Act → World → Prop}
    (hg : o.guard = none) (l c : Operand) (hop : o.op = Op.makeSlice 29 l c) (n : Nat) (hl : a.eval l = .int .i64 (n : Int)) (hc : a.eval c = .int .i64 (n : Int)) (b2 : n ≤ 4194304)
    (hK : ∀ w', Row w' w.heap.size w.heap.size n (List.replicate n 0) → w.grownBy w' none → wpList Try.prog ops Q rest (a.put o.dst (.slice (some ⟨w.heap.size, 0, none⟩) n n)) w') :
    wpList Try.prog ops Q (o :: rest) a w := by
  obtain ⟨i0, hi, hz0, hz1, hz2⟩ := info_parts info5
  refine wpList_make_full w hg l c 29 hop w.heap.size 5 i0 (.int .u8 0) 1 Try.underlying29 hi hz0 hz1 .i64 .i64 n n n hl hc rfl rfl (by rw [hz2]; omega) (by unfold maxLen; omega) (Nat.le_refl _) (fun w' h1 h2 => hK w' ?_ h2)
  unfold Row
  rw [List.length_replicate, List.map_replicate]
  have e := toList_madeCells_one (.int .u8 0) n
  rw [Nat.mul_one] at h1
  have e2 : (Value.int IntKind.u8 0).cells = #[.int .u8 0] := rfl
  rw [e2, e] at h1
  exact h1

theorem bel_mk {w w2 : World} (hG : w.grownBy w2 none) : Below w.heap.size w w2 :=
  (Below.refl _ w).grown hG (Nat.le_refl _) (fun k e => by cases e)

theorem set_take (zs xs : List Int) (k : Nat) (hk : k < xs.length) (h : ∀ j, j < k → xs.getD j 0 = zs.getD j 0) : ∀ j, j < k + 1 → (xs.set k (zs.getD k 0)).getD j 0 = zs.getD j 0 := by
  intro j hj
  by_cases e : j = k
  · subst e
    rw [List.getD_eq_getElem?_getD, List.getElem?_set_self hk]
    rfl
  · rw [List.getD_eq_getElem?_getD, List.getElem?_set_ne (fun x => e x.symm), ← List.getD_eq_getElem?_getD]
    exact h j (by omega)

theorem eq_of_getD {xs zs : List Int} (hl : xs.length = zs.length) (h : ∀ j, j < zs.length → xs.getD j 0 = zs.getD j 0) : xs = zs := by
  refine List.ext_getElem hl (fun j h1 h2 => ?_)
  have := h j h2
  rw [List.getD_eq_getElem?_getD, List.getD_eq_getElem?_getD, List.getElem?_eq_getElem h1, List.getElem?_eq_getElem h2] at this
  exact this

/-- What dupBytes hands back: nil, or a row of its own. -/
def Dup (w w' : World) (ao' : Option Addr) (n : Nat) (zs : List Int) : Prop :=
  (ao' = none ∧ n = 0 ∧ zs = []) ∨ ∃ g, ao' = some ⟨g, 0, none⟩ ∧ w.heap.size ≤ g ∧ g < w'.heap.size ∧ zs.length = n ∧ Row w' g g n zs

theorem Dup.src {w w' : World} {ao : Option Addr} {n : Nat} {zs : List Int} (h : Dup w w' ao n zs) : Src w' ao n n zs := by
  rcases h with ⟨rfl, rfl, rfl⟩ | ⟨g, rfl, _, _, h4, h5⟩
  · exact Src.nil w'
  · have := h5.src n
    rw [h4] at this
    exact this

set_option maxHeartbeats 1000000 in
theorem dup_any (ao : Option Addr) (n c : Nat) (zs : List Int) (w : World) (h : Src w ao n c zs) (hn : n ≤ 1048576) :
    Calls Try.prog 20 #[.slice ao n c] w fun e w' => ∃ ao', e = .returned (.slice ao' n n) ∧ ao'.isNone = ao.isNone ∧ Dup w w' ao' n zs ∧ Below w.heap.size w w' := by
  cases ao with
  | none =>
    obtain ⟨h1, h2, _⟩ := h
    obtain ⟨rfl, rfl⟩ := h2 rfl
    have hz : zs = [] := List.eq_nil_of_length_eq_zero h1
    have HZ : Hid (zs = []) := hz
    clear hz h1 h2
    have e0 := is_nil none 0 0
    go_enter Try.func20, Try.ntmps20
    go_wp2
    go_ret
    exact ⟨none, rfl, rfl, .inl ⟨rfl, rfl, HZ.out⟩, Below.refl _ _⟩
  | some ad =>
    have HN : Hid (zs.length = n) := h.1
    have HC : Hid (∀ j, j < n → w.cell? (ad.add j) = some (.int .u8 (zs.getD j 0))) := h.2.2 ad rfl
    clear h
    have e0 := is_nil (some ad) n c
    go_enter Try.func20, Try.ntmps20
    go_wp2_with (at_make; refine wpList_mkB _ rfl _ _ rfl n rfl rfl (by omega) ?_; intro w1 hR hG)
    go_loopw [4] (fun i wr => ∃ (k : Nat) (xs : List Int), k ≤ n ∧ i = .int .i64 k ∧ Hid (xs.length = n) ∧ Row wr w.heap.size w.heap.size n xs ∧ Hid (∀ j, j < k → xs.getD j 0 = zs.getD j 0) ∧ Below w.heap.size w wr) (fun i _ => n - (intOf i).toNat)
    case atStart => exact ⟨0, _, Nat.zero_le _, rfl, List.length_replicate, hR, fun j hj => by omega, bel_mk hG⟩
    case round =>
      clear hR hG
      obtain ⟨k, xs, hk, rfl, hxl, hR, hx, hbel⟩ := hrel
      by_cases hlt : k < n
      · have hc : wr.cell? (ad.add k) = some (.int .u8 (zs.getD k 0)) := by
          have := HC.out k hlt
          rw [hbel.cell (p := ad.add k) (World.block_lt_of_cell? w _ this)]
          exact this
        have hold := hR.cell k (by rw [hxl.out]; exact hlt)
        have hfree := hR.free k
        have HS : Hid _ := hR.set k (zs.getD k 0)
        have HS2 : Hid _ := set_take zs xs k (by rw [hxl.out]; exact hlt) hx.out
        have HS3 : Hid ((xs.set k (zs.getD k 0)).length = n) := by show _ = _; rw [List.length_set]; exact hxl.out
        obtain ⟨z, hz⟩ : ∃ z, zs.getD k 0 = z := ⟨_, rfl⟩
        obtain ⟨x, hxx⟩ : ∃ x, xs.getD k 0 = x := ⟨_, rfl⟩
        rw [hz] at hc HS HS2 HS3
        rw [hxx] at hold
        clear hz hxx hx hxl
        have q1 := run_at29 ad n c (k : Int) k rfl hlt
        have q2 := run_at29' w.heap.size n n (k : Int) k rfl hlt
        go_wp2
        go_roundw
        case rel => exact ⟨k + 1, _, by omega, by go_num, HS3, HS, HS2, hbel.setCell (Nat.le_refl _) _⟩
        case measure => simp [intOf]; omega
      · have HE : Hid (xs = zs) := eq_of_getD (by rw [hxl.out, HN.out]) (fun j hj => hx.out j (by rw [HN.out] at hj; omega))
        clear hx
        go_wp2
        go_ret
        exact ⟨_, rfl, rfl, .inr ⟨w.heap.size, rfl, Nat.le_refl _, hR.lt.2, HN.out, by rw [← HE.out]; exact hR⟩, hbel⟩


set_option maxHeartbeats 1000000 in
theorem same_any (ao bo : Option Addr) (n c c' : Nat) (zs : List Int) (w : World) (h : Src w ao n c zs) (h' : Src w bo n c' zs) (hn : n ≤ 1048577) :
    Calls Try.prog 23 #[.slice ao n c, .slice bo n c'] w fun e w' => e = .returned (.bool true) ∧ ∃ k, w' = w.drewN k := by
  by_cases h0 : n = 0
  · subst h0
    clear h h'
    go_enter Try.func23, Try.ntmps23
    go_wp2
    go_loop [5] (fun i => i = .int .i64 0) (fun _ => 0)
    case atStart => exact rfl
    case round =>
      obtain rfl := hrel
      go_wp2
      go_ret
      exact ⟨rfl, 0, rfl⟩
  · cases ao with
    | none => exact absurd (h.2.1 rfl).1 h0
    | some ad =>
      cases bo with
      | none => exact absurd (h'.2.1 rfl).1 h0
      | some bd =>
        have HC : Hid (∀ j, j < n → w.cell? (ad.add j) = some (.int .u8 (zs.getD j 0))) := h.2.2 ad rfl
        have HC' : Hid (∀ j, j < n → w.cell? (bd.add j) = some (.int .u8 (zs.getD j 0))) := h'.2.2 bd rfl
        clear h h'
        go_enter Try.func23, Try.ntmps23
        go_wp2
        go_loopw [5] (fun i wr => ∃ k nq : Nat, k ≤ n ∧ i = .int .i64 k ∧ wr = w.drewN nq) (fun i _ => n - (intOf i).toNat)
        case atStart => exact ⟨0, 0, Nat.zero_le _, rfl, rfl⟩
        case round =>
          obtain ⟨k, nq, hk, rfl, rfl⟩ := hrel
          by_cases hlt : k < n
          · have x1 := HC.out k hlt
            have x2 := HC'.out k hlt
            obtain ⟨z, hz⟩ : ∃ z, zs.getD k 0 = z := ⟨_, rfl⟩
            rw [hz] at x1 x2
            clear hz
            have q1 := run_at29 ad n c (k : Int) k rfl hlt
            have q2 := run_at29 bd n c' (k : Int) k rfl hlt
            go_wp2
            go_quiet (fail)
            go_wp2
            go_roundw
            case rel => exact ⟨k + 1, _, by omega, by go_num, rfl⟩
            case measure => simp [intOf]; omega
          · go_wp2
            go_ret
            exact ⟨rfl, _, rfl⟩

set_option maxHeartbeats 1000000 in
theorem mkr_any (a b : Option Addr) (n c n' c' : Nat) (w : World) :
    Calls Try.prog 26 #[.slice a n c, .slice b n' c'] w fun e w' => e = .returned (.agg #[.slice a n c, .slice b n' c']) ∧ Below w.heap.size w w' := by
  go_enter Try.func26, Try.ntmps26
  go_wp2
  exact bodyPost_ret (v := .agg #[.slice a n c, .slice b n' c']) (by simp [results, Try.results26, go_sem]) rfl ⟨rfl, (Below.refl _ _).alloc (Nat.le_refl _) _⟩

set_option maxHeartbeats 1000000 in
theorem from_any (a b : Option Addr) (n c n' c' : Nat) (w : World) :
    Calls Try.prog 14 #[.agg #[.slice a n c, .slice b n' c']] w fun e w' => e = .returned (.slice a n c) ∧ Below w.heap.size w w' := by
  go_enter Try.func14, Try.ntmps14
  go_wp2
  go_ret
  exact ⟨rfl, (Below.refl _ _).alloc (Nat.le_refl _) _⟩

set_option maxHeartbeats 1000000 in
theorem to_any (a b : Option Addr) (n c n' c' : Nat) (w : World) :
    Calls Try.prog 15 #[.agg #[.slice a n c, .slice b n' c']] w fun e w' => e = .returned (.slice b n' c') ∧ Below w.heap.size w w' := by
  go_enter Try.func15, Try.ntmps15
  go_wp2
  go_ret
  exact ⟨rfl, (Below.refl _ _).alloc (Nat.le_refl _) _⟩

theorem bytes24_yes (a b : Option Addr) (n c n' c' : Nat) (w : World) (h : n + n' ≤ 1048576) :
    Calls Try.prog 24 #[.slice a n c, .slice b n' c'] w fun e w' => e = .returned (.bool true) ∧ w = w' := by
  go_enter Try.func24, Try.ntmps24
  go_wp2
  go_ret
  exact ⟨rfl, rfl⟩

theorem bytes24_no (a b : Option Addr) (n c n' c' : Nat) (w : World) (hn : n ≤ maxLen) (hn' : n' ≤ maxLen) (h : ¬ n + n' ≤ 1048576) :
    Calls Try.prog 24 #[.slice a n c, .slice b n' c'] w fun e w' => e = .returned (.bool false) ∧ w = w' := by
  unfold maxLen at hn hn'
  go_enter Try.func24, Try.ntmps24
  go_wp2
  all_goals
    go_ret
    exact ⟨rfl, rfl⟩

theorem bytes27_yes (a b : Option Addr) (n c n' c' : Nat) (w : World) (h : n + n' ≤ 1048576) :
    Calls Try.prog 27 #[.slice a n c, .slice b n' c'] w fun e w' => e = .returned (.bool true) ∧ w = w' := by
  go_enter Try.func27, Try.ntmps27
  go_wp2
  go_ret
  exact ⟨rfl, rfl⟩

theorem bytes27_no (a b : Option Addr) (n c n' c' : Nat) (w : World) (hn : n ≤ maxLen) (hn' : n' ≤ maxLen) (h : ¬ n + n' ≤ 1048576) :
    Calls Try.prog 27 #[.slice a n c, .slice b n' c'] w fun e w' => e = .returned (.bool false) ∧ w = w' := by
  unfold maxLen at hn hn'
  go_enter Try.func27, Try.ntmps27
  go_wp2
  all_goals
    go_ret
    exact ⟨rfl, rfl⟩

end Go.Proofs.Qxb6600979a
