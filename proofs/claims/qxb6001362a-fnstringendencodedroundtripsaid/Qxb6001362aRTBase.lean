/-
  The callees of the round trip's law, and the laws of append at a row of bytes.
-/
import Derived.Test.Qxb6001362aSE
import Derived.Test.Qxb6001362aPlainRT
import Derived.Room.AppendFits
import Derived.Laws.IdiomStrings
namespace Go.Proofs.Qxb6001362a
open Go.RowKit

theorem bytes13_yes (a b c : ByteArray) (p q : Bool) (w : World) (h : a.size + b.size + c.size ≤ 1048576) :
    Calls Try.prog 13 #[.string a, .string b, .string c, .bool p, .bool q] w fun e w' => e = .returned (.bool true) ∧ w' = w := by
  go_enter Try.func13, Try.ntmps13
  go_wp2
  go_ret
  exact ⟨rfl, rfl⟩

theorem bytes13_no (a b c : ByteArray) (p q : Bool) (w : World) (ha : a.size ≤ maxLen) (hb : b.size ≤ maxLen) (hc : c.size ≤ maxLen) (h : ¬ a.size + b.size + c.size ≤ 1048576) :
    Calls Try.prog 13 #[.string a, .string b, .string c, .bool p, .bool q] w fun e w' => e = .returned (.bool false) ∧ w' = w := by
  unfold maxLen at ha hb hc
  go_enter Try.func13, Try.ntmps13
  go_wp2
  all_goals
    go_ret
    exact ⟨rfl, rfl⟩

theorem take_snoc (s : ByteArray) (k : Nat) (h : k < s.size) : s.data.toList.take (k + 1) = s.data.toList.take k ++ [s[k]] := by
  rw [List.take_succ_eq_append_getElem (by simpa using h)]
  rfl

theorem lr_yes (q : Nat) (s : ByteArray) (k : Nat) (h : k < s.size) (e : (((s[k].toNat : Nat) : Int) == (q : Int)) = true) (b : Nat)
    (hb : b = if (Pl.lr q (s.data.toList.take k)).1 < (Pl.lr q (s.data.toList.take k)).2 + 1 then (Pl.lr q (s.data.toList.take k)).2 + 1 else (Pl.lr q (s.data.toList.take k)).1) :
    b = (Pl.lr q (s.data.toList.take (k + 1))).1 ∧ (Pl.lr q (s.data.toList.take k)).2 + 1 = (Pl.lr q (s.data.toList.take (k + 1))).2 := by
  rw [take_snoc s k h, Pl.lr_snoc, if_pos (beq_t e)]
  exact ⟨hb, rfl⟩
theorem lr_nope (q : Nat) (s : ByteArray) (k : Nat) (h : k < s.size) (e : (((s[k].toNat : Nat) : Int) == (q : Int)) = false) :
    (Pl.lr q (s.data.toList.take k)).1 = (Pl.lr q (s.data.toList.take (k + 1))).1 ∧ 0 = (Pl.lr q (s.data.toList.take (k + 1))).2 := by
  rw [take_snoc s k h, Pl.lr_snoc, if_neg (beq_f e)]
  exact ⟨rfl, rfl⟩

theorem int_eq {R N : Nat} (h : R + 1 = N) : Value.int .i64 ((R : Int) + 1) = .int .i64 (N : Int) := by rw [← h]; rfl

set_option maxHeartbeats 400000 in
theorem longestRun_any (s : ByteArray) (q : Nat) (w : World) (hs : s.size ≤ 1048576) :
    Calls Try.prog 14 #[.string s, .int .u8 q] w fun e w' => e = .returned (.int .i64 (Pl.lr q s.data.toList).1) ∧ w' = w := by
  go_enter Try.func14, Try.ntmps14
  go_wp2
  go_loop [5, 6, 7] (fun b r i => ∃ k : Nat, k ≤ s.size ∧ i = .int .i64 k ∧ b = .int .i64 (Pl.lr q (s.data.toList.take k)).1 ∧ r = .int .i64 (Pl.lr q (s.data.toList.take k)).2) (fun _ _ i => s.size - (intOf i).toNat)
  case atStart => exact ⟨0, Nat.zero_le _, rfl, rfl, rfl⟩
  case round =>
    obtain ⟨k, hk, rfl, rfl, rfl⟩ := hrel
    have hle := Pl.lr_le q s.data.toList k
    by_cases hlt : k < s.size
    · by_cases e : (((s[k].toNat : Nat) : Int) == (q : Int)) = true
      · have Y : Hid (∀ b, (b = if (Pl.lr q (s.data.toList.take k)).1 < (Pl.lr q (s.data.toList.take k)).2 + 1 then (Pl.lr q (s.data.toList.take k)).2 + 1 else (Pl.lr q (s.data.toList.take k)).1) → _) := lr_yes q s k hlt e
        obtain ⟨B, hB⟩ : ∃ B, (Pl.lr q (s.data.toList.take k)).1 = B := ⟨_, rfl⟩
        obtain ⟨R, hR⟩ : ∃ R, (Pl.lr q (s.data.toList.take k)).2 = R := ⟨_, rfl⟩
        rw [hB, hR] at hle Y ⊢
        clear hB hR
        by_cases hg : B < R + 1
        · go_wp2
          go_round
          case rel => exact ⟨k + 1, by omega, by go_num, int_eq (Y.out (R + 1) (by rw [if_pos hg])).1, int_eq (Y.out (R + 1) (by rw [if_pos hg])).2⟩
          case measure => simp [intOf]; omega
        · go_wp2
          go_round
          case rel => exact ⟨k + 1, by omega, by go_num, by rw [← (Y.out B (by rw [if_neg hg])).1], int_eq (Y.out B (by rw [if_neg hg])).2⟩
          case measure => simp [intOf]; omega
      · have e' : (((s[k].toNat : Nat) : Int) == (q : Int)) = false := by simpa using e
        have Y : Hid (_ ∧ _) := lr_nope q s k hlt e'
        clear e
        obtain ⟨B, hB⟩ : ∃ B, (Pl.lr q (s.data.toList.take k)).1 = B := ⟨_, rfl⟩
        obtain ⟨R, hR⟩ : ∃ R, (Pl.lr q (s.data.toList.take k)).2 = R := ⟨_, rfl⟩
        rw [hB] at Y
        rw [hB, hR] at hle ⊢
        clear hB hR
        go_wp2
        go_round
        case rel => exact ⟨k + 1, by omega, by go_num, by rw [← Y.out.1], by rw [← Y.out.2]; rfl⟩
        case measure => simp [intOf]; omega
    · go_wp2
      go_ret
      exact ⟨ret_int (by rw [List.take_of_length_le (by simp; omega)]), rfl⟩

theorem run_bt0 (s : ByteArray) (h : 0 < s.size) (wx : World) : (Instr.index 9 (.string s) (.int .i64 0)).run Try.prog wx = .ok (.int .u8 (bt s 0)) wx := by
  rw [run_index_string wx 9 s .i64 _ Try.underlying9, dif_pos (by omega)]
  simp only [Int.toNat_zero]
  rw [bt_at]

theorem longestRun39 (s : ByteArray) (w : World) (hs : s.size ≤ 1048576) :
    Calls Try.prog 14 #[.string s, .int .u8 39] w fun e w' => e = .returned (.int .i64 (Pl.lr 39 s.data.toList).1) ∧ w' = w := longestRun_any s 39 w hs
theorem longestRun34 (s : ByteArray) (w : World) (hs : s.size ≤ 1048576) :
    Calls Try.prog 14 #[.string s, .int .u8 34] w fun e w' => e = .returned (.int .i64 (Pl.lr 34 s.data.toList).1) ∧ w' = w := longestRun_any s 34 w hs

theorem info5 : (Try.prog.info? 5).map (fun i => (i.zero, i.size, i.bytes)) = some (some (.int .u8 0), 1, 1) := by kernel_rfl

/-- A row of bytes of the call's own, at the head of block g, with room for cap. -/
def Buf (w : World) (base g cap : Nat) (l : List UInt8) : Prop := w.ownsRow base 5 1 (.slice (some ⟨g, 0, none⟩) l.length cap) l.length (Lib.byteCells l)

theorem Buf.alloc {w : World} {base g cap : Nat} {l : List UInt8} (h : Buf w base g cap l) (o : Obj) : Buf (w.alloc o) base g cap l := World.ownsRow.alloc h o

theorem Buf.lt {w : World} {base g cap : Nat} {l : List UInt8} (h : Buf w base g cap l) : base ≤ g ∧ g < w.heap.size := World.ownsRow.lt h g rfl

theorem Buf.below {w w' : World} {base g cap B : Nat} {l : List UInt8} (h : Buf w base g cap l) (hb : Below B w w') (hg : g < B) : Buf w' base g cap l := by
  obtain ⟨h1, h2⟩ := h
  refine ⟨h1, ?_⟩
  rcases h2 with ⟨h2, _⟩ | ⟨g', cap', cur, hv, hg', hh, r⟩
  · cases h2
  · refine .inr ⟨g', cap', cur, hv, hg', ?_, r⟩
    cases hv
    rw [hb.block g hg]
    exact hh

theorem Buf.cell {w : World} {base g cap : Nat} {l : List UInt8} (h : Buf w base g cap l) (j : Nat) (hj : j < l.length) : w.cell? ⟨g, j, none⟩ = some (.int .u8 (l[j].toNat : Int)) := by
  have := World.ownsRow.cellAt h j (by omega)
  rw [this]
  unfold Lib.byteCells
  rw [List.getElem?_map, List.getElem?_eq_getElem hj]
  rfl

theorem byteCells_one (l : List UInt8) : ∀ u ∈ Lib.byteCells l, u.oneCell' = true := by
  intro u hu
  simp only [Lib.byteCells, List.mem_map] at hu
  obtain ⟨b, _, rfl⟩ := hu
  rfl

theorem byteCells_app (a b : List UInt8) : Lib.byteCells (a ++ b) = Lib.byteCells a ++ Lib.byteCells b := by simp [Lib.byteCells]

/-- 'b = append(b, c)', c a byte, within the capacity. -/
theorem wpList_byte (w : World) {ops : Array Oper} {rest : List Oper} {o : Oper} {a : Act} {Q : Exit → Act → World → Prop}
    (hg : o.guard = none) (s x : Operand) (hop : o.op = Op.call { callee := Callee.builtin Builtin.append, args := #[s, x], argTypes := #[27, 27] })
    (base g cap : Nat) (l : List UInt8) (c : UInt8) (n : Nat) (hs : a.eval s = .slice (some ⟨g, 0, none⟩) n cap) (hn : n = l.length) (hown : Buf w base g cap l) (ad : Addr) (hx : a.eval x = .slice (some ad) 1 1)
    (hc : w.cell? ad = some (.int .u8 (c.toNat : Int))) (b1 : n + 1 ≤ cap)
    (hK : ∀ w', Buf w' base g cap (l ++ [c]) → w.grownBy w' (some g) → wpList Try.prog ops Q rest (a.put o.dst (.slice (some ⟨g, 0, none⟩) (n + 1) cap)) w') :
    wpList Try.prog ops Q (o :: rest) a w := by
  subst hn
  obtain ⟨i0, hi, hz0, hz1, hz2⟩ := info_parts info5
  refine wpList_append_fits w hg s x 27 hop base 5 i0 1 Try.underlying27 hi hz1 g l.length cap (Lib.byteCells l) hs hown ad 1 1 [.int .u8 (c.toNat : Int)] hx rfl ?_ ?_ b1 ?_
  · intro j u hj
    match j, hj with
    | 0, hj =>
      simp only [List.getElem?_cons_zero, Option.some.injEq] at hj
      subst hj
      rw [show ad.add 0 = ad from by simp [Addr.add]]
      exact hc
  · intro u hu
    simp only [List.mem_singleton] at hu
    subst hu
    rfl
  · intro w' h1 h2
    refine hK w' ?_ h2
    unfold Buf
    rw [byteCells_app, List.length_append]
    exact h1

/-- 'b = append(b, s...)', s a string, within the capacity. -/
theorem wpList_str (w : World) {ops : Array Oper} {rest : List Oper} {o : Oper} {a : Act} {Q : Exit → Act → World → Prop}
    (hg : o.guard = none) (sl x : Operand) (hop : o.op = Op.call { callee := Callee.builtin Builtin.append, args := #[sl, x], argTypes := #[27, 9] })
    (base g cap : Nat) (l : List UInt8) (s : ByteArray) (n : Nat) (hs : a.eval sl = .slice (some ⟨g, 0, none⟩) n cap) (hn : n = l.length) (hown : Buf w base g cap l) (hx : a.eval x = .string s)
    (b0 : 0 < cap) (b1 : n + s.size ≤ cap)
    (hK : ∀ w', Buf w' base g cap (l ++ s.data.toList) → w.grownBy w' (some g) → wpList Try.prog ops Q rest (a.put o.dst (.slice (some ⟨g, 0, none⟩) (n + s.size) cap)) w') :
    wpList Try.prog ops Q (o :: rest) a w := by
  subst hn
  obtain ⟨i0, hi, hz0, hz1, hz2⟩ := info_parts info5
  refine Lib.wpList_append_fits_string w hg sl x 27 9 hop base 5 i0 Try.underlying27 Try.underlying9 hi hz1 (some ⟨g, 0, none⟩) l.length cap (Lib.byteCells l) hs hown s hx b0 b1 ?_
  intro w' h1 h2
  refine hK w' ?_ h2
  unfold Buf
  have e : s.data.toList.length = s.size := by simp
  rw [byteCells_app, List.length_append, e]
  exact h1

/-- 'b = append(b, t...)', t another row of the call's own, within the capacity. -/
theorem wpList_row (w : World) {ops : Array Oper} {rest : List Oper} {o : Oper} {a : Act} {Q : Exit → Act → World → Prop}
    (hg : o.guard = none) (s x : Operand) (hop : o.op = Op.call { callee := Callee.builtin Builtin.append, args := #[s, x], argTypes := #[27, 27] })
    (base g cap : Nat) (l : List UInt8) (n : Nat) (hs : a.eval s = .slice (some ⟨g, 0, none⟩) n cap) (hn : n = l.length) (hown : Buf w base g cap l)
    (base' g' cap' : Nat) (t : List UInt8) (hx : a.eval x = .slice (some ⟨g', 0, none⟩) t.length cap') (hown' : Buf w base' g' cap' t) (b1 : n + t.length ≤ cap)
    (hK : ∀ w', Buf w' base g cap (l ++ t) → w.grownBy w' (some g) → wpList Try.prog ops Q rest (a.put o.dst (.slice (some ⟨g, 0, none⟩) (n + t.length) cap)) w') :
    wpList Try.prog ops Q (o :: rest) a w := by
  subst hn
  obtain ⟨i0, hi, hz0, hz1, hz2⟩ := info_parts info5
  refine wpList_append_fits w hg s x 27 hop base 5 i0 1 Try.underlying27 hi hz1 g l.length cap (Lib.byteCells l) hs hown ⟨g', 0, none⟩ t.length cap' (Lib.byteCells t) hx (by rw [Lib.byteCells_length]; omega) ?_ (byteCells_one t) b1 ?_
  · intro j u hj
    have hj' : j < t.length := by
      have := (List.getElem?_eq_some_iff.1 hj).1
      rwa [Lib.byteCells_length] at this
    have h := hown'.cell j hj'
    unfold Lib.byteCells at hj
    rw [List.getElem?_map, List.getElem?_eq_getElem hj'] at hj
    simp only [Option.map_some, Option.some.injEq] at hj
    subst hj
    rw [Addr.add_lit, Nat.zero_add]
    exact h
  · intro w' h1 h2
    refine hK w' ?_ h2
    unfold Buf
    rw [byteCells_app, List.length_append]
    exact h1

/-- 'make([]byte, 0, n)'. -/
theorem wpList_mk (w : World) {ops : Array Oper} {rest : List Oper} {o : Oper} {a : Act} {Q : Exit → Act → World → Prop}
    (hg : o.guard = none) (l c : Operand) (hop : o.op = Op.makeSlice 27 l c) (C : Int) (n : Nat) (hl : a.eval l = .int .i64 0) (hc : a.eval c = .int .i64 C) (hC : C = (n : Int)) (b2 : n ≤ 281474976710656)
    (hK : ∀ w', Buf w' w.heap.size w.heap.size n [] → w.grownBy w' none → wpList Try.prog ops Q rest (a.put o.dst (.slice (some ⟨w.heap.size, 0, none⟩) 0 n)) w') :
    wpList Try.prog ops Q (o :: rest) a w := by
  obtain ⟨i0, hi, hz0, hz1, hz2⟩ := info_parts info5
  exact wpList_make_own w hg l c 27 hop w.heap.size 5 i0 (.int .u8 0) 1 Try.underlying27 hi hz0 hz1 .i64 .i64 C n hl hc hC (by rw [hz2]; omega) (by unfold maxLen; omega) (Nat.le_refl _) hK

theorem bel_step {B g : Nat} {w wr w2 : World} {o : Obj} (hbel : Below B w wr) (hs : B ≤ wr.heap.size) (hG : (wr.alloc o).grownBy w2 (some g)) (hg : B ≤ g) : Below B w w2 :=
  (hbel.alloc hs o).grown hG (Nat.le_trans hs (by simp)) (fun k e => by cases e; exact hg)
theorem bel_step0 {B g : Nat} {w wr w2 : World} (hbel : Below B w wr) (hs : B ≤ wr.heap.size) (hG : wr.grownBy w2 (some g)) (hg : B ≤ g) : Below B w w2 :=
  hbel.grown hG hs (fun k e => by cases e; exact hg)
theorem bel_mk {w w2 : World} (hG : w.grownBy w2 none) : Below w.heap.size w w2 :=
  (Below.refl _ w).grown hG (Nat.le_refl _) (fun k e => by cases e)

theorem app_len {n : Nat} {l : List UInt8} (h : n = l.length) (s : ByteArray) : n + s.size = (l ++ s.data.toList).length := by
  have e : s.data.toList.length = s.size := by simp
  rw [List.length_append, e, h]
theorem rep_snoc {w : World} {b g c j : Nat} {X : List UInt8} {q : UInt8} (h : Buf w b g c (X ++ List.replicate j q ++ [q])) : Buf w b g c (X ++ List.replicate (j + 1) q) := by
  rw [List.replicate_succ', ← List.append_assoc]
  exact h
theorem esc92 {x : Nat} (h : x = 34 ∨ x = 92) (h' : ((x : Int) == 34) = false) : ((x : Int) == 92) = true := by
  have := beq_f (y := 34) h'
  have e : x = 92 := by omega
  rw [e]
  rfl
theorem noesc34 {x : Nat} (h : ¬ (x = 34 ∨ x = 92)) : ((x : Int) == 34) = false := beq_eq_false_iff_ne.mpr (by omega)
theorem noesc92 {x : Nat} (h : ¬ (x = 34 ∨ x = 92)) : ((x : Int) == 92) = false := beq_eq_false_iff_ne.mpr (by omega)

/-- 'string(b)'. -/
theorem run_back (w : World) (base g cap : Nat) (l : List UInt8) (n : Nat) (hn : n = l.length) (h : Buf w base g cap l) : (convert 27 9 (.slice (some ⟨g, 0, none⟩) n cap)).run Try.prog w = .ok (.string ⟨l.toArray⟩) w := by
  subst hn
  exact run_convert_bytes_back w 27 9 5 ⟨g, 0, none⟩ cap l Try.underlying27 Try.underlying5 Try.underlying9 (fun j hj => by rw [Addr.add_lit, Nat.zero_add]; exact h.cell j hj)

end Go.Proofs.Qxb6001362a
