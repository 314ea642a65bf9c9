/-
  THE WALK of statementStarts (function 21) and of its exported name (function 16).
-/
import Derived.Test.Qxb6001362aSE
import Derived.Test.Qxb6001362aPlainSt
namespace Go.Proofs.Qxb6001362a
open Go.RowKit

theorem info3 : (Try.prog.info? 3).map (fun i => (i.zero, i.size, i.bytes)) = some (some (.int .i64 0), 1, 8) := by kernel_rfl

def natCells (l : List Nat) : List Value := l.map fun (x : Nat) => Value.int .i64 (x : Int)

theorem natCells_app (a b : List Nat) : natCells (a ++ b) = natCells a ++ natCells b := by simp [natCells]
theorem natCells_length (l : List Nat) : (natCells l).length = l.length := by simp [natCells]

/-- The slice v owns the numbers l, in a block from 'base' on. -/
def Ints (w : World) (base : Nat) (v : Value) (l : List Nat) : Prop := w.ownsRow base 3 1 v l.length (natCells l)

theorem Ints.alloc {w : World} {base : Nat} {v : Value} {l : List Nat} (h : Ints w base v l) (o : Obj) : Ints (w.alloc o) base v l := World.ownsRow.alloc h o

theorem Ints.below {w w' : World} {base : Nat} {v : Value} {l : List Nat} (h : Ints w base v l) (hb : Below w.heap.size w w') : Ints w' base v l := by
  have hlt := World.ownsRow.lt h
  obtain ⟨h1, h2⟩ := h
  refine ⟨h1, ?_⟩
  rcases h2 with h2 | ⟨g', cap', cur, hv, hg', hh, r⟩
  · exact .inl h2
  · refine .inr ⟨g', cap', cur, hv, hg', ?_, r⟩
    rw [hb.block g' (by subst hv; exact (hlt g' rfl).2)]
    exact hh

/-- What a caller reads of it, where there is one number or more. -/
theorem Ints.read {w : World} {base : Nat} {v : Value} {l : List Nat} (h : Ints w base v l) (h0 : 0 < l.length) :
    ∃ g cap, v = .slice (some ⟨g, 0, none⟩) l.length cap ∧ base ≤ g ∧ g < w.heap.size ∧ l.length ≤ cap ∧ cap ≤ maxLen ∧ ∀ j, j < l.length → w.cell? ⟨g, j, none⟩ = some (.int .i64 ((l.getD j 0 : Nat) : Int)) := by
  have h' := h
  obtain ⟨h1, h2⟩ := h
  rcases h2 with ⟨_, h2⟩ | ⟨g, cap, cur, hv, hg, hh, hc, hm, r⟩
  · omega
  · subst hv
    refine ⟨g, cap, rfl, hg, (World.ownsRow.lt h' g rfl).2, hc, hm, fun j hj => ?_⟩
    rw [World.ownsRow.cellAt h' j (by omega)]
    unfold natCells
    rw [List.getElem?_map, List.getElem?_eq_getElem hj, List.getD_eq_getElem?_getD, List.getElem?_eq_getElem hj]
    rfl

/-- 'xs = append(xs, c)'. -/
theorem wpList_nat (w : World) {ops : Array Oper} {rest : List Oper} {o : Oper} {a : Act} {Q : Exit → Act → World → Prop}
    (hg : o.guard = none) (s x : Operand) (hop : o.op = Op.call { callee := Callee.builtin Builtin.append, args := #[s, x], argTypes := #[29, 29] })
    (base : Nat) (v : Value) (l : List Nat) (c : Nat) (hs : a.eval s = v) (hown : Ints w base v l) (ad : Addr) (hx : a.eval x = .slice (some ad) 1 1)
    (hc : w.cell? ad = some (.int .i64 (c : Int))) (b1 : l.length + 1 ≤ 4194304) (hbase : base ≤ w.heap.size)
    (hK : ∀ v' w', Ints w' base v' (l ++ [c]) → Below base w w' → wpList Try.prog ops Q rest (a.put o.dst v') w') :
    wpList Try.prog ops Q (o :: rest) a w := by
  obtain ⟨i0, hi, hz0, hz1, hz2⟩ := info_parts info3
  refine wpList_append_own w hg s x 29 hop base 3 i0 (.int .i64 0) 1 8 Try.underlying29 hi hz0 hz1 hz2 rfl (by decide) v l.length (natCells l) hs hown ad 1 1 [.int .i64 (c : Int)] hx rfl ?_ ?_ (by unfold maxLen; omega) (by omega) hbase ?_
  · intro j u hj
    match j, hj with
    | 0, hj =>
      simp only [List.getElem?_cons_zero, Option.some.injEq] at hj
      subst hj
      rw [Addr.add_zero']
      exact hc
  · intro u hu
    simp only [List.mem_singleton] at hu
    subst hu
    rfl
  · intro v' w' h1 h2 _
    refine hK v' w' ?_ ((Below.refl base w).grown h2 hbase (fun k e => (World.ownsRow.lt hown k e).1))
    unfold Ints
    rw [natCells_app, List.length_append]
    exact h1

theorem ne_b {x y : Nat} (h : ¬ x = y) : (((x : Nat) : Int) == ((y : Nat) : Int)) = false := beq_eq_false_iff_ne.mpr (by omega)
theorem eq_b {x y : Nat} (h : x = y) : (((x : Nat) : Int) == ((y : Nat) : Int)) = true := by rw [h]; simp

theorem nb_t {x y : Nat} (h : ¬ x = y) : (((x : Nat) : Int) != ((y : Nat) : Int)) = true := by rw [bne, ne_b h]; rfl
theorem nb_f {x y : Nat} (h : x = y) : (((x : Nat) : Int) != ((y : Nat) : Int)) = false := by rw [bne, eq_b h]; rfl

section steps
variable (s : ByteArray) (k : Nat) (d : Int) (L R : List Nat)
theorem ss_line0 (hk : k < s.size) (h1 : bt s k = 10) (h : Hid (R = L ++ Pl.st (bt s) s.size k 0)) : Hid (R = (L ++ [k + 1]) ++ Pl.st (bt s) s.size (k + 1) 0) := by
  show R = _
  rw [h.out, Pl.st_line0 _ _ _ _ hk h1 rfl]
  simp
theorem ss_line (hk : k < s.size) (h1 : bt s k = 10) (h0 : ¬ d = 0) (h : Hid (R = L ++ Pl.st (bt s) s.size k d)) : Hid (R = L ++ Pl.st (bt s) s.size (k + 1) d) := by
  show R = _
  rw [h.out, Pl.st_line _ _ _ _ hk h1 h0]
theorem ss_cmt (hk : k < s.size) (j : Nat) (h1 : bt s k = 35) (hj : Pl.cmt (bt s) s.size k = j) (h : Hid (R = L ++ Pl.st (bt s) s.size k d)) : Hid (R = L ++ Pl.st (bt s) s.size j d) := by
  show R = _
  rw [h.out, Pl.st_cmt _ _ _ _ hk h1, hj]
theorem ss_str (hk : k < s.size) (j : Nat) (h1 : bt s k = 34 ∨ bt s k = 39) (hj : j = Pl.strEnd (bt s) s.size k) (h : Hid (R = L ++ Pl.st (bt s) s.size k d)) : Hid (R = L ++ Pl.st (bt s) s.size j d) := by
  show R = _
  rw [h.out, Pl.st_str _ _ _ _ hk h1, hj]
theorem ss_open (hk : k < s.size) (h1 : bt s k = 91 ∨ bt s k = 123) (h : Hid (R = L ++ Pl.st (bt s) s.size k d)) : Hid (R = L ++ Pl.st (bt s) s.size (k + 1) (d + 1)) := by
  show R = _
  rw [h.out, Pl.st_open _ _ _ _ hk h1]
theorem ss_shut (hk : k < s.size) (h1 : bt s k = 93 ∨ bt s k = 125) (h : Hid (R = L ++ Pl.st (bt s) s.size k d)) : Hid (R = L ++ Pl.st (bt s) s.size (k + 1) (d - 1)) := by
  show R = _
  rw [h.out, Pl.st_shut _ _ _ _ hk h1]
theorem ss_on (hk : k < s.size) (h1 : ¬ bt s k = 10) (h2 : ¬ bt s k = 35) (h3 : ¬ (bt s k = 34 ∨ bt s k = 39)) (h4 : ¬ (bt s k = 91 ∨ bt s k = 123)) (h5 : ¬ (bt s k = 93 ∨ bt s k = 125)) (h : Hid (R = L ++ Pl.st (bt s) s.size k d)) : Hid (R = L ++ Pl.st (bt s) s.size (k + 1) d) := by
  show R = _
  rw [h.out, Pl.st_on _ _ _ _ hk h1 h2 h3 h4 h5]
end steps

set_option maxHeartbeats 2000000 in
theorem starts_any (s : ByteArray) (w : World) (hs : s.size ≤ 2097152) :
    Calls Try.prog 21 #[.string s] w fun e w' => ∃ v, e = .returned v ∧ Ints w' w.heap.size v (Pl.starts (bt s) s.size) ∧ Below w.heap.size w w' := by
  obtain ⟨R, hR⟩ : ∃ R, R = Pl.starts (bt s) s.size := ⟨_, rfl⟩
  have H0 : Hid (R = [0] ++ Pl.st (bt s) s.size 0 0) := hR
  rw [← hR]
  clear hR
  go_enter Try.func21, Try.ntmps21
  go_wp2
  go_loopw [3, 4, 5] (fun v dd at_ wr => ∃ (k : Nat) (d : Int) (L : List Nat), k ≤ s.size ∧ at_ = .int .i64 k ∧ dd = .int .i64 d ∧ -(k : Int) ≤ d ∧ d ≤ k ∧ Ints wr w.heap.size v L ∧ L.length ≤ k + 1 ∧ Hid (R = L ++ Pl.st (bt s) s.size k d) ∧ Below w.heap.size w wr) (fun _ _ i _ => s.size - (intOf i).toNat)
  case atStart => exact ⟨0, 0, [0], Nat.zero_le _, rfl, rfl, by omega, by omega, World.ownsRow_lit w #[.int .i64 0] 1 (Nat.le_refl _) (by unfold maxLen; omega) rfl, by simp, H0, (Below.refl _ _).alloc (Nat.le_refl _) _⟩
  case round =>
    clear H0
    obtain ⟨k, d, L, hk, rfl, rfl, hd1, hd2, hI, hL, hR, hbel⟩ := hrel
    by_cases hlt : k < s.size
    · by_cases c10 : bt s k = 10
      · have t10 : ((s[k].toNat : Int) == 10) = true := eq_b (y := 10) (by rw [bt_at]; omega)
        by_cases hd0 : d = 0
        · subst hd0
          have HS := ss_line0 s k L R hlt c10 hR
          clear hR c10
          go_wp2_with (at_builtin; refine wpList_nat _ rfl (.tmp 22) (.tmp 24) rfl w.heap.size _ L (k + 1) rfl (hI.alloc _) ⟨wr.heap.size, 0, none⟩ rfl (by simp) (by omega) (by have := hbel.size; simp; omega) ?_; intro v' w2 hI2 hb2)
          go_roundw
          case rel => exact ⟨k + 1, 0, L ++ [k + 1], by omega, by go_num, rfl, by omega, by omega, hI2, by simp; omega, HS, (hbel.alloc hbel.size _).trans hb2⟩
          case measure => simp [intOf]; omega
        · have hdb : (d == 0) = false := beq_eq_false_iff_ne.mpr hd0
          have HS := ss_line s k d L R hlt c10 hd0 hR
          clear hR c10 hd0
          go_wp2
          go_roundw
          case rel => exact ⟨k + 1, d, L, by omega, by go_num, by go_num, by omega, by omega, hI, by omega, HS, hbel⟩
          case measure => simp [intOf]; omega
      · by_cases c35 : bt s k = 35
        · have t10 : ((s[k].toNat : Int) == 10) = false := ne_b (y := 10) (by rw [bt_at]; omega)
          have t35 : ((s[k].toNat : Int) == 35) = true := eq_b (y := 35) (by rw [bt_at]; omega)
          have hR' : Hid (∀ j, Pl.cmt (bt s) s.size k = j → R = L ++ Pl.st (bt s) s.size j d) := fun j hj => ss_cmt s k d L R hlt j c35 hj hR
          have HC : Hid (¬ bt s k = 10) := c10
          clear hR c35 c10
          go_wp2
          go_loop [5] (fun x => ∃ j : Nat, k ≤ j ∧ j ≤ s.size ∧ x = .int .i64 j ∧ Hid (Pl.cmt (bt s) s.size k = Pl.cmt (bt s) s.size j)) (fun x => s.size - (intOf x).toNat)
          case atStart => exact ⟨k, by omega, by omega, rfl, rfl⟩
          case round =>
            obtain ⟨j, hkj, hj, rfl, hcm⟩ := hrel
            by_cases hjn : j < s.size
            · by_cases hj10 : bt s j = 10
              · have t10' : ((s[j].toNat : Int) != 10) = false := nb_f (y := 10) (by rw [bt_at]; exact hj10)
                have HS := hR'.out j (hcm.out.trans (Pl.cmt_stop _ _ _ (fun x => x.2 hj10)))
                have hne : k < j := by
                  rcases Nat.lt_or_ge k j with x | x
                  · exact x
                  · exact absurd (show bt s k = 10 by rw [show k = j from by omega]; exact hj10) HC.out
                have HS' : Hid _ := HS
                clear HS hj10
                go_wp2
                go_roundw
                case rel => exact ⟨j, d, L, by omega, by go_num, rfl, by omega, by omega, hI, by omega, HS', hbel⟩
                case measure => simp [intOf]; omega
              · have t10' : ((s[j].toNat : Int) != 10) = true := nb_t (y := 10) (by rw [bt_at]; exact hj10)
                have HS : Hid _ := hcm.out.trans (Pl.cmt_step _ _ _ hjn hj10)
                clear hj10
                go_wp2
                go_round
                case rel => exact ⟨j + 1, by omega, by omega, by go_num, HS⟩
                case measure => simp [intOf]; omega
            · have HS' : Hid _ := hR'.out j (hcm.out.trans (Pl.cmt_stop _ _ _ (fun x => hjn x.1)))
              go_wp2
              go_roundw
              case rel => exact ⟨j, d, L, by omega, by go_num, rfl, by omega, by omega, hI, by omega, HS', hbel⟩
              case measure => simp [intOf]; omega
        · by_cases c3 : bt s k = 34 ∨ bt s k = 39
          · have bnd := Pl.strEnd_bounds (bt s) s.size k hlt
            have c20 := fun w => stringEnd_wide s k w hs hlt
            obtain ⟨r, hr⟩ : ∃ r, r = Pl.strEnd (bt s) s.size k := ⟨_, rfl⟩
            rw [← hr] at bnd c20
            have b1 := bnd.1
            have b2 := bnd.2.1
            have HS := ss_str s k d L R hlt r c3 hr hR
            clear hr hR bnd
            have t10 : ((s[k].toNat : Int) == 10) = false := ne_b (y := 10) (by rw [bt_at]; omega)
            have t35 : ((s[k].toNat : Int) == 35) = false := ne_b (y := 35) (by rw [bt_at]; omega)
            by_cases c34 : bt s k = 34
            · have t34 : ((s[k].toNat : Int) == 34) = true := eq_b (y := 34) (by rw [bt_at]; omega)
              clear c10 c35 c3 c34
              go_wp2_with (go_at_call 20; refine (c20 _).mono ?_; rintro e w1 ⟨rfl, hb1⟩)
              go_roundw
              case rel => exact ⟨r, d, L, by omega, by go_num, rfl, by omega, by omega, hI.below hb1, by omega, HS, hbel.trans (hb1.mono hbel.size)⟩
              case measure => simp [intOf]; omega
            · have t34 : ((s[k].toNat : Int) == 34) = false := ne_b (y := 34) (by rw [bt_at]; omega)
              have t39 : ((s[k].toNat : Int) == 39) = true := eq_b (y := 39) (by rw [bt_at]; omega)
              clear c10 c35 c3 c34
              go_wp2_with (go_at_call 20; refine (c20 _).mono ?_; rintro e w1 ⟨rfl, hb1⟩)
              go_roundw
              case rel => exact ⟨r, d, L, by omega, by go_num, rfl, by omega, by omega, hI.below hb1, by omega, HS, hbel.trans (hb1.mono hbel.size)⟩
              case measure => simp [intOf]; omega
          · by_cases c4 : bt s k = 91 ∨ bt s k = 123
            · have HS := ss_open s k d L R hlt c4 hR
              have t10 : ((s[k].toNat : Int) == 10) = false := ne_b (y := 10) (by rw [bt_at]; omega)
              have t35 : ((s[k].toNat : Int) == 35) = false := ne_b (y := 35) (by rw [bt_at]; omega)
              have t34 : ((s[k].toNat : Int) == 34) = false := ne_b (y := 34) (by rw [bt_at]; omega)
              have t39 : ((s[k].toNat : Int) == 39) = false := ne_b (y := 39) (by rw [bt_at]; omega)
              clear hR
              by_cases c91 : bt s k = 91
              · have t91 : ((s[k].toNat : Int) == 91) = true := eq_b (y := 91) (by rw [bt_at]; omega)
                clear c10 c35 c3 c4 c91
                go_wp2
                go_roundw
                case rel => exact ⟨k + 1, d + 1, L, by omega, by go_num, by go_num, by omega, by omega, hI, by omega, HS, hbel⟩
                case measure => simp [intOf]; omega
              · have t91 : ((s[k].toNat : Int) == 91) = false := ne_b (y := 91) (by rw [bt_at]; omega)
                have t123 : ((s[k].toNat : Int) == 123) = true := eq_b (y := 123) (by rw [bt_at]; omega)
                clear c10 c35 c3 c4 c91
                go_wp2
                go_roundw
                case rel => exact ⟨k + 1, d + 1, L, by omega, by go_num, by go_num, by omega, by omega, hI, by omega, HS, hbel⟩
                case measure => simp [intOf]; omega
            · by_cases c5 : bt s k = 93 ∨ bt s k = 125
              · have HS := ss_shut s k d L R hlt c5 hR
                have t10 : ((s[k].toNat : Int) == 10) = false := ne_b (y := 10) (by rw [bt_at]; omega)
                have t35 : ((s[k].toNat : Int) == 35) = false := ne_b (y := 35) (by rw [bt_at]; omega)
                have t34 : ((s[k].toNat : Int) == 34) = false := ne_b (y := 34) (by rw [bt_at]; omega)
                have t39 : ((s[k].toNat : Int) == 39) = false := ne_b (y := 39) (by rw [bt_at]; omega)
                have t91 : ((s[k].toNat : Int) == 91) = false := ne_b (y := 91) (by rw [bt_at]; omega)
                have t123 : ((s[k].toNat : Int) == 123) = false := ne_b (y := 123) (by rw [bt_at]; omega)
                clear hR
                by_cases c93 : bt s k = 93
                · have t93 : ((s[k].toNat : Int) == 93) = true := eq_b (y := 93) (by rw [bt_at]; omega)
                  clear c10 c35 c3 c4 c5 c93
                  go_wp2
                  go_roundw
                  case rel => exact ⟨k + 1, d - 1, L, by omega, by go_num, by go_num, by omega, by omega, hI, by omega, HS, hbel⟩
                  case measure => simp [intOf]; omega
                · have t93 : ((s[k].toNat : Int) == 93) = false := ne_b (y := 93) (by rw [bt_at]; omega)
                  have t125 : ((s[k].toNat : Int) == 125) = true := eq_b (y := 125) (by rw [bt_at]; omega)
                  clear c10 c35 c3 c4 c5 c93
                  go_wp2
                  go_roundw
                  case rel => exact ⟨k + 1, d - 1, L, by omega, by go_num, by go_num, by omega, by omega, hI, by omega, HS, hbel⟩
                  case measure => simp [intOf]; omega
              · have HS := ss_on s k d L R hlt c10 c35 c3 c4 c5 hR
                have t10 : ((s[k].toNat : Int) == 10) = false := ne_b (y := 10) (by rw [bt_at]; omega)
                have t35 : ((s[k].toNat : Int) == 35) = false := ne_b (y := 35) (by rw [bt_at]; omega)
                have t34 : ((s[k].toNat : Int) == 34) = false := ne_b (y := 34) (by rw [bt_at]; omega)
                have t39 : ((s[k].toNat : Int) == 39) = false := ne_b (y := 39) (by rw [bt_at]; omega)
                have t91 : ((s[k].toNat : Int) == 91) = false := ne_b (y := 91) (by rw [bt_at]; omega)
                have t123 : ((s[k].toNat : Int) == 123) = false := ne_b (y := 123) (by rw [bt_at]; omega)
                have t93 : ((s[k].toNat : Int) == 93) = false := ne_b (y := 93) (by rw [bt_at]; omega)
                have t125 : ((s[k].toNat : Int) == 125) = false := ne_b (y := 125) (by rw [bt_at]; omega)
                clear hR c10 c35 c3 c4 c5
                go_wp2
                go_roundw
                case rel => exact ⟨k + 1, d, L, by omega, by go_num, by go_num, by omega, by omega, hI, by omega, HS, hbel⟩
                case measure => simp [intOf]; omega
    · have HE : Hid (R = L) := by
        show R = L
        rw [hR.out, Pl.st_past _ _ _ _ hlt, List.append_nil]
      go_wp2
      go_ret
      exact ⟨_, rfl, by rw [HE.out]; exact hI, hbel⟩

theorem run_at29 (g N cap : Nat) (i : Int) (k : Nat) (hi : i = k) (hk : k < N) (wx : World) : (Instr.indexAt 29 (.slice (some ⟨g, 0, none⟩) N cap) (.int .i64 i)).run Try.prog wx = .ok (.pointer (some ⟨g, k, none⟩)) wx := by
  subst hi
  have h1 : (0 : Int) ≤ (k : Int) := by omega
  have h2 : (k : Int) < (N : Int) := by omega
  go_simp

/-- ZZStatementStarts, as its callers read it. -/
theorem ZZStarts_any (s : ByteArray) (w : World) (hs : s.size ≤ 2097152) :
    Calls Try.prog 16 #[.string s] w fun e w' => ∃ g cap, e = .returned (.slice (some ⟨g, 0, none⟩) (Pl.starts (bt s) s.size).length cap) ∧ w.heap.size ≤ g ∧ g < w'.heap.size ∧ (Pl.starts (bt s) s.size).length ≤ cap ∧ cap ≤ maxLen ∧
      (∀ j, j < (Pl.starts (bt s) s.size).length → w'.cell? ⟨g, j, none⟩ = some (.int .i64 (((Pl.starts (bt s) s.size).getD j 0 : Nat) : Int))) ∧ Below w.heap.size w w' := by
  have h : Calls Try.prog 16 #[.string s] w fun e w' => ∃ v, e = .returned v ∧ Ints w' w.heap.size v (Pl.starts (bt s) s.size) ∧ Below w.heap.size w w' := by
    go_enter Try.func16, Try.ntmps16
    go_wp2_with (go_at_call 21; refine (starts_any s _ hs).mono ?_; rintro e w1 ⟨v, rfl, hI, hb⟩)
    go_ret
    exact ⟨v, rfl, hI, hb⟩
  refine h.mono ?_
  rintro e w' ⟨v, rfl, hI, hb⟩
  obtain ⟨g, cap, rfl, h1, h2, h3, h4, h5⟩ := hI.read (by unfold Pl.starts; simp)
  exact ⟨g, cap, rfl, h1, h2, h3, h4, h5, hb⟩

/-- .. the numbers as a function of their places. -/
theorem ZZStarts_fn (s : ByteArray) (w : World) (hs : s.size ≤ 2097152) (N : Nat) (f : Nat → Nat) (hN : (Pl.starts (bt s) s.size).length = N) (hf : ∀ j, (Pl.starts (bt s) s.size).getD j 0 = f j) :
    Calls Try.prog 16 #[.string s] w fun e w' => ∃ g cap, e = .returned (.slice (some ⟨g, 0, none⟩) N cap) ∧ w.heap.size ≤ g ∧ g < w'.heap.size ∧ N ≤ cap ∧ cap ≤ maxLen ∧
      Hid (∀ j, j < N → w'.cell? ⟨g, j, none⟩ = some (.int .i64 ((f j : Nat) : Int))) ∧ Below w.heap.size w w' := by
  subst hN
  refine (ZZStarts_any s w hs).mono ?_
  rintro e w' ⟨g, cap, rfl, h1, h2, h3, h4, h5, hb⟩
  exact ⟨g, cap, rfl, h1, h2, h3, h4, fun j hj => by rw [h5 j hj, hf], hb⟩

end Go.Proofs.Qxb6001362a
