/-
  The callees of FnStatementStartsPlainLines: zzPlainLine (function 19), zzBytes (function 18).
-/
import Derived.Test.Qxb6001362aRTBase
import Derived.Test.Qxb6001362aStWalk
import Derived.Test.Qxb6001362aPlainPL
namespace Go.Proofs.Qxb6001362a
open Go.RowKit

theorem drop_at (s : ByteArray) (k : Nat) (h : k < s.size) : s.data.toList.drop k = s[k] :: s.data.toList.drop (k + 1) := by
  rw [List.drop_eq_getElem_cons (by simpa using h)]
  rfl

theorem ret_bool' {a b : Bool} (h : a = b) : Ending.returned (.bool a) = .returned (.bool b) := by rw [h]

set_option maxHeartbeats 1000000 in
theorem plainLine_any (s : ByteArray) (w : World) (hs : s.size ≤ 1048576) :
    Calls Try.prog 19 #[.string s] w fun e w' => e = .returned (.bool (Pl.plainB false s.data.toList)) ∧ w = w' := by
  obtain ⟨R, hR⟩ : ∃ R, R = Pl.plainB false s.data.toList := ⟨_, rfl⟩
  have H0 : Hid (R = Pl.plainB false (s.data.toList.drop 0)) := hR
  rw [← hR]
  clear hR
  go_enter Try.func19, Try.ntmps19
  go_wp2
  go_loop [3, 4] (fun b i => ∃ (k : Nat) (c : Bool), k ≤ s.size ∧ i = .int .i64 k ∧ b = .bool c ∧ Hid (R = Pl.plainB c (s.data.toList.drop k))) (fun _ i => s.size - (intOf i).toNat)
  case atStart => exact ⟨0, false, Nat.zero_le _, rfl, rfl, H0⟩
  case round =>
    clear H0
    obtain ⟨k, c, hk, rfl, rfl, hR⟩ := hrel
    by_cases hlt : k < s.size
    · rw [drop_at s k hlt] at hR
      by_cases c10 : s[k].toNat = 10
      · have t10 : ((s[k].toNat : Int) == 10) = true := eq_b (y := 10) c10
        have HS : Hid (R = false) := hR.out.trans (Pl.plain_nl c _ _ c10)
        clear c10 hR
        go_wp2
        go_ret
        exact ⟨ret_bool' HS.out.symm, rfl⟩
      · have t10 : ((s[k].toNat : Int) == 10) = false := ne_b (y := 10) c10
        cases c with
        | true =>
          have HS : Hid _ := hR.out.trans (Pl.plain_in _ _ c10)
          clear c10 hR
          go_wp2
          go_round
          case rel => exact ⟨k + 1, true, by omega, by go_num, rfl, HS⟩
          case measure => simp [intOf]; omega
        | false =>
          by_cases c35 : s[k].toNat = 35
          · have t35 : ((s[k].toNat : Int) == 35) = true := eq_b (y := 35) c35
            have HS : Hid _ := hR.out.trans (Pl.plain_cm _ _ c35)
            clear c10 c35 hR
            go_wp2
            go_round
            case rel => exact ⟨k + 1, true, by omega, by go_num, rfl, HS⟩
            case measure => simp [intOf]; omega
          · have t35 : ((s[k].toNat : Int) == 35) = false := ne_b (y := 35) c35
            by_cases csp : Pl.special s[k].toNat
            · have HS : Hid (R = false) := hR.out.trans (Pl.plain_sp _ _ csp)
              clear hR c10 c35
              have HX : Hid (Pl.special s[k].toNat) := csp
              clear csp
              by_cases d34 : ((s[k].toNat : Int) == 34) = true
              · go_wp2
                go_ret
                exact ⟨ret_bool' HS.out.symm, rfl⟩
              · have t34 : ((s[k].toNat : Int) == 34) = false := by simpa using d34
                clear d34
                by_cases d39 : ((s[k].toNat : Int) == 39) = true
                · go_wp2
                  go_ret
                  exact ⟨ret_bool' HS.out.symm, rfl⟩
                · have t39 : ((s[k].toNat : Int) == 39) = false := by simpa using d39
                  clear d39
                  by_cases d91 : ((s[k].toNat : Int) == 91) = true
                  · go_wp2
                    go_ret
                    exact ⟨ret_bool' HS.out.symm, rfl⟩
                  · have t91 : ((s[k].toNat : Int) == 91) = false := by simpa using d91
                    clear d91
                    by_cases d93 : ((s[k].toNat : Int) == 93) = true
                    · go_wp2
                      go_ret
                      exact ⟨ret_bool' HS.out.symm, rfl⟩
                    · have t93 : ((s[k].toNat : Int) == 93) = false := by simpa using d93
                      clear d93
                      by_cases d123 : ((s[k].toNat : Int) == 123) = true
                      · go_wp2
                        go_ret
                        exact ⟨ret_bool' HS.out.symm, rfl⟩
                      · have t123 : ((s[k].toNat : Int) == 123) = false := by simpa using d123
                        clear d123
                        have t125 : ((s[k].toNat : Int) == 125) = true := by
                          have h := HX.out
                          unfold Pl.special at h
                          have e34 := beq_f (y := 34) t34
                          have e39 := beq_f (y := 39) t39
                          have e91 := beq_f (y := 91) t91
                          have e93 := beq_f (y := 93) t93
                          have e123 := beq_f (y := 123) t123
                          exact eq_b (y := 125) (by omega)
                        go_wp2
                        go_ret
                        exact ⟨ret_bool' HS.out.symm, rfl⟩
            · have HS : Hid _ := hR.out.trans (Pl.plain_on _ _ c10 c35 csp)
              unfold Pl.special at csp
              have t34 : ((s[k].toNat : Int) == 34) = false := ne_b (y := 34) (by omega)
              have t39 : ((s[k].toNat : Int) == 39) = false := ne_b (y := 39) (by omega)
              have t91 : ((s[k].toNat : Int) == 91) = false := ne_b (y := 91) (by omega)
              have t93 : ((s[k].toNat : Int) == 93) = false := ne_b (y := 93) (by omega)
              have t123 : ((s[k].toNat : Int) == 123) = false := ne_b (y := 123) (by omega)
              have t125 : ((s[k].toNat : Int) == 125) = false := ne_b (y := 125) (by omega)
              clear c10 c35 csp hR
              go_wp2
              go_round
              case rel => exact ⟨k + 1, false, by omega, by go_num, rfl, HS⟩
              case measure => simp [intOf]; omega
    · have HS : Hid (R = true) := by
        show R = true
        rw [hR.out, List.drop_of_length_le (by simp; omega)]
        cases c <;> rfl
      go_wp2
      go_ret
      exact ⟨ret_bool' HS.out.symm, rfl⟩

/-- The lines, as they lie in memory from the address ad on. -/
def Lines (w : World) (ad : Addr) (ss : List ByteArray) : Prop := ∀ j, j < ss.length → w.cell? (ad.add j) = some (.string (ss.getD j ByteArray.empty))

def lists (ss : List ByteArray) : List (List UInt8) := ss.map fun s => s.data.toList

theorem lists_take (ss : List ByteArray) (k : Nat) (h : k < ss.length) : (lists ss).take (k + 1) = (lists ss).take k ++ [(ss.getD k ByteArray.empty).data.toList] := by
  unfold lists
  rw [List.take_succ_eq_append_getElem (by simpa using h), List.getElem_map, List.getD_eq_getElem?_getD, List.getElem?_eq_getElem h]
  rfl

theorem sum_step (ss : List ByteArray) (k : Nat) (h : k < ss.length) : Pl.sumL ((lists ss).take (k + 1)) = Pl.sumL ((lists ss).take k) + (ss.getD k ByteArray.empty).size := by
  rw [lists_take ss k h, Pl.sumL_snoc]
  rfl

theorem run_at32 (ad : Addr) (N cap : Nat) (i : Int) (k : Nat) (hi : i = k) (hk : k < N) (wx : World) : (Instr.indexAt 32 (.slice (some ad) N cap) (.int .i64 i)).run Try.prog wx = .ok (.pointer (some (ad.add k))) wx := by
  subst hi
  have h1 : (0 : Int) ≤ (k : Int) := by omega
  have h2 : (k : Int) < (N : Int) := by omega
  go_simp

set_option maxHeartbeats 1000000 in
theorem bytes18_any (ad : Addr) (ss : List ByteArray) (n cap : Nat) (w : World) (hn : ss.length = n) (hcap : n ≤ maxLen) (hL : Lines w ad ss) (hsz : ∀ s ∈ ss, s.size ≤ maxLen) :
    Calls Try.prog 18 #[.slice (some ad) n cap] w fun e w' => (e = .returned (.bool false) ∧ w = w' ∧ ¬ n + Pl.sumL (lists ss) ≤ 1048576) ∨ (e = .returned (.bool true) ∧ w = w' ∧ n + Pl.sumL (lists ss) ≤ 1048576) := by
  unfold maxLen at hcap
  by_cases hbig : n ≤ 1048576
  · have HL : Hid (Lines w ad ss) := hL
    have HZ : Hid (∀ s ∈ ss, s.size ≤ maxLen) := hsz
    have HN : Hid (ss.length = n) := hn
    clear hL hsz hn
    go_enter Try.func18, Try.ntmps18
    go_wp2
    go_loop [3, 4] (fun z i => ∃ k : Nat, k ≤ n ∧ i = .int .i64 k ∧ z = .int .i64 (((n + Pl.sumL ((lists ss).take k) : Nat)) : Int) ∧ n + Pl.sumL ((lists ss).take k) ≤ 1048576) (fun _ i => n - (intOf i).toNat)
    case atStart => exact ⟨0, Nat.zero_le _, rfl, rfl, hbig⟩
    case round =>
      obtain ⟨k, hk, rfl, rfl, hs⟩ := hrel
      by_cases hlt : k < n
      · have hk' : k < ss.length := by rw [HN.out]; exact hlt
        have hc := HL.out k hk'
        have HS : Hid _ := sum_step ss k hk'
        have hm := HZ.out (ss.getD k ByteArray.empty) (by rw [List.getD_eq_getElem?_getD, List.getElem?_eq_getElem hk']; exact List.getElem_mem hk')
        obtain ⟨S, hSS⟩ : ∃ S, ss.getD k ByteArray.empty = S := ⟨_, rfl⟩
        rw [hSS] at hc HS hm
        obtain ⟨A, hA⟩ : ∃ A, Pl.sumL ((lists ss).take k) = A := ⟨_, rfl⟩
        rw [hA] at hs HS ⊢
        clear hSS hA hk'
        unfold maxLen at hm
        have q := run_at32 ad n cap (k : Int) k rfl hlt
        by_cases hb1 : S.size ≤ 1048576
        · by_cases hb2 : n + A + S.size ≤ 1048576
          · go_wp2
            go_round
            case rel => exact ⟨k + 1, by omega, by go_num, by rw [HS.out]; go_num, by rw [HS.out]; omega⟩
            case measure => simp [intOf]; omega
          · have HX : Hid (¬ n + Pl.sumL (lists ss) ≤ 1048576) := by
              have := Pl.sumL_take (lists ss) (k + 1)
              rw [HS.out] at this
              show ¬ _
              omega
            go_wp2
            go_ret
            exact .inl ⟨rfl, rfl, by have := HX.out; omega⟩
        · have HX : Hid (¬ n + Pl.sumL (lists ss) ≤ 1048576) := by
            have := Pl.sumL_take (lists ss) (k + 1)
            rw [HS.out] at this
            show ¬ _
            omega
          go_wp2
          go_ret
          exact .inl ⟨rfl, rfl, by have := HX.out; omega⟩
      · have HE : Hid (n + Pl.sumL (lists ss) ≤ 1048576) := by
          rw [List.take_of_length_le (by unfold lists; rw [List.length_map, HN.out]; omega)] at hs
          exact hs
        go_wp2
        go_ret
        exact .inr ⟨rfl, rfl, HE.out⟩
  · go_enter Try.func18, Try.ntmps18
    go_wp2
    go_ret
    exact .inl ⟨rfl, rfl, by omega⟩

theorem bytes18_yes (ad : Addr) (ss : List ByteArray) (n cap : Nat) (w : World) (hn : ss.length = n) (hcap : n ≤ maxLen) (hL : Lines w ad ss) (hsz : ∀ s ∈ ss, s.size ≤ maxLen) (h : n + Pl.sumL (lists ss) ≤ 1048576) :
    Calls Try.prog 18 #[.slice (some ad) n cap] w fun e w' => e = .returned (.bool true) ∧ w = w' := by
  refine (bytes18_any ad ss n cap w hn hcap hL hsz).mono ?_
  rintro e w' (⟨_, _, h'⟩ | ⟨h1, h2, _⟩)
  · exact absurd h h'
  · exact ⟨h1, h2⟩

theorem bytes18_no (ad : Addr) (ss : List ByteArray) (n cap : Nat) (w : World) (hn : ss.length = n) (hcap : n ≤ maxLen) (hL : Lines w ad ss) (hsz : ∀ s ∈ ss, s.size ≤ maxLen) (h : ¬ n + Pl.sumL (lists ss) ≤ 1048576) :
    Calls Try.prog 18 #[.slice (some ad) n cap] w fun e w' => e = .returned (.bool false) ∧ w = w' := by
  refine (bytes18_any ad ss n cap w hn hcap hL hsz).mono ?_
  rintro e w' (⟨h1, h2, _⟩ | ⟨_, _, h'⟩)
  · exact ⟨h1, h2⟩
  · exact absurd h' h

/-! ### The laws of make and append that the builder of the document wants -/
theorem Ints.kept {w w' : World} {base g : Nat} {v : Value} {l : List Nat} (h : Ints w base v l) (hG : w.grownBy w' (some g)) (hg : g < base) : Ints w' base v l := by
  refine World.ownsRow.kept h hG ?_
  right
  intro e
  have := (World.ownsRow.lt h g e).1
  omega

/-- 'make([]int, 0, n)'. -/
theorem wpList_mkI (w : World) {ops : Array Oper} {rest : List Oper} {o : Oper} {a : Act} {Q : Exit → Act → World → Prop}
    (hg : o.guard = none) (l c : Operand) (hop : o.op = Op.makeSlice 29 l c) (C : Int) (n : Nat) (hl : a.eval l = .int .i64 0) (hc : a.eval c = .int .i64 C) (hC : C = (n : Int)) (b2 : n ≤ 4194304)
    (hK : ∀ w', Ints w' w.heap.size (.slice (some ⟨w.heap.size, 0, none⟩) 0 n) [] → w.grownBy w' none → wpList Try.prog ops Q rest (a.put o.dst (.slice (some ⟨w.heap.size, 0, none⟩) 0 n)) w') :
    wpList Try.prog ops Q (o :: rest) a w := by
  obtain ⟨i0, hi, hz0, hz1, hz2⟩ := info_parts info3
  exact wpList_make_own w hg l c 29 hop w.heap.size 3 i0 (.int .i64 0) 1 Try.underlying29 hi hz0 hz1 .i64 .i64 C n hl hc hC (by rw [hz2]; omega) (by unfold maxLen; omega) (Nat.le_refl _) hK

theorem info9 : (Try.prog.info? 9).map (fun i => (i.zero, i.size, i.bytes)) = some (some (.string ByteArray.empty), 1, 16) := by kernel_rfl

/-- The strings xs, a row of the call's own at the head of block g. -/
def Strs (w : World) (g n : Nat) (xs : List Value) : Prop := w.ownsRow g 9 1 (.slice (some ⟨g, 0, none⟩) n n) n xs

theorem Strs.len {w : World} {g n : Nat} {xs : List Value} (h : Strs w g n xs) : xs.length = n := by simpa using h.1
theorem Strs.lt {w : World} {g n : Nat} {xs : List Value} (h : Strs w g n xs) : g < w.heap.size := (World.ownsRow.lt h g rfl).2
theorem Strs.cell {w : World} {g n : Nat} {xs : List Value} (h : Strs w g n xs) (j : Nat) (hj : j < n) : w.cell? ⟨g, j, none⟩ = xs[j]? := World.ownsRow.cellAt h j (by omega)
theorem Strs.free {w : World} {g n : Nat} {xs : List Value} (h : Strs w g n xs) (j : Nat) : w.frozen? ⟨g, j, none⟩ = false := World.ownsRow.frozenAt h j

/-- 'make([]string, n)'. -/
theorem wpList_mkS (w : World) {ops : Array Oper} {rest : List Oper} {o : Oper} {a : Act} {Q : Exit → Act → World → Prop}
    (hg : o.guard = none) (l c : Operand) (hop : o.op = Op.makeSlice 32 l c) (n : Nat) (hl : a.eval l = .int .i64 (n : Int)) (hc : a.eval c = .int .i64 (n : Int)) (b2 : n ≤ 4194304)
    (hK : ∀ w' xs, Strs w' w.heap.size n xs → w.grownBy w' none → wpList Try.prog ops Q rest (a.put o.dst (.slice (some ⟨w.heap.size, 0, none⟩) n n)) w') :
    wpList Try.prog ops Q (o :: rest) a w := by
  obtain ⟨i0, hi, hz0, hz1, hz2⟩ := info_parts info9
  exact wpList_make_full w hg l c 32 hop w.heap.size 9 i0 (.string ByteArray.empty) 1 Try.underlying32 hi hz0 hz1 .i64 .i64 n n n hl hc rfl rfl (by rw [hz2]; omega) (by unfold maxLen; omega) (Nat.le_refl _) (fun w' h1 h2 => hK w' _ h1 h2)

theorem run_at32' (g N cap : Nat) (i : Int) (k : Nat) (hi : i = k) (hk : k < N) (wx : World) : (Instr.indexAt 32 (.slice (some ⟨g, 0, none⟩) N cap) (.int .i64 i)).run Try.prog wx = .ok (.pointer (some ⟨g, k, none⟩)) wx := by
  rw [run_at32 ⟨g, 0, none⟩ N cap i k hi hk, Addr.add_lit, Nat.zero_add]

end Go.Proofs.Qxb6001362a
