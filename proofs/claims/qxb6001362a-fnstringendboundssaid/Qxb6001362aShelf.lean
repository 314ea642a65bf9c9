/-
  The shelf contracts of strings.HasPrefix and strings.Repeat at this dump, laid by the shelf tool in its plain mode.
-/
import Derived.Shelf.Strings.Prefix
import Derived.Shelf.Strings.Repeat
import Derived.Test.Qxb6001362aProg
namespace Go.Proofs
open Go.Shelf
def Try.lays99_ren : Go.Shelf.Ren := ⟨fun | 99 => 22 | 206 => 24 | n => n, fun | 9 => 9 | 4 => 4 | 3 => 3 | n => n, fun | n => n⟩
theorem Try.lays99 : Go.Proofs.Lays.n99 Try.prog Try.lays99_ren := {
  mixed := by kernel_rfl
  f99 := Try.func22.trans (congrArg some (by kernel_rfl))
  f206 := Try.func24.trans (congrArg some (by kernel_rfl))
  t3 := Try.underlying3
  a3 := Try.isAgg3
  z3 := Try.sizeOf3
  v3 := Try.zeroValue3
  t4 := Try.underlying4
  a4 := Try.isAgg4
  z4 := Try.sizeOf4
  v4 := Try.zeroValue4
  t9 := Try.underlying9
  a9 := Try.isAgg9
  z9 := Try.sizeOf9
  v9 := Try.zeroValue9 }
open Go.RowKit Go.Lib in
/-- strings.HasPrefix, by the shelf's contract: the world is as it was. -/
theorem Try.strings_HasPrefix (s p : ByteArray) (w : World) :
    Calls Try.prog 22 #[.string s, .string p] w fun e w' => e = .returned (.bool (Lib.hasPrefix s.data.toList p.data.toList)) ∧ w' = w := Any.strings_HasPrefix Try.lays99 s p w
def Try.lays105_ren : Go.Shelf.Ren := ⟨fun | 105 => 23 | 212 => 25 | 99 => 22 | 165 => 26 | 166 => 27 | 170 => 28 | 169 => 29 | 263 => 30 | 264 => 31 | 206 => 24 | 240 => 32 | 241 => 33 | 276 => 34 | 277 => 35 | n => n, fun | 9 => 9 | 3 => 3 | 4 => 4 | 20 => 20 | 0 => 0 | 46 => 35 | 109 => 36 | 5 => 5 | 72 => 40 | 76 => 44 | 51 => 48 | 146 => 49 | 53 => 51 | 148 => 52 | 70 => 38 | 37 => 27 | 75 => 43 | 127 => 54 | 164 => 55 | 80 => 47 | n => n, fun | n => n⟩
theorem Try.lays105 : Go.Proofs.Lays.n105 Try.prog Try.lays105_ren := {
  mixed := by kernel_rfl
  f99 := Try.func22.trans (congrArg some (by kernel_rfl))
  f105 := Try.func23.trans (congrArg some (by kernel_rfl))
  f165 := Try.func26.trans (congrArg some (by kernel_rfl))
  f166 := Try.func27.trans (congrArg some (by kernel_rfl))
  f169 := Try.func29.trans (congrArg some (by kernel_rfl))
  f170 := Try.func28.trans (congrArg some (by kernel_rfl))
  f206 := Try.func24.trans (congrArg some (by kernel_rfl))
  f212 := Try.func25.trans (congrArg some (by kernel_rfl))
  f240 := Try.func32.trans (congrArg some (by kernel_rfl))
  f241 := Try.func33.trans (congrArg some (by kernel_rfl))
  f263 := Try.func30.trans (congrArg some (by kernel_rfl))
  f264 := Try.func31.trans (congrArg some (by kernel_rfl))
  f276 := Try.func34.trans (congrArg some (by kernel_rfl))
  f277 := Try.func35.trans (congrArg some (by kernel_rfl))
  t0 := Try.underlying0
  a0 := Try.isAgg0
  z0 := Try.sizeOf0
  v0 := Try.zeroValue0
  t3 := Try.underlying3
  a3 := Try.isAgg3
  z3 := Try.sizeOf3
  v3 := Try.zeroValue3
  t4 := Try.underlying4
  a4 := Try.isAgg4
  z4 := Try.sizeOf4
  v4 := Try.zeroValue4
  t5 := Try.underlying5
  a5 := Try.isAgg5
  z5 := Try.sizeOf5
  v5 := Try.zeroValue5
  t9 := Try.underlying9
  a9 := Try.isAgg9
  z9 := Try.sizeOf9
  v9 := Try.zeroValue9
  t20 := Try.underlying20
  a20 := Try.isAgg20
  z20 := Try.sizeOf20
  v20 := Try.zeroValue20
  t37 := Try.underlying27
  a37 := Try.isAgg27
  z37 := Try.sizeOf27
  v37 := Try.zeroValue27
  t46 := Try.underlying35
  a46 := Try.isAgg35
  z46 := Try.sizeOf35
  v46 := Try.zeroValue35
  t51 := Try.underlying48
  a51 := Try.isAgg48
  z51 := Try.sizeOf48
  v51 := Try.zeroValue48
  t53 := Try.underlying51
  a53 := Try.isAgg51
  z53 := Try.sizeOf51
  v53 := Try.zeroValue51
  t70 := Try.underlying38
  a70 := Try.isAgg38
  z70 := Try.sizeOf38
  v70 := Try.zeroValue38
  t72 := Try.underlying40
  a72 := Try.isAgg40
  z72 := Try.sizeOf40
  v72 := Try.zeroValue40
  t75 := Try.underlying43
  a75 := Try.isAgg43
  z75 := Try.sizeOf43
  v75 := Try.zeroValue43
  t76 := Try.underlying44
  a76 := Try.isAgg44
  z76 := Try.sizeOf44
  v76 := Try.zeroValue44
  t109 := Try.underlying36
  a109 := Try.isAgg36
  z109 := Try.sizeOf36
  v109 := Try.zeroValue36
  t127 := Try.underlying54
  a127 := Try.isAgg54
  z127 := Try.sizeOf54
  v127 := Try.zeroValue54
  t146 := Try.underlying49
  a146 := Try.isAgg49
  z146 := Try.sizeOf49
  v146 := Try.zeroValue49
  t148 := Try.underlying52
  a148 := Try.isAgg52
  z148 := Try.sizeOf52
  v148 := Try.zeroValue52
  t164 := Try.underlying55
  a164 := Try.isAgg55
  z164 := Try.sizeOf55
  v164 := Try.zeroValue55 }
theorem Try.Builder_Extra_105 : Builder.Extra Try.prog Try.lays105_ren := {
  sizeBuilder := by kernel_rfl
  liesBuilder := by kernel_rfl
  t5 := Try.underlying5
  a5 := Try.isAgg5
  z5 := Try.sizeOf5
  v5 := Try.zeroValue5
  infoByte := by kernel_rfl
  cellsByte := by kernel_rfl
  sizeByte := by kernel_rfl
  neB5 := by decide }
open Go.RowKit Go.Lib in
/-- **strings.Repeat: count ≥ 0, the result within one allocation: count copies of s.** (LAID: no walk: one application.) -/
theorem Try.strings_Repeat (s : ByteArray) (c : Nat) (w : World) (hc : c ≤ 9223372036854775807) (hlen : s.size * c ≤ 140737488355328) :
    Calls Try.prog 23 #[.string s, .int .i64 c] w fun e w' => e = .returned (.string ⟨(Lib.repeatL s.data.toList c).toArray⟩) ∧ Below w.heap.size w w' := Any.strings_Repeat Try.lays105 Try.Builder_Extra_105 s c w hc hlen
end Go.Proofs
