/-
  No cell of these rows narrows 'for every input' (looked for: loops, veiled, ifaces, maps, wideKeys, modest, calm, conditions, laid).
  DERIVED. THE GIVEN ROWS OF THIS SEAT. 6 by the template 'for every input the law returns true; each argument reads behind the call as it read before'; 0 by the template 'total and deterministic' (their statements: Qxb6001362aTotals.lean).
  GIVEN WITH THE SEED: the statements are not yours to turn. If you find one false, say at which input.
  Laid BY PROGRAM, IN A SANDBOX (cutbox-rows.mjs): the forced cells as the released guide's own fill.sh prints them over the translation 9d6548ad3e5f9927… (all of the seat's roots in one cut). By AI agents, Wed Nov 11 2026. No macro, syntax, notation, axiom, sorry.
-/
import Derived.Test.Qxb6001362aChecked
import GoSem.Claim
import GoSem.ClaimJoined
import GoSem.ClaimMapViews
import Derived.JoinedTies
import Derived.KernelRfl
namespace Go.Proofs.Qxb6001362a
/- THE CELL 'sum', in the pinned program and in every row, IS THE sha256 OF THE DUMP (.gsa) THAT Qxb6001362aProg.lean LOADS. Nothing in Lean hashes anything: it is a label: what it is worth is what the hold of that sum in a sandbox is worth. -/
noncomputable def Try.pinned : Pinned := { name := "qxb6001362a", sum := "9d6548ad3e5f99274783cbb22c54654aa8b5816b04d30e201be4cd0a4378fef1", checked := Try.checked }
namespace Rows
def none {H : Type} : Left H := { results := [], args := [] }

/-- 'zzlaws_pkg_prudential_b1.FnStringEndBounds': WHATEVER THE INPUT: true; the input reads as it did. -/
def fnStringEndBoundsSpec : ChangeSpec := { name := "fnStringEndBounds", fn := fun _ => fun
  | [d1, d2] => { results := [.lit (.bool true)], args := [d1, d2] }
  | _ => none }
def fnStringEndBoundsRow : OpenClaim := { program := "qxb6001362a", sum := "9d6548ad3e5f99274783cbb22c54654aa8b5816b04d30e201be4cd0a4378fef1", func := "example.com/prudenta/prudenta/zzlaws_pkg_prudential_b1.FnStringEndBounds", spec := "fnStringEndBounds", inPlace := ["internal/abi.NoEscape", "internal/bytealg.MakeNoZero"], apart := false }
def FnStringEndBoundsSaid : Prop := fnStringEndBoundsRow.holds Try.pinned (OpenSpec.ofChange fnStringEndBoundsSpec)

/-- ITS FALSE NEIGHBOUR: 'it returns false'. Refute it at one input. -/
def fnStringEndBoundsWrong : ChangeSpec := { name := "fnStringEndBounds", fn := fun _ => fun
  | [d1, d2] => { results := [.lit (.bool false)], args := [d1, d2] }
  | _ => none }
def FnStringEndBoundsWrongFalsely : Prop := fnStringEndBoundsRow.holds Try.pinned (OpenSpec.ofChange fnStringEndBoundsWrong)

/-- 'zzlaws_pkg_prudential_b1.FnStringEndLocality': WHATEVER THE INPUT: true; the input reads as it did. -/
def fnStringEndLocalitySpec : ChangeSpec := { name := "fnStringEndLocality", fn := fun _ => fun
  | [d1, d2, d3, d4] => { results := [.lit (.bool true)], args := [d1, d2, d3, d4] }
  | _ => none }
def fnStringEndLocalityRow : OpenClaim := { program := "qxb6001362a", sum := "9d6548ad3e5f99274783cbb22c54654aa8b5816b04d30e201be4cd0a4378fef1", func := "example.com/prudenta/prudenta/zzlaws_pkg_prudential_b1.FnStringEndLocality", spec := "fnStringEndLocality", inPlace := ["internal/abi.NoEscape", "internal/bytealg.MakeNoZero"], apart := false }
def FnStringEndLocalitySaid : Prop := fnStringEndLocalityRow.holds Try.pinned (OpenSpec.ofChange fnStringEndLocalitySpec)

/-- ITS FALSE NEIGHBOUR: 'it returns false'. Refute it at one input. -/
def fnStringEndLocalityWrong : ChangeSpec := { name := "fnStringEndLocality", fn := fun _ => fun
  | [d1, d2, d3, d4] => { results := [.lit (.bool false)], args := [d1, d2, d3, d4] }
  | _ => none }
def FnStringEndLocalityWrongFalsely : Prop := fnStringEndLocalityRow.holds Try.pinned (OpenSpec.ofChange fnStringEndLocalityWrong)

/-- 'zzlaws_pkg_prudential_b1.FnStringEndEncodedRoundTrip': WHATEVER THE INPUT: true; the input reads as it did. -/
def fnStringEndEncodedRoundTripSpec : ChangeSpec := { name := "fnStringEndEncodedRoundTrip", fn := fun _ => fun
  | [d1, d2, d3, d4, d5] => { results := [.lit (.bool true)], args := [d1, d2, d3, d4, d5] }
  | _ => none }
def fnStringEndEncodedRoundTripRow : OpenClaim := { program := "qxb6001362a", sum := "9d6548ad3e5f99274783cbb22c54654aa8b5816b04d30e201be4cd0a4378fef1", func := "example.com/prudenta/prudenta/zzlaws_pkg_prudential_b1.FnStringEndEncodedRoundTrip", spec := "fnStringEndEncodedRoundTrip", inPlace := ["internal/abi.NoEscape", "internal/bytealg.MakeNoZero"], apart := false }
def FnStringEndEncodedRoundTripSaid : Prop := fnStringEndEncodedRoundTripRow.holds Try.pinned (OpenSpec.ofChange fnStringEndEncodedRoundTripSpec)

/-- ITS FALSE NEIGHBOUR: 'it returns false'. Refute it at one input. -/
def fnStringEndEncodedRoundTripWrong : ChangeSpec := { name := "fnStringEndEncodedRoundTrip", fn := fun _ => fun
  | [d1, d2, d3, d4, d5] => { results := [.lit (.bool false)], args := [d1, d2, d3, d4, d5] }
  | _ => none }
def FnStringEndEncodedRoundTripWrongFalsely : Prop := fnStringEndEncodedRoundTripRow.holds Try.pinned (OpenSpec.ofChange fnStringEndEncodedRoundTripWrong)

/-- 'zzlaws_pkg_prudential_b1.FnStatementStartsShape': WHATEVER THE INPUT: true; the input reads as it did. -/
def fnStatementStartsShapeSpec : ChangeSpec := { name := "fnStatementStartsShape", fn := fun _ => fun
  | [d] => { results := [.lit (.bool true)], args := [d] }
  | _ => none }
def fnStatementStartsShapeRow : OpenClaim := { program := "qxb6001362a", sum := "9d6548ad3e5f99274783cbb22c54654aa8b5816b04d30e201be4cd0a4378fef1", func := "example.com/prudenta/prudenta/zzlaws_pkg_prudential_b1.FnStatementStartsShape", spec := "fnStatementStartsShape", inPlace := ["internal/abi.NoEscape", "internal/bytealg.MakeNoZero"], apart := false }
def FnStatementStartsShapeSaid : Prop := fnStatementStartsShapeRow.holds Try.pinned (OpenSpec.ofChange fnStatementStartsShapeSpec)

/-- ITS FALSE NEIGHBOUR: 'it returns false'. Refute it at one input. -/
def fnStatementStartsShapeWrong : ChangeSpec := { name := "fnStatementStartsShape", fn := fun _ => fun
  | [d] => { results := [.lit (.bool false)], args := [d] }
  | _ => none }
def FnStatementStartsShapeWrongFalsely : Prop := fnStatementStartsShapeRow.holds Try.pinned (OpenSpec.ofChange fnStatementStartsShapeWrong)

/-- 'zzlaws_pkg_prudential_b1.FnStatementStartsConcat': WHATEVER THE INPUT: true; the input reads as it did. -/
def fnStatementStartsConcatSpec : ChangeSpec := { name := "fnStatementStartsConcat", fn := fun _ => fun
  | [d1, d2] => { results := [.lit (.bool true)], args := [d1, d2] }
  | _ => none }
def fnStatementStartsConcatRow : OpenClaim := { program := "qxb6001362a", sum := "9d6548ad3e5f99274783cbb22c54654aa8b5816b04d30e201be4cd0a4378fef1", func := "example.com/prudenta/prudenta/zzlaws_pkg_prudential_b1.FnStatementStartsConcat", spec := "fnStatementStartsConcat", inPlace := ["internal/abi.NoEscape", "internal/bytealg.MakeNoZero"], apart := false }
def FnStatementStartsConcatSaid : Prop := fnStatementStartsConcatRow.holds Try.pinned (OpenSpec.ofChange fnStatementStartsConcatSpec)

/-- ITS FALSE NEIGHBOUR: 'it returns false'. Refute it at one input. -/
def fnStatementStartsConcatWrong : ChangeSpec := { name := "fnStatementStartsConcat", fn := fun _ => fun
  | [d1, d2] => { results := [.lit (.bool false)], args := [d1, d2] }
  | _ => none }
def FnStatementStartsConcatWrongFalsely : Prop := fnStatementStartsConcatRow.holds Try.pinned (OpenSpec.ofChange fnStatementStartsConcatWrong)

/-- 'zzlaws_pkg_prudential_b1.FnStatementStartsPlainLines': WHATEVER THE INPUT: true; the input reads as it did. -/
def fnStatementStartsPlainLinesSpec : ChangeSpec := { name := "fnStatementStartsPlainLines", fn := fun _ => fun
  | [d] => { results := [.lit (.bool true)], args := [d] }
  | _ => none }
def fnStatementStartsPlainLinesRow : OpenClaim := { program := "qxb6001362a", sum := "9d6548ad3e5f99274783cbb22c54654aa8b5816b04d30e201be4cd0a4378fef1", func := "example.com/prudenta/prudenta/zzlaws_pkg_prudential_b1.FnStatementStartsPlainLines", spec := "fnStatementStartsPlainLines", inPlace := ["internal/abi.NoEscape", "internal/bytealg.MakeNoZero"], apart := false }
def FnStatementStartsPlainLinesSaid : Prop := fnStatementStartsPlainLinesRow.holds Try.pinned (OpenSpec.ofChange fnStatementStartsPlainLinesSpec)

/-- ITS FALSE NEIGHBOUR: 'it returns false'. Refute it at one input. -/
def fnStatementStartsPlainLinesWrong : ChangeSpec := { name := "fnStatementStartsPlainLines", fn := fun _ => fun
  | [d] => { results := [.lit (.bool false)], args := [d] }
  | _ => none }
def FnStatementStartsPlainLinesWrongFalsely : Prop := fnStatementStartsPlainLinesRow.holds Try.pinned (OpenSpec.ofChange fnStatementStartsPlainLinesWrong)

end Rows
end Go.Proofs.Qxb6001362a
