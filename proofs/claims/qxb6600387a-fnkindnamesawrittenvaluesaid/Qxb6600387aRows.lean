/-
  No cell of these rows narrows 'for every input' (looked for: loops, veiled, ifaces, maps, wideKeys, modest, calm, conditions, laid).
  DERIVED. THE GIVEN ROWS OF THIS SEAT. 5 by the template 'for every input the law returns true; each argument reads behind the call as it read before'; 0 by the template 'total and deterministic' (their statements: Qxb6600387aTotals.lean).
  GIVEN WITH THE SEED: the statements are not yours to turn. If you find one false, say at which input.
  Laid BY PROGRAM, IN A SANDBOX (cutbox-rows.mjs): the forced cells as the released guide's own fill.sh prints them over the translation 7737b281f83fb1aa… (all of the seat's roots in one cut). By AI agents, Wed Nov 11 2026. No macro, syntax, notation, axiom, sorry.
-/
import Derived.Test.Qxb6600387aChecked
import GoSem.Claim
import GoSem.ClaimJoined
import GoSem.ClaimMapViews
import Derived.JoinedTies
import Derived.KernelRfl
namespace Go.Proofs.Qxb6600387a
/- THE CELL 'sum', in the pinned program and in every row, IS THE sha256 OF THE DUMP (.gsa) THAT Qxb6600387aProg.lean LOADS. Nothing in Lean hashes anything: it is a label: what it is worth is what the hold of that sum in a sandbox is worth. -/
noncomputable def Try.pinned : Pinned := { name := "qxb6600387a", sum := "7737b281f83fb1aa0b673f8199d2c41a46577b52a7dfb9b18bd3b211a887c010", checked := Try.checked }
namespace Rows
def none {H : Type} : Left H := { results := [], args := [] }

/-- 'zzlaws_internal_strictjson_b1.FnCountMatchesEscapeStateScanner': WHATEVER THE INPUT: true; the input reads as it did. -/
def fnCountMatchesEscapeStateScannerSpec : ChangeSpec := { name := "fnCountMatchesEscapeStateScanner", fn := fun _ => fun
  | [d1, d2] => { results := [.lit (.bool true)], args := [d1, d2] }
  | _ => none }
def fnCountMatchesEscapeStateScannerRow : OpenClaim := { program := "qxb6600387a", sum := "7737b281f83fb1aa0b673f8199d2c41a46577b52a7dfb9b18bd3b211a887c010", func := "example.com/provenant/provenant/zzlaws_internal_strictjson_b1.FnCountMatchesEscapeStateScanner", spec := "fnCountMatchesEscapeStateScanner", inPlace := ["internal/bytealg.IndexByte"], apart := false }
def FnCountMatchesEscapeStateScannerSaid : Prop := fnCountMatchesEscapeStateScannerRow.holds Try.pinned (OpenSpec.ofChange fnCountMatchesEscapeStateScannerSpec)

/-- ITS FALSE NEIGHBOUR: 'it returns false'. Refute it at one input. -/
def fnCountMatchesEscapeStateScannerWrong : ChangeSpec := { name := "fnCountMatchesEscapeStateScanner", fn := fun _ => fun
  | [d1, d2] => { results := [.lit (.bool false)], args := [d1, d2] }
  | _ => none }
def FnCountMatchesEscapeStateScannerWrongFalsely : Prop := fnCountMatchesEscapeStateScannerRow.holds Try.pinned (OpenSpec.ofChange fnCountMatchesEscapeStateScannerWrong)

/-- 'zzlaws_internal_strictjson_b1.FnCountOfWrittenArray': WHATEVER THE INPUT: true; the input reads as it did. -/
def fnCountOfWrittenArraySpec : ChangeSpec := { name := "fnCountOfWrittenArray", fn := fun _ => fun
  | [d1, d2, d3, d4, d5] => { results := [.lit (.bool true)], args := [d1, d2, d3, d4, d5] }
  | _ => none }
def fnCountOfWrittenArrayRow : OpenClaim := { program := "qxb6600387a", sum := "7737b281f83fb1aa0b673f8199d2c41a46577b52a7dfb9b18bd3b211a887c010", func := "example.com/provenant/provenant/zzlaws_internal_strictjson_b1.FnCountOfWrittenArray", spec := "fnCountOfWrittenArray", inPlace := ["internal/bytealg.IndexByte"], apart := false }
def FnCountOfWrittenArraySaid : Prop := fnCountOfWrittenArrayRow.holds Try.pinned (OpenSpec.ofChange fnCountOfWrittenArraySpec)

/-- ITS FALSE NEIGHBOUR: 'it returns false'. Refute it at one input. -/
def fnCountOfWrittenArrayWrong : ChangeSpec := { name := "fnCountOfWrittenArray", fn := fun _ => fun
  | [d1, d2, d3, d4, d5] => { results := [.lit (.bool false)], args := [d1, d2, d3, d4, d5] }
  | _ => none }
def FnCountOfWrittenArrayWrongFalsely : Prop := fnCountOfWrittenArrayRow.holds Try.pinned (OpenSpec.ofChange fnCountOfWrittenArrayWrong)

/-- 'zzlaws_internal_strictjson_b1.FnCountLooksOnlyWithinItsSpan': WHATEVER THE INPUT: true; the input reads as it did. -/
def fnCountLooksOnlyWithinItsSpanSpec : ChangeSpec := { name := "fnCountLooksOnlyWithinItsSpan", fn := fun _ => fun
  | [d1, d2, d3, d4] => { results := [.lit (.bool true)], args := [d1, d2, d3, d4] }
  | _ => none }
def fnCountLooksOnlyWithinItsSpanRow : OpenClaim := { program := "qxb6600387a", sum := "7737b281f83fb1aa0b673f8199d2c41a46577b52a7dfb9b18bd3b211a887c010", func := "example.com/provenant/provenant/zzlaws_internal_strictjson_b1.FnCountLooksOnlyWithinItsSpan", spec := "fnCountLooksOnlyWithinItsSpan", inPlace := ["internal/bytealg.IndexByte"], apart := false }
def FnCountLooksOnlyWithinItsSpanSaid : Prop := fnCountLooksOnlyWithinItsSpanRow.holds Try.pinned (OpenSpec.ofChange fnCountLooksOnlyWithinItsSpanSpec)

/-- ITS FALSE NEIGHBOUR: 'it returns false'. Refute it at one input. -/
def fnCountLooksOnlyWithinItsSpanWrong : ChangeSpec := { name := "fnCountLooksOnlyWithinItsSpan", fn := fun _ => fun
  | [d1, d2, d3, d4] => { results := [.lit (.bool false)], args := [d1, d2, d3, d4] }
  | _ => none }
def FnCountLooksOnlyWithinItsSpanWrongFalsely : Prop := fnCountLooksOnlyWithinItsSpanRow.holds Try.pinned (OpenSpec.ofChange fnCountLooksOnlyWithinItsSpanWrong)

/-- 'zzlaws_internal_strictjson_b1.FnKindNamesAWrittenValue': WHATEVER THE INPUT: true; the input reads as it did. -/
def fnKindNamesAWrittenValueSpec : ChangeSpec := { name := "fnKindNamesAWrittenValue", fn := fun _ => fun
  | [d1, d2, d3, d4, d5, d6] => { results := [.lit (.bool true)], args := [d1, d2, d3, d4, d5, d6] }
  | _ => none }
def fnKindNamesAWrittenValueRow : OpenClaim := { program := "qxb6600387a", sum := "7737b281f83fb1aa0b673f8199d2c41a46577b52a7dfb9b18bd3b211a887c010", func := "example.com/provenant/provenant/zzlaws_internal_strictjson_b1.FnKindNamesAWrittenValue", spec := "fnKindNamesAWrittenValue", apart := false }
def FnKindNamesAWrittenValueSaid : Prop := fnKindNamesAWrittenValueRow.holds Try.pinned (OpenSpec.ofChange fnKindNamesAWrittenValueSpec)

/-- ITS FALSE NEIGHBOUR: 'it returns false'. Refute it at one input. -/
def fnKindNamesAWrittenValueWrong : ChangeSpec := { name := "fnKindNamesAWrittenValue", fn := fun _ => fun
  | [d1, d2, d3, d4, d5, d6] => { results := [.lit (.bool false)], args := [d1, d2, d3, d4, d5, d6] }
  | _ => none }
def FnKindNamesAWrittenValueWrongFalsely : Prop := fnKindNamesAWrittenValueRow.holds Try.pinned (OpenSpec.ofChange fnKindNamesAWrittenValueWrong)

/-- 'zzlaws_internal_strictjson_b1.FnUnitReadsBackAWrittenEscape': WHATEVER THE INPUT: true; the input reads as it did. -/
def fnUnitReadsBackAWrittenEscapeSpec : ChangeSpec := { name := "fnUnitReadsBackAWrittenEscape", fn := fun _ => fun
  | [d1, d2, d3, d4] => { results := [.lit (.bool true)], args := [d1, d2, d3, d4] }
  | _ => none }
def fnUnitReadsBackAWrittenEscapeRow : OpenClaim := { program := "qxb6600387a", sum := "7737b281f83fb1aa0b673f8199d2c41a46577b52a7dfb9b18bd3b211a887c010", func := "example.com/provenant/provenant/zzlaws_internal_strictjson_b1.FnUnitReadsBackAWrittenEscape", spec := "fnUnitReadsBackAWrittenEscape", apart := false }
def FnUnitReadsBackAWrittenEscapeSaid : Prop := fnUnitReadsBackAWrittenEscapeRow.holds Try.pinned (OpenSpec.ofChange fnUnitReadsBackAWrittenEscapeSpec)

/-- ITS FALSE NEIGHBOUR: 'it returns false'. Refute it at one input. -/
def fnUnitReadsBackAWrittenEscapeWrong : ChangeSpec := { name := "fnUnitReadsBackAWrittenEscape", fn := fun _ => fun
  | [d1, d2, d3, d4] => { results := [.lit (.bool false)], args := [d1, d2, d3, d4] }
  | _ => none }
def FnUnitReadsBackAWrittenEscapeWrongFalsely : Prop := fnUnitReadsBackAWrittenEscapeRow.holds Try.pinned (OpenSpec.ofChange fnUnitReadsBackAWrittenEscapeWrong)

end Rows
end Go.Proofs.Qxb6600387a
