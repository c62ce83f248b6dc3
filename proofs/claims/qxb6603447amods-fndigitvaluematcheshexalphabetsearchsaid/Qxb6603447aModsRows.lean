/-
  No cell of these rows narrows 'for every input' (looked for: loops, veiled, ifaces, maps, wideKeys, modest, calm, conditions, laid).
  DERIVED. THE GIVEN ROWS OF THIS SEAT. 4 by the template 'for every input the law returns true; each argument reads behind the call as it read before'; 0 by the template 'total and deterministic' (their statements: Qxb6603447aModsTotals.lean).
  GIVEN WITH THE SEED: the statements are not yours to turn. If you find one false, say at which input.
  Laid BY PROGRAM, IN A SANDBOX (cutbox-rows.mjs): the forced cells as the released guide's own fill.sh prints them over the translation 625c370bfb842377… (all of the seat's roots in one cut). By AI agents, Wed Nov 11 2026. No macro, syntax, notation, axiom, sorry.
-/
import Derived.Test.Qxb6603447aModsChecked
import GoSem.Claim
import GoSem.ClaimJoined
import GoSem.ClaimMapViews
import Derived.JoinedTies
import Derived.KernelRfl
namespace Go.Proofs.Qxb6603447aMods
/- THE CELL 'sum', in the pinned program and in every row, IS THE sha256 OF THE DUMP (.gsa) THAT Qxb6603447aModsProg.lean LOADS. Nothing in Lean hashes anything: it is a label: what it is worth is what the hold of that sum in a sandbox is worth. -/
noncomputable def Trym.pinned : Pinned := { name := "qxb6603447amods", sum := "625c370bfb842377c89bd643232333f1d1138a9f3403d2a09c29a01d2607b7c0", checked := Trym.checked }
namespace Rows
def none {H : Type} : Left H := { results := [], args := [] }

/-- 'zzlaws_internal_codegen_b1.FnDigitValueMatchesHexAlphabetSearch': WHATEVER THE INPUT: true; the input reads as it did. -/
def fnDigitValueMatchesHexAlphabetSearchSpec : ChangeSpec := { name := "fnDigitValueMatchesHexAlphabetSearch", fn := fun _ => fun
  | [d] => { results := [.lit (.bool true)], args := [d] }
  | _ => none }
def fnDigitValueMatchesHexAlphabetSearchRow : OpenClaim := { program := "qxb6603447amods", sum := "625c370bfb842377c89bd643232333f1d1138a9f3403d2a09c29a01d2607b7c0", func := "example.com/fieldforge/fieldforge/zzlaws_internal_codegen_b1.FnDigitValueMatchesHexAlphabetSearch", spec := "fnDigitValueMatchesHexAlphabetSearch", make := .lifted ["publicsums"], apart := false }
def FnDigitValueMatchesHexAlphabetSearchSaid : Prop := fnDigitValueMatchesHexAlphabetSearchRow.holds Trym.pinned (OpenSpec.ofChange fnDigitValueMatchesHexAlphabetSearchSpec)

/-- ITS FALSE NEIGHBOUR: 'it returns false'. Refute it at one input. -/
def fnDigitValueMatchesHexAlphabetSearchWrong : ChangeSpec := { name := "fnDigitValueMatchesHexAlphabetSearch", fn := fun _ => fun
  | [d] => { results := [.lit (.bool false)], args := [d] }
  | _ => none }
def FnDigitValueMatchesHexAlphabetSearchWrongFalsely : Prop := fnDigitValueMatchesHexAlphabetSearchRow.holds Trym.pinned (OpenSpec.ofChange fnDigitValueMatchesHexAlphabetSearchWrong)

/-- 'zzlaws_internal_codegen_b1.FnDigitValueReadsBackEveryHexDigitInBothCases': WHATEVER THE INPUT: true; the input reads as it did. -/
def fnDigitValueReadsBackEveryHexDigitInBothCasesSpec : ChangeSpec := { name := "fnDigitValueReadsBackEveryHexDigitInBothCases", fn := fun _ => fun
  | [d] => { results := [.lit (.bool true)], args := [d] }
  | _ => none }
def fnDigitValueReadsBackEveryHexDigitInBothCasesRow : OpenClaim := { program := "qxb6603447amods", sum := "625c370bfb842377c89bd643232333f1d1138a9f3403d2a09c29a01d2607b7c0", func := "example.com/fieldforge/fieldforge/zzlaws_internal_codegen_b1.FnDigitValueReadsBackEveryHexDigitInBothCases", spec := "fnDigitValueReadsBackEveryHexDigitInBothCases", make := .lifted ["publicsums"], apart := false }
def FnDigitValueReadsBackEveryHexDigitInBothCasesSaid : Prop := fnDigitValueReadsBackEveryHexDigitInBothCasesRow.holds Trym.pinned (OpenSpec.ofChange fnDigitValueReadsBackEveryHexDigitInBothCasesSpec)

/-- ITS FALSE NEIGHBOUR: 'it returns false'. Refute it at one input. -/
def fnDigitValueReadsBackEveryHexDigitInBothCasesWrong : ChangeSpec := { name := "fnDigitValueReadsBackEveryHexDigitInBothCases", fn := fun _ => fun
  | [d] => { results := [.lit (.bool false)], args := [d] }
  | _ => none }
def FnDigitValueReadsBackEveryHexDigitInBothCasesWrongFalsely : Prop := fnDigitValueReadsBackEveryHexDigitInBothCasesRow.holds Trym.pinned (OpenSpec.ofChange fnDigitValueReadsBackEveryHexDigitInBothCasesWrong)

/-- 'zzlaws_internal_codegen_b1.FnGoCamelCaseIsIdempotentOnItsOutputs': WHATEVER THE INPUT: true; the input reads as it did. -/
def fnGoCamelCaseIsIdempotentOnItsOutputsSpec : ChangeSpec := { name := "fnGoCamelCaseIsIdempotentOnItsOutputs", fn := fun _ => fun
  | [d] => { results := [.lit (.bool true)], args := [d] }
  | _ => none }
def fnGoCamelCaseIsIdempotentOnItsOutputsRow : OpenClaim := { program := "qxb6603447amods", sum := "625c370bfb842377c89bd643232333f1d1138a9f3403d2a09c29a01d2607b7c0", func := "example.com/fieldforge/fieldforge/zzlaws_internal_codegen_b1.FnGoCamelCaseIsIdempotentOnItsOutputs", spec := "fnGoCamelCaseIsIdempotentOnItsOutputs", inPlace := ["internal/abi.NoEscape"], make := .lifted ["publicsums"], apart := false }
def FnGoCamelCaseIsIdempotentOnItsOutputsSaid : Prop := fnGoCamelCaseIsIdempotentOnItsOutputsRow.holds Trym.pinned (OpenSpec.ofChange fnGoCamelCaseIsIdempotentOnItsOutputsSpec)

/-- ITS FALSE NEIGHBOUR: 'it returns false'. Refute it at one input. -/
def fnGoCamelCaseIsIdempotentOnItsOutputsWrong : ChangeSpec := { name := "fnGoCamelCaseIsIdempotentOnItsOutputs", fn := fun _ => fun
  | [d] => { results := [.lit (.bool false)], args := [d] }
  | _ => none }
def FnGoCamelCaseIsIdempotentOnItsOutputsWrongFalsely : Prop := fnGoCamelCaseIsIdempotentOnItsOutputsRow.holds Trym.pinned (OpenSpec.ofChange fnGoCamelCaseIsIdempotentOnItsOutputsWrong)

/-- 'zzlaws_internal_codegen_b1.FnGoCamelCaseGivesDotFreeExportedShape': WHATEVER THE INPUT: true; the input reads as it did. -/
def fnGoCamelCaseGivesDotFreeExportedShapeSpec : ChangeSpec := { name := "fnGoCamelCaseGivesDotFreeExportedShape", fn := fun _ => fun
  | [d] => { results := [.lit (.bool true)], args := [d] }
  | _ => none }
def fnGoCamelCaseGivesDotFreeExportedShapeRow : OpenClaim := { program := "qxb6603447amods", sum := "625c370bfb842377c89bd643232333f1d1138a9f3403d2a09c29a01d2607b7c0", func := "example.com/fieldforge/fieldforge/zzlaws_internal_codegen_b1.FnGoCamelCaseGivesDotFreeExportedShape", spec := "fnGoCamelCaseGivesDotFreeExportedShape", inPlace := ["internal/abi.NoEscape"], make := .lifted ["publicsums"], apart := false }
def FnGoCamelCaseGivesDotFreeExportedShapeSaid : Prop := fnGoCamelCaseGivesDotFreeExportedShapeRow.holds Trym.pinned (OpenSpec.ofChange fnGoCamelCaseGivesDotFreeExportedShapeSpec)

/-- ITS FALSE NEIGHBOUR: 'it returns false'. Refute it at one input. -/
def fnGoCamelCaseGivesDotFreeExportedShapeWrong : ChangeSpec := { name := "fnGoCamelCaseGivesDotFreeExportedShape", fn := fun _ => fun
  | [d] => { results := [.lit (.bool false)], args := [d] }
  | _ => none }
def FnGoCamelCaseGivesDotFreeExportedShapeWrongFalsely : Prop := fnGoCamelCaseGivesDotFreeExportedShapeRow.holds Trym.pinned (OpenSpec.ofChange fnGoCamelCaseGivesDotFreeExportedShapeWrong)

end Rows
end Go.Proofs.Qxb6603447aMods
