/-
  No cell of these rows narrows 'for every input' (looked for: loops, veiled, ifaces, maps, wideKeys, modest, calm, conditions, laid).
  DERIVED. THE GIVEN ROWS OF THIS SEAT. 6 by the template 'for every input the law returns true; each argument reads behind the call as it read before'; 0 by the template 'total and deterministic' (their statements: Qxb6602121aModsTotals.lean).
  GIVEN WITH THE SEED: the statements are not yours to turn. If you find one false, say at which input.
  Laid BY PROGRAM, IN A SANDBOX (cutbox-rows.mjs): the forced cells as the released guide's own fill.sh prints them over the translation b25b32e4e23d479f… (all of the seat's roots in one cut). By AI agents, Wed Nov 11 2026. No macro, syntax, notation, axiom, sorry.
-/
import Derived.Test.Qxb6602121aModsChecked
import GoSem.Claim
import GoSem.ClaimJoined
import GoSem.ClaimMapViews
import Derived.JoinedTies
import Derived.KernelRfl
namespace Go.Proofs.Qxb6602121aMods
/- THE CELL 'sum', in the pinned program and in every row, IS THE sha256 OF THE DUMP (.gsa) THAT Qxb6602121aModsProg.lean LOADS. Nothing in Lean hashes anything: it is a label: what it is worth is what the hold of that sum in a sandbox is worth. -/
noncomputable def Trym.pinned : Pinned := { name := "qxb6602121amods", sum := "b25b32e4e23d479fd4721af065b35b45a517a7f0a1762a6fdc2d88c934571025", checked := Trym.checked }
namespace Rows
def none {H : Type} : Left H := { results := [], args := [] }

/-- 'zzlaws_internal_resource_b1.FnPlainEndByFirstStops': WHATEVER THE INPUT: true; the input reads as it did. -/
def fnPlainEndByFirstStopsSpec : ChangeSpec := { name := "fnPlainEndByFirstStops", fn := fun _ => fun
  | [d1, d2, d3] => { results := [.lit (.bool true)], args := [d1, d2, d3] }
  | _ => none }
def fnPlainEndByFirstStopsRow : OpenClaim := { program := "qxb6602121amods", sum := "b25b32e4e23d479fd4721af065b35b45a517a7f0a1762a6fdc2d88c934571025", func := "example.com/waymark/waymark/zzlaws_internal_resource_b1.FnPlainEndByFirstStops", spec := "fnPlainEndByFirstStops", make := .lifted ["publicsums"], apart := false }
def FnPlainEndByFirstStopsSaid : Prop := fnPlainEndByFirstStopsRow.holds Trym.pinned (OpenSpec.ofChange fnPlainEndByFirstStopsSpec)

/-- ITS FALSE NEIGHBOUR: 'it returns false'. Refute it at one input. -/
def fnPlainEndByFirstStopsWrong : ChangeSpec := { name := "fnPlainEndByFirstStops", fn := fun _ => fun
  | [d1, d2, d3] => { results := [.lit (.bool false)], args := [d1, d2, d3] }
  | _ => none }
def FnPlainEndByFirstStopsWrongFalsely : Prop := fnPlainEndByFirstStopsRow.holds Trym.pinned (OpenSpec.ofChange fnPlainEndByFirstStopsWrong)

/-- 'zzlaws_internal_resource_b1.FnPlainEndIgnoresWhatStandsBefore': WHATEVER THE INPUT: true; the input reads as it did. -/
def fnPlainEndIgnoresWhatStandsBeforeSpec : ChangeSpec := { name := "fnPlainEndIgnoresWhatStandsBefore", fn := fun _ => fun
  | [d1, d2, d3, d4] => { results := [.lit (.bool true)], args := [d1, d2, d3, d4] }
  | _ => none }
def fnPlainEndIgnoresWhatStandsBeforeRow : OpenClaim := { program := "qxb6602121amods", sum := "b25b32e4e23d479fd4721af065b35b45a517a7f0a1762a6fdc2d88c934571025", func := "example.com/waymark/waymark/zzlaws_internal_resource_b1.FnPlainEndIgnoresWhatStandsBefore", spec := "fnPlainEndIgnoresWhatStandsBefore", make := .lifted ["publicsums"], apart := false }
def FnPlainEndIgnoresWhatStandsBeforeSaid : Prop := fnPlainEndIgnoresWhatStandsBeforeRow.holds Trym.pinned (OpenSpec.ofChange fnPlainEndIgnoresWhatStandsBeforeSpec)

/-- ITS FALSE NEIGHBOUR: 'it returns false'. Refute it at one input. -/
def fnPlainEndIgnoresWhatStandsBeforeWrong : ChangeSpec := { name := "fnPlainEndIgnoresWhatStandsBefore", fn := fun _ => fun
  | [d1, d2, d3, d4] => { results := [.lit (.bool false)], args := [d1, d2, d3, d4] }
  | _ => none }
def FnPlainEndIgnoresWhatStandsBeforeWrongFalsely : Prop := fnPlainEndIgnoresWhatStandsBeforeRow.holds Trym.pinned (OpenSpec.ofChange fnPlainEndIgnoresWhatStandsBeforeWrong)

/-- 'zzlaws_internal_resource_b1.FnPlainEndFlowEndsNoLater': WHATEVER THE INPUT: true; the input reads as it did. -/
def fnPlainEndFlowEndsNoLaterSpec : ChangeSpec := { name := "fnPlainEndFlowEndsNoLater", fn := fun _ => fun
  | [d1, d2] => { results := [.lit (.bool true)], args := [d1, d2] }
  | _ => none }
def fnPlainEndFlowEndsNoLaterRow : OpenClaim := { program := "qxb6602121amods", sum := "b25b32e4e23d479fd4721af065b35b45a517a7f0a1762a6fdc2d88c934571025", func := "example.com/waymark/waymark/zzlaws_internal_resource_b1.FnPlainEndFlowEndsNoLater", spec := "fnPlainEndFlowEndsNoLater", make := .lifted ["publicsums"], apart := false }
def FnPlainEndFlowEndsNoLaterSaid : Prop := fnPlainEndFlowEndsNoLaterRow.holds Trym.pinned (OpenSpec.ofChange fnPlainEndFlowEndsNoLaterSpec)

/-- ITS FALSE NEIGHBOUR: 'it returns false'. Refute it at one input. -/
def fnPlainEndFlowEndsNoLaterWrong : ChangeSpec := { name := "fnPlainEndFlowEndsNoLater", fn := fun _ => fun
  | [d1, d2] => { results := [.lit (.bool false)], args := [d1, d2] }
  | _ => none }
def FnPlainEndFlowEndsNoLaterWrongFalsely : Prop := fnPlainEndFlowEndsNoLaterRow.holds Trym.pinned (OpenSpec.ofChange fnPlainEndFlowEndsNoLaterWrong)

/-- 'zzlaws_internal_resource_b1.FnMayHideKeyFaultsByOnePass': WHATEVER THE INPUT: true; the input reads as it did. -/
def fnMayHideKeyFaultsByOnePassSpec : ChangeSpec := { name := "fnMayHideKeyFaultsByOnePass", fn := fun _ => fun
  | [d] => { results := [.lit (.bool true)], args := [d] }
  | _ => none }
def fnMayHideKeyFaultsByOnePassRow : OpenClaim := { program := "qxb6602121amods", sum := "b25b32e4e23d479fd4721af065b35b45a517a7f0a1762a6fdc2d88c934571025", func := "example.com/waymark/waymark/zzlaws_internal_resource_b1.FnMayHideKeyFaultsByOnePass", spec := "fnMayHideKeyFaultsByOnePass", inPlace := ["internal/bytealg.IndexByte", "internal/bytealg.Index"], named := ["internal/bytealg.MaxLen"], make := .lifted ["publicsums"], apart := false }
def FnMayHideKeyFaultsByOnePassSaid : Prop := fnMayHideKeyFaultsByOnePassRow.holds Trym.pinned (OpenSpec.ofChange fnMayHideKeyFaultsByOnePassSpec)

/-- ITS FALSE NEIGHBOUR: 'it returns false'. Refute it at one input. -/
def fnMayHideKeyFaultsByOnePassWrong : ChangeSpec := { name := "fnMayHideKeyFaultsByOnePass", fn := fun _ => fun
  | [d] => { results := [.lit (.bool false)], args := [d] }
  | _ => none }
def FnMayHideKeyFaultsByOnePassWrongFalsely : Prop := fnMayHideKeyFaultsByOnePassRow.holds Trym.pinned (OpenSpec.ofChange fnMayHideKeyFaultsByOnePassWrong)

/-- 'zzlaws_internal_resource_b1.FnMayHideKeyFaultsStaysOnAppend': WHATEVER THE INPUT: true; the input reads as it did. -/
def fnMayHideKeyFaultsStaysOnAppendSpec : ChangeSpec := { name := "fnMayHideKeyFaultsStaysOnAppend", fn := fun _ => fun
  | [d1, d2] => { results := [.lit (.bool true)], args := [d1, d2] }
  | _ => none }
def fnMayHideKeyFaultsStaysOnAppendRow : OpenClaim := { program := "qxb6602121amods", sum := "b25b32e4e23d479fd4721af065b35b45a517a7f0a1762a6fdc2d88c934571025", func := "example.com/waymark/waymark/zzlaws_internal_resource_b1.FnMayHideKeyFaultsStaysOnAppend", spec := "fnMayHideKeyFaultsStaysOnAppend", inPlace := ["internal/bytealg.IndexByte", "internal/bytealg.Index"], named := ["internal/bytealg.MaxLen"], make := .lifted ["publicsums"], apart := false }
def FnMayHideKeyFaultsStaysOnAppendSaid : Prop := fnMayHideKeyFaultsStaysOnAppendRow.holds Trym.pinned (OpenSpec.ofChange fnMayHideKeyFaultsStaysOnAppendSpec)

/-- ITS FALSE NEIGHBOUR: 'it returns false'. Refute it at one input. -/
def fnMayHideKeyFaultsStaysOnAppendWrong : ChangeSpec := { name := "fnMayHideKeyFaultsStaysOnAppend", fn := fun _ => fun
  | [d1, d2] => { results := [.lit (.bool false)], args := [d1, d2] }
  | _ => none }
def FnMayHideKeyFaultsStaysOnAppendWrongFalsely : Prop := fnMayHideKeyFaultsStaysOnAppendRow.holds Trym.pinned (OpenSpec.ofChange fnMayHideKeyFaultsStaysOnAppendWrong)

/-- 'zzlaws_internal_resource_b1.FnFirstTimeAgreesWithASet': WHATEVER THE INPUT: true; the input reads as it did. -/
def fnFirstTimeAgreesWithASetSpec : ChangeSpec := { name := "fnFirstTimeAgreesWithASet", fn := fun _ => fun
  | [d1, d2] => { results := [.lit (.bool true)], args := [d1, d2] }
  | _ => none }
def fnFirstTimeAgreesWithASetRow : OpenClaim := { program := "qxb6602121amods", sum := "b25b32e4e23d479fd4721af065b35b45a517a7f0a1762a6fdc2d88c934571025", func := "example.com/waymark/waymark/zzlaws_internal_resource_b1.FnFirstTimeAgreesWithASet", spec := "fnFirstTimeAgreesWithASet", make := .lifted ["publicsums"], apart := false }
def FnFirstTimeAgreesWithASetSaid : Prop := fnFirstTimeAgreesWithASetRow.holds Trym.pinned (OpenSpec.ofChange fnFirstTimeAgreesWithASetSpec)

/-- ITS FALSE NEIGHBOUR: 'it returns false'. Refute it at one input. -/
def fnFirstTimeAgreesWithASetWrong : ChangeSpec := { name := "fnFirstTimeAgreesWithASet", fn := fun _ => fun
  | [d1, d2] => { results := [.lit (.bool false)], args := [d1, d2] }
  | _ => none }
def FnFirstTimeAgreesWithASetWrongFalsely : Prop := fnFirstTimeAgreesWithASetRow.holds Trym.pinned (OpenSpec.ofChange fnFirstTimeAgreesWithASetWrong)

end Rows
end Go.Proofs.Qxb6602121aMods
