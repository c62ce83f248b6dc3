/-
  No cell of these rows narrows 'for every input' (looked for: loops, veiled, ifaces, maps, wideKeys, modest, calm, conditions, laid).
  DERIVED. THE GIVEN ROWS OF THIS SEAT. 6 by the template 'for every input the law returns true; each argument reads behind the call as it read before'; 0 by the template 'total and deterministic' (their statements: Qxb6602525aModsTotals.lean).
  GIVEN WITH THE SEED: the statements are not yours to turn. If you find one false, say at which input.
  Laid BY PROGRAM, IN A SANDBOX (cutbox-rows.mjs): the forced cells as the released guide's own fill.sh prints them over the translation 8c66a7bb0c761a5d… (all of the seat's roots in one cut). By AI agents, Wed Nov 11 2026. No macro, syntax, notation, axiom, sorry.
-/
import Derived.Test.Qxb6602525aModsChecked
import GoSem.Claim
import GoSem.ClaimJoined
import GoSem.ClaimMapViews
import Derived.JoinedTies
import Derived.KernelRfl
namespace Go.Proofs.Qxb6602525aMods
/- THE CELL 'sum', in the pinned program and in every row, IS THE sha256 OF THE DUMP (.gsa) THAT Qxb6602525aModsProg.lean LOADS. Nothing in Lean hashes anything: it is a label: what it is worth is what the hold of that sum in a sandbox is worth. -/
noncomputable def Trym.pinned : Pinned := { name := "qxb6602525amods", sum := "8c66a7bb0c761a5d78138c64bf5395888f690d9ac1152fbf27c7f955fcaa1a26", checked := Trym.checked }
namespace Rows
def none {H : Type} : Left H := { results := [], args := [] }

/-- 'zzlaws_root_b1.FnDecodePartInvertsEscaping': WHATEVER THE INPUT: true; the input reads as it did. -/
def fnDecodePartInvertsEscapingSpec : ChangeSpec := { name := "fnDecodePartInvertsEscaping", fn := fun _ => fun
  | [d1, d2] => { results := [.lit (.bool true)], args := [d1, d2] }
  | _ => none }
def fnDecodePartInvertsEscapingRow : OpenClaim := { program := "qxb6602525amods", sum := "8c66a7bb0c761a5d78138c64bf5395888f690d9ac1152fbf27c7f955fcaa1a26", func := "example.com/annalith/annalith/zzlaws_root_b1.FnDecodePartInvertsEscaping", spec := "fnDecodePartInvertsEscaping", inPlace := ["internal/bytealg.IndexByteString"], make := .lifted ["publicsums"], apart := false }
def FnDecodePartInvertsEscapingSaid : Prop := fnDecodePartInvertsEscapingRow.holds Trym.pinned (OpenSpec.ofChange fnDecodePartInvertsEscapingSpec)

/-- ITS FALSE NEIGHBOUR: 'it returns false'. Refute it at one input. -/
def fnDecodePartInvertsEscapingWrong : ChangeSpec := { name := "fnDecodePartInvertsEscaping", fn := fun _ => fun
  | [d1, d2] => { results := [.lit (.bool false)], args := [d1, d2] }
  | _ => none }
def FnDecodePartInvertsEscapingWrongFalsely : Prop := fnDecodePartInvertsEscapingRow.holds Trym.pinned (OpenSpec.ofChange fnDecodePartInvertsEscapingWrong)

/-- 'zzlaws_root_b1.FnDecodePartConcatenatesWholeParts': WHATEVER THE INPUT: true; the input reads as it did. -/
def fnDecodePartConcatenatesWholePartsSpec : ChangeSpec := { name := "fnDecodePartConcatenatesWholeParts", fn := fun _ => fun
  | [d1, d2] => { results := [.lit (.bool true)], args := [d1, d2] }
  | _ => none }
def fnDecodePartConcatenatesWholePartsRow : OpenClaim := { program := "qxb6602525amods", sum := "8c66a7bb0c761a5d78138c64bf5395888f690d9ac1152fbf27c7f955fcaa1a26", func := "example.com/annalith/annalith/zzlaws_root_b1.FnDecodePartConcatenatesWholeParts", spec := "fnDecodePartConcatenatesWholeParts", inPlace := ["internal/bytealg.IndexByteString"], make := .lifted ["publicsums"], apart := false }
def FnDecodePartConcatenatesWholePartsSaid : Prop := fnDecodePartConcatenatesWholePartsRow.holds Trym.pinned (OpenSpec.ofChange fnDecodePartConcatenatesWholePartsSpec)

/-- ITS FALSE NEIGHBOUR: 'it returns false'. Refute it at one input. -/
def fnDecodePartConcatenatesWholePartsWrong : ChangeSpec := { name := "fnDecodePartConcatenatesWholeParts", fn := fun _ => fun
  | [d1, d2] => { results := [.lit (.bool false)], args := [d1, d2] }
  | _ => none }
def FnDecodePartConcatenatesWholePartsWrongFalsely : Prop := fnDecodePartConcatenatesWholePartsRow.holds Trym.pinned (OpenSpec.ofChange fnDecodePartConcatenatesWholePartsWrong)

/-- 'zzlaws_root_b1.FnSplitPointLiesOnAShortestEdit': WHATEVER THE INPUT: true; the input reads as it did. -/
def fnSplitPointLiesOnAShortestEditSpec : ChangeSpec := { name := "fnSplitPointLiesOnAShortestEdit", fn := fun _ => fun
  | [d1, d2, d3, d4, d5, d6] => { results := [.lit (.bool true)], args := [d1, d2, d3, d4, d5, d6] }
  | _ => none }
def fnSplitPointLiesOnAShortestEditRow : OpenClaim := { program := "qxb6602525amods", sum := "8c66a7bb0c761a5d78138c64bf5395888f690d9ac1152fbf27c7f955fcaa1a26", func := "example.com/annalith/annalith/zzlaws_root_b1.FnSplitPointLiesOnAShortestEdit", spec := "fnSplitPointLiesOnAShortestEdit", make := .lifted ["publicsums"], apart := false }
def FnSplitPointLiesOnAShortestEditSaid : Prop := fnSplitPointLiesOnAShortestEditRow.holds Trym.pinned (OpenSpec.ofChange fnSplitPointLiesOnAShortestEditSpec)

/-- ITS FALSE NEIGHBOUR: 'it returns false'. Refute it at one input. -/
def fnSplitPointLiesOnAShortestEditWrong : ChangeSpec := { name := "fnSplitPointLiesOnAShortestEdit", fn := fun _ => fun
  | [d1, d2, d3, d4, d5, d6] => { results := [.lit (.bool false)], args := [d1, d2, d3, d4, d5, d6] }
  | _ => none }
def FnSplitPointLiesOnAShortestEditWrongFalsely : Prop := fnSplitPointLiesOnAShortestEditRow.holds Trym.pinned (OpenSpec.ofChange fnSplitPointLiesOnAShortestEditWrong)

/-- 'zzlaws_root_b1.FnSplitAnswerStableUnderMoreWork': WHATEVER THE INPUT: true; the input reads as it did. -/
def fnSplitAnswerStableUnderMoreWorkSpec : ChangeSpec := { name := "fnSplitAnswerStableUnderMoreWork", fn := fun _ => fun
  | [d1, d2, d3, d4, d5, d6, d7, d8, d9] => { results := [.lit (.bool true)], args := [d1, d2, d3, d4, d5, d6, d7, d8, d9] }
  | _ => none }
def fnSplitAnswerStableUnderMoreWorkRow : OpenClaim := { program := "qxb6602525amods", sum := "8c66a7bb0c761a5d78138c64bf5395888f690d9ac1152fbf27c7f955fcaa1a26", func := "example.com/annalith/annalith/zzlaws_root_b1.FnSplitAnswerStableUnderMoreWork", spec := "fnSplitAnswerStableUnderMoreWork", make := .lifted ["publicsums"], apart := false }
def FnSplitAnswerStableUnderMoreWorkSaid : Prop := fnSplitAnswerStableUnderMoreWorkRow.holds Trym.pinned (OpenSpec.ofChange fnSplitAnswerStableUnderMoreWorkSpec)

/-- ITS FALSE NEIGHBOUR: 'it returns false'. Refute it at one input. -/
def fnSplitAnswerStableUnderMoreWorkWrong : ChangeSpec := { name := "fnSplitAnswerStableUnderMoreWork", fn := fun _ => fun
  | [d1, d2, d3, d4, d5, d6, d7, d8, d9] => { results := [.lit (.bool false)], args := [d1, d2, d3, d4, d5, d6, d7, d8, d9] }
  | _ => none }
def FnSplitAnswerStableUnderMoreWorkWrongFalsely : Prop := fnSplitAnswerStableUnderMoreWorkRow.holds Trym.pinned (OpenSpec.ofChange fnSplitAnswerStableUnderMoreWorkWrong)

/-- 'zzlaws_root_b1.FnHuffmanLengthsMatchMinPoolModel': WHATEVER THE INPUT: true; the input reads as it did. -/
def fnHuffmanLengthsMatchMinPoolModelSpec : ChangeSpec := { name := "fnHuffmanLengthsMatchMinPoolModel", fn := fun _ => fun
  | [d1, d2] => { results := [.lit (.bool true)], args := [d1, d2] }
  | _ => none }
def fnHuffmanLengthsMatchMinPoolModelRow : OpenClaim := { program := "qxb6602525amods", sum := "8c66a7bb0c761a5d78138c64bf5395888f690d9ac1152fbf27c7f955fcaa1a26", func := "example.com/annalith/annalith/zzlaws_root_b1.FnHuffmanLengthsMatchMinPoolModel", spec := "fnHuffmanLengthsMatchMinPoolModel", make := .lifted ["publicsums"], apart := false }
def FnHuffmanLengthsMatchMinPoolModelSaid : Prop := fnHuffmanLengthsMatchMinPoolModelRow.holds Trym.pinned (OpenSpec.ofChange fnHuffmanLengthsMatchMinPoolModelSpec)

/-- ITS FALSE NEIGHBOUR: 'it returns false'. Refute it at one input. -/
def fnHuffmanLengthsMatchMinPoolModelWrong : ChangeSpec := { name := "fnHuffmanLengthsMatchMinPoolModel", fn := fun _ => fun
  | [d1, d2] => { results := [.lit (.bool false)], args := [d1, d2] }
  | _ => none }
def FnHuffmanLengthsMatchMinPoolModelWrongFalsely : Prop := fnHuffmanLengthsMatchMinPoolModelRow.holds Trym.pinned (OpenSpec.ofChange fnHuffmanLengthsMatchMinPoolModelWrong)

/-- 'zzlaws_root_b1.FnHuffmanLengthsCompleteAndHeavierNotLonger': WHATEVER THE INPUT: true; the input reads as it did. -/
def fnHuffmanLengthsCompleteAndHeavierNotLongerSpec : ChangeSpec := { name := "fnHuffmanLengthsCompleteAndHeavierNotLonger", fn := fun _ => fun
  | [d1, d2] => { results := [.lit (.bool true)], args := [d1, d2] }
  | _ => none }
def fnHuffmanLengthsCompleteAndHeavierNotLongerRow : OpenClaim := { program := "qxb6602525amods", sum := "8c66a7bb0c761a5d78138c64bf5395888f690d9ac1152fbf27c7f955fcaa1a26", func := "example.com/annalith/annalith/zzlaws_root_b1.FnHuffmanLengthsCompleteAndHeavierNotLonger", spec := "fnHuffmanLengthsCompleteAndHeavierNotLonger", make := .lifted ["publicsums"], apart := false }
def FnHuffmanLengthsCompleteAndHeavierNotLongerSaid : Prop := fnHuffmanLengthsCompleteAndHeavierNotLongerRow.holds Trym.pinned (OpenSpec.ofChange fnHuffmanLengthsCompleteAndHeavierNotLongerSpec)

/-- ITS FALSE NEIGHBOUR: 'it returns false'. Refute it at one input. -/
def fnHuffmanLengthsCompleteAndHeavierNotLongerWrong : ChangeSpec := { name := "fnHuffmanLengthsCompleteAndHeavierNotLonger", fn := fun _ => fun
  | [d1, d2] => { results := [.lit (.bool false)], args := [d1, d2] }
  | _ => none }
def FnHuffmanLengthsCompleteAndHeavierNotLongerWrongFalsely : Prop := fnHuffmanLengthsCompleteAndHeavierNotLongerRow.holds Trym.pinned (OpenSpec.ofChange fnHuffmanLengthsCompleteAndHeavierNotLongerWrong)

end Rows
end Go.Proofs.Qxb6602525aMods
