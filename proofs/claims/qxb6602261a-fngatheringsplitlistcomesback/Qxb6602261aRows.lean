/-
  No cell of these rows narrows 'for every input' (looked for: loops, veiled, ifaces, maps, wideKeys, modest, calm, conditions, laid).
  DERIVED. THE GIVEN ROWS OF THIS SEAT. 9 by the template 'for every input the law returns true; each argument reads behind the call as it read before'; 0 by the template 'total and deterministic' (their statements: Qxb6602261aTotals.lean).
  GIVEN WITH THE SEED: the statements are not yours to turn. If you find one false, say at which input.
  Laid BY PROGRAM, IN A SANDBOX (cutbox-rows.mjs): the forced cells as the released guide's own fill.sh prints them over the translation 88a269fd58828e68… (all of the seat's roots in one cut). By AI agents, Wed Nov 11 2026. No macro, syntax, notation, axiom, sorry.
-/
import Derived.Test.Qxb6602261aChecked
import GoSem.Claim
import GoSem.ClaimJoined
import GoSem.ClaimMapViews
import Derived.JoinedTies
import Derived.KernelRfl
namespace Go.Proofs.Qxb6602261a
/- THE CELL 'sum', in the pinned program and in every row, IS THE sha256 OF THE DUMP (.gsa) THAT Qxb6602261aProg.lean LOADS. Nothing in Lean hashes anything: it is a label: what it is worth is what the hold of that sum in a sandbox is worth. -/
noncomputable def Try.pinned : Pinned := { name := "qxb6602261a", sum := "88a269fd58828e68c11e3b9198c7dc59dac816f496cc7cc6fb130063aac0d321", checked := Try.checked }
namespace Rows
def none {H : Type} : Left H := { results := [], args := [] }

/-- 'zzlaws_protocol_b1.FnEventForCaseTable': WHATEVER THE INPUT: true; the input reads as it did. -/
def fnEventForCaseTableSpec : ChangeSpec := { name := "fnEventForCaseTable", fn := fun _ => fun
  | [d1, d2] => { results := [.lit (.bool true)], args := [d1, d2] }
  | _ => none }
def fnEventForCaseTableRow : OpenClaim := { program := "qxb6602261a", sum := "88a269fd58828e68c11e3b9198c7dc59dac816f496cc7cc6fb130063aac0d321", func := "example.com/adjacent/adjacent/zzlaws_protocol_b1.FnEventForCaseTable", spec := "fnEventForCaseTable", apart := false }
def FnEventForCaseTableSaid : Prop := fnEventForCaseTableRow.holds Try.pinned (OpenSpec.ofChange fnEventForCaseTableSpec)

/-- ITS FALSE NEIGHBOUR: 'it returns false'. Refute it at one input. -/
def fnEventForCaseTableWrong : ChangeSpec := { name := "fnEventForCaseTable", fn := fun _ => fun
  | [d1, d2] => { results := [.lit (.bool false)], args := [d1, d2] }
  | _ => none }
def FnEventForCaseTableWrongFalsely : Prop := fnEventForCaseTableRow.holds Try.pinned (OpenSpec.ofChange fnEventForCaseTableWrong)

/-- 'zzlaws_protocol_b1.FnEventForReverseMove': WHATEVER THE INPUT: true; the input reads as it did. -/
def fnEventForReverseMoveSpec : ChangeSpec := { name := "fnEventForReverseMove", fn := fun _ => fun
  | [d1, d2] => { results := [.lit (.bool true)], args := [d1, d2] }
  | _ => none }
def fnEventForReverseMoveRow : OpenClaim := { program := "qxb6602261a", sum := "88a269fd58828e68c11e3b9198c7dc59dac816f496cc7cc6fb130063aac0d321", func := "example.com/adjacent/adjacent/zzlaws_protocol_b1.FnEventForReverseMove", spec := "fnEventForReverseMove", apart := false }
def FnEventForReverseMoveSaid : Prop := fnEventForReverseMoveRow.holds Try.pinned (OpenSpec.ofChange fnEventForReverseMoveSpec)

/-- ITS FALSE NEIGHBOUR: 'it returns false'. Refute it at one input. -/
def fnEventForReverseMoveWrong : ChangeSpec := { name := "fnEventForReverseMove", fn := fun _ => fun
  | [d1, d2] => { results := [.lit (.bool false)], args := [d1, d2] }
  | _ => none }
def FnEventForReverseMoveWrongFalsely : Prop := fnEventForReverseMoveRow.holds Try.pinned (OpenSpec.ofChange fnEventForReverseMoveWrong)

/-- 'zzlaws_protocol_b1.FnEventForTracksAdjacency': WHATEVER THE INPUT: true; the input reads as it did. -/
def fnEventForTracksAdjacencySpec : ChangeSpec := { name := "fnEventForTracksAdjacency", fn := fun _ => fun
  | [d] => { results := [.lit (.bool true)], args := [d] }
  | _ => none }
def fnEventForTracksAdjacencyRow : OpenClaim := { program := "qxb6602261a", sum := "88a269fd58828e68c11e3b9198c7dc59dac816f496cc7cc6fb130063aac0d321", func := "example.com/adjacent/adjacent/zzlaws_protocol_b1.FnEventForTracksAdjacency", spec := "fnEventForTracksAdjacency", apart := false }
def FnEventForTracksAdjacencySaid : Prop := fnEventForTracksAdjacencyRow.holds Try.pinned (OpenSpec.ofChange fnEventForTracksAdjacencySpec)

/-- ITS FALSE NEIGHBOUR: 'it returns false'. Refute it at one input. -/
def fnEventForTracksAdjacencyWrong : ChangeSpec := { name := "fnEventForTracksAdjacency", fn := fun _ => fun
  | [d] => { results := [.lit (.bool false)], args := [d] }
  | _ => none }
def FnEventForTracksAdjacencyWrongFalsely : Prop := fnEventForTracksAdjacencyRow.holds Try.pinned (OpenSpec.ofChange fnEventForTracksAdjacencyWrong)

/-- 'zzlaws_protocol_b1.FnNamesApartAgainstModel': WHATEVER THE INPUT: true; the input reads as it did. -/
def fnNamesApartAgainstModelSpec : ChangeSpec := { name := "fnNamesApartAgainstModel", fn := fun _ => fun
  | [d1, d2] => { results := [.lit (.bool true)], args := [d1, d2] }
  | _ => none }
def fnNamesApartAgainstModelRow : OpenClaim := { program := "qxb6602261a", sum := "88a269fd58828e68c11e3b9198c7dc59dac816f496cc7cc6fb130063aac0d321", func := "example.com/adjacent/adjacent/zzlaws_protocol_b1.FnNamesApartAgainstModel", spec := "fnNamesApartAgainstModel", inPlace := ["internal/bytealg.abigen_runtime_cmpstring"], apart := false }
def FnNamesApartAgainstModelSaid : Prop := fnNamesApartAgainstModelRow.holds Try.pinned (OpenSpec.ofChange fnNamesApartAgainstModelSpec)

/-- ITS FALSE NEIGHBOUR: 'it returns false'. Refute it at one input. -/
def fnNamesApartAgainstModelWrong : ChangeSpec := { name := "fnNamesApartAgainstModel", fn := fun _ => fun
  | [d1, d2] => { results := [.lit (.bool false)], args := [d1, d2] }
  | _ => none }
def FnNamesApartAgainstModelWrongFalsely : Prop := fnNamesApartAgainstModelRow.holds Try.pinned (OpenSpec.ofChange fnNamesApartAgainstModelWrong)

/-- 'zzlaws_protocol_b1.FnNamesApartSwapArguments': WHATEVER THE INPUT: true; the input reads as it did. -/
def fnNamesApartSwapArgumentsSpec : ChangeSpec := { name := "fnNamesApartSwapArguments", fn := fun _ => fun
  | [d1, d2] => { results := [.lit (.bool true)], args := [d1, d2] }
  | _ => none }
def fnNamesApartSwapArgumentsRow : OpenClaim := { program := "qxb6602261a", sum := "88a269fd58828e68c11e3b9198c7dc59dac816f496cc7cc6fb130063aac0d321", func := "example.com/adjacent/adjacent/zzlaws_protocol_b1.FnNamesApartSwapArguments", spec := "fnNamesApartSwapArguments", inPlace := ["internal/bytealg.abigen_runtime_cmpstring"], apart := false }
def FnNamesApartSwapArgumentsSaid : Prop := fnNamesApartSwapArgumentsRow.holds Try.pinned (OpenSpec.ofChange fnNamesApartSwapArgumentsSpec)

/-- ITS FALSE NEIGHBOUR: 'it returns false'. Refute it at one input. -/
def fnNamesApartSwapArgumentsWrong : ChangeSpec := { name := "fnNamesApartSwapArguments", fn := fun _ => fun
  | [d1, d2] => { results := [.lit (.bool false)], args := [d1, d2] }
  | _ => none }
def FnNamesApartSwapArgumentsWrongFalsely : Prop := fnNamesApartSwapArgumentsRow.holds Try.pinned (OpenSpec.ofChange fnNamesApartSwapArgumentsWrong)

/-- 'zzlaws_protocol_b1.FnNamesApartAppliesBack': WHATEVER THE INPUT: true; the input reads as it did. -/
def fnNamesApartAppliesBackSpec : ChangeSpec := { name := "fnNamesApartAppliesBack", fn := fun _ => fun
  | [d1, d2] => { results := [.lit (.bool true)], args := [d1, d2] }
  | _ => none }
def fnNamesApartAppliesBackRow : OpenClaim := { program := "qxb6602261a", sum := "88a269fd58828e68c11e3b9198c7dc59dac816f496cc7cc6fb130063aac0d321", func := "example.com/adjacent/adjacent/zzlaws_protocol_b1.FnNamesApartAppliesBack", spec := "fnNamesApartAppliesBack", inPlace := ["internal/bytealg.abigen_runtime_cmpstring"], apart := false }
def FnNamesApartAppliesBackSaid : Prop := fnNamesApartAppliesBackRow.holds Try.pinned (OpenSpec.ofChange fnNamesApartAppliesBackSpec)

/-- ITS FALSE NEIGHBOUR: 'it returns false'. Refute it at one input. -/
def fnNamesApartAppliesBackWrong : ChangeSpec := { name := "fnNamesApartAppliesBack", fn := fun _ => fun
  | [d1, d2] => { results := [.lit (.bool false)], args := [d1, d2] }
  | _ => none }
def FnNamesApartAppliesBackWrongFalsely : Prop := fnNamesApartAppliesBackRow.holds Try.pinned (OpenSpec.ofChange fnNamesApartAppliesBackWrong)

/-- 'zzlaws_protocol_b1.FnGatheringAnswerIsTheList': WHATEVER THE INPUT: true; the input reads as it did. -/
def fnGatheringAnswerIsTheListSpec : ChangeSpec := { name := "fnGatheringAnswerIsTheList", fn := fun _ => fun
  | [d1, d2, d3, d4, d5, d6, d7, d8] => { results := [.lit (.bool true)], args := [d1, d2, d3, d4, d5, d6, d7, d8] }
  | _ => none }
def fnGatheringAnswerIsTheListRow : OpenClaim := { program := "qxb6602261a", sum := "88a269fd58828e68c11e3b9198c7dc59dac816f496cc7cc6fb130063aac0d321", func := "example.com/adjacent/adjacent/zzlaws_protocol_b1.FnGatheringAnswerIsTheList", spec := "fnGatheringAnswerIsTheList", apart := false }
def FnGatheringAnswerIsTheListSaid : Prop := fnGatheringAnswerIsTheListRow.holds Try.pinned (OpenSpec.ofChange fnGatheringAnswerIsTheListSpec)

/-- ITS FALSE NEIGHBOUR: 'it returns false'. Refute it at one input. -/
def fnGatheringAnswerIsTheListWrong : ChangeSpec := { name := "fnGatheringAnswerIsTheList", fn := fun _ => fun
  | [d1, d2, d3, d4, d5, d6, d7, d8] => { results := [.lit (.bool false)], args := [d1, d2, d3, d4, d5, d6, d7, d8] }
  | _ => none }
def FnGatheringAnswerIsTheListWrongFalsely : Prop := fnGatheringAnswerIsTheListRow.holds Try.pinned (OpenSpec.ofChange fnGatheringAnswerIsTheListWrong)

/-- 'zzlaws_protocol_b1.FnGatheringSplitListComesBack': WHATEVER THE INPUT: true; the input reads as it did. -/
def fnGatheringSplitListComesBackSpec : ChangeSpec := { name := "fnGatheringSplitListComesBack", fn := fun _ => fun
  | [d1, d2, d3, d4, d5, d6] => { results := [.lit (.bool true)], args := [d1, d2, d3, d4, d5, d6] }
  | _ => none }
def fnGatheringSplitListComesBackRow : OpenClaim := { program := "qxb6602261a", sum := "88a269fd58828e68c11e3b9198c7dc59dac816f496cc7cc6fb130063aac0d321", func := "example.com/adjacent/adjacent/zzlaws_protocol_b1.FnGatheringSplitListComesBack", spec := "fnGatheringSplitListComesBack", apart := false }
def FnGatheringSplitListComesBackSaid : Prop := fnGatheringSplitListComesBackRow.holds Try.pinned (OpenSpec.ofChange fnGatheringSplitListComesBackSpec)

/-- ITS FALSE NEIGHBOUR: 'it returns false'. Refute it at one input. -/
def fnGatheringSplitListComesBackWrong : ChangeSpec := { name := "fnGatheringSplitListComesBack", fn := fun _ => fun
  | [d1, d2, d3, d4, d5, d6] => { results := [.lit (.bool false)], args := [d1, d2, d3, d4, d5, d6] }
  | _ => none }
def FnGatheringSplitListComesBackWrongFalsely : Prop := fnGatheringSplitListComesBackRow.holds Try.pinned (OpenSpec.ofChange fnGatheringSplitListComesBackWrong)

/-- 'zzlaws_protocol_b1.FnGatheringStrayPartCloses': WHATEVER THE INPUT: true; the input reads as it did. -/
def fnGatheringStrayPartClosesSpec : ChangeSpec := { name := "fnGatheringStrayPartCloses", fn := fun _ => fun
  | [d1, d2, d3, d4, d5, d6, d7, d8, d9, d10, d11] => { results := [.lit (.bool true)], args := [d1, d2, d3, d4, d5, d6, d7, d8, d9, d10, d11] }
  | _ => none }
def fnGatheringStrayPartClosesRow : OpenClaim := { program := "qxb6602261a", sum := "88a269fd58828e68c11e3b9198c7dc59dac816f496cc7cc6fb130063aac0d321", func := "example.com/adjacent/adjacent/zzlaws_protocol_b1.FnGatheringStrayPartCloses", spec := "fnGatheringStrayPartCloses", apart := false }
def FnGatheringStrayPartClosesSaid : Prop := fnGatheringStrayPartClosesRow.holds Try.pinned (OpenSpec.ofChange fnGatheringStrayPartClosesSpec)

/-- ITS FALSE NEIGHBOUR: 'it returns false'. Refute it at one input. -/
def fnGatheringStrayPartClosesWrong : ChangeSpec := { name := "fnGatheringStrayPartCloses", fn := fun _ => fun
  | [d1, d2, d3, d4, d5, d6, d7, d8, d9, d10, d11] => { results := [.lit (.bool false)], args := [d1, d2, d3, d4, d5, d6, d7, d8, d9, d10, d11] }
  | _ => none }
def FnGatheringStrayPartClosesWrongFalsely : Prop := fnGatheringStrayPartClosesRow.holds Try.pinned (OpenSpec.ofChange fnGatheringStrayPartClosesWrong)

end Rows
end Go.Proofs.Qxb6602261a
