/-
  NARROWER THAN 'FOR EVERY INPUT', by the rows' own cells (each row's printed sentence says how): FnFieldPathsAgreeWithWorklistModel: loops · FnFieldPathsUnderPrefixArePrefixed: loops.
  DERIVED. THE GIVEN ROWS OF THIS SEAT. 5 by the template 'for every input the law returns true; each argument reads behind the call as it read before'; 0 by the template 'total and deterministic' (their statements: Qxb6601217aTotals.lean).
  GIVEN WITH THE SEED: the statements are not yours to turn. If you find one false, say at which input.
  Laid BY PROGRAM, IN A SANDBOX (cutbox-rows.mjs): the forced cells as the released guide's own fill.sh prints them over the translation 50da086ea7c573ae… (all of the seat's roots in one cut). By AI agents, Wed Nov 11 2026. No macro, syntax, notation, axiom, sorry.
-/
import Derived.Test.Qxb6601217aChecked
import GoSem.Claim
import GoSem.ClaimJoined
import GoSem.ClaimMapViews
import Derived.JoinedTies
import Derived.KernelRfl
namespace Go.Proofs.Qxb6601217a
/- THE CELL 'sum', in the pinned program and in every row, IS THE sha256 OF THE DUMP (.gsa) THAT Qxb6601217aProg.lean LOADS. Nothing in Lean hashes anything: it is a label: what it is worth is what the hold of that sum in a sandbox is worth. -/
noncomputable def Try.pinned : Pinned := { name := "qxb6601217a", sum := "50da086ea7c573aef476fddbe821917eb8eb8e2480c1503228363377853ebab5", checked := Try.checked }
namespace Rows
def none {H : Type} : Left H := { results := [], args := [] }

/-- 'zzlaws_pkg_faults_b1.FnFieldPathsAgreeWithWorklistModel': WHATEVER THE INPUT: true; the input reads as it did. -/
def fnFieldPathsAgreeWithWorklistModelSpec : ChangeSpec := { name := "fnFieldPathsAgreeWithWorklistModel", fn := fun _ => fun
  | [d1, d2, d3] => { results := [.lit (.bool true)], args := [d1, d2, d3] }
  | _ => none }
def fnFieldPathsAgreeWithWorklistModelRow : OpenClaim := { program := "qxb6601217a", sum := "50da086ea7c573aef476fddbe821917eb8eb8e2480c1503228363377853ebab5", func := "example.com/shuttlewire/shuttlewire/zzlaws_pkg_faults_b1.FnFieldPathsAgreeWithWorklistModel", spec := "fnFieldPathsAgreeWithWorklistModel", recurses := true, loops := true, apart := false }
def FnFieldPathsAgreeWithWorklistModelSaid : Prop := fnFieldPathsAgreeWithWorklistModelRow.holds Try.pinned (OpenSpec.ofChange fnFieldPathsAgreeWithWorklistModelSpec)

/-- ITS FALSE NEIGHBOUR: 'it returns false'. Refute it at one input. -/
def fnFieldPathsAgreeWithWorklistModelWrong : ChangeSpec := { name := "fnFieldPathsAgreeWithWorklistModel", fn := fun _ => fun
  | [d1, d2, d3] => { results := [.lit (.bool false)], args := [d1, d2, d3] }
  | _ => none }
def FnFieldPathsAgreeWithWorklistModelWrongFalsely : Prop := fnFieldPathsAgreeWithWorklistModelRow.holds Try.pinned (OpenSpec.ofChange fnFieldPathsAgreeWithWorklistModelWrong)

/-- 'zzlaws_pkg_faults_b1.FnFieldPathsUnderPrefixArePrefixed': WHATEVER THE INPUT: true; the input reads as it did. -/
def fnFieldPathsUnderPrefixArePrefixedSpec : ChangeSpec := { name := "fnFieldPathsUnderPrefixArePrefixed", fn := fun _ => fun
  | [d1, d2] => { results := [.lit (.bool true)], args := [d1, d2] }
  | _ => none }
def fnFieldPathsUnderPrefixArePrefixedRow : OpenClaim := { program := "qxb6601217a", sum := "50da086ea7c573aef476fddbe821917eb8eb8e2480c1503228363377853ebab5", func := "example.com/shuttlewire/shuttlewire/zzlaws_pkg_faults_b1.FnFieldPathsUnderPrefixArePrefixed", spec := "fnFieldPathsUnderPrefixArePrefixed", recurses := true, loops := true, apart := false }
def FnFieldPathsUnderPrefixArePrefixedSaid : Prop := fnFieldPathsUnderPrefixArePrefixedRow.holds Try.pinned (OpenSpec.ofChange fnFieldPathsUnderPrefixArePrefixedSpec)

/-- ITS FALSE NEIGHBOUR: 'it returns false'. Refute it at one input. -/
def fnFieldPathsUnderPrefixArePrefixedWrong : ChangeSpec := { name := "fnFieldPathsUnderPrefixArePrefixed", fn := fun _ => fun
  | [d1, d2] => { results := [.lit (.bool false)], args := [d1, d2] }
  | _ => none }
def FnFieldPathsUnderPrefixArePrefixedWrongFalsely : Prop := fnFieldPathsUnderPrefixArePrefixedRow.holds Try.pinned (OpenSpec.ofChange fnFieldPathsUnderPrefixArePrefixedWrong)

/-- 'zzlaws_pkg_faults_b1.FnKindSentByCountsOverAConfiguration': WHATEVER THE INPUT: true; the input reads as it did. -/
def fnKindSentByCountsOverAConfigurationSpec : ChangeSpec := { name := "fnKindSentByCountsOverAConfiguration", fn := fun _ => fun
  | [d1, d2, d3, d4] => { results := [.lit (.bool true)], args := [d1, d2, d3, d4] }
  | _ => none }
def fnKindSentByCountsOverAConfigurationRow : OpenClaim := { program := "qxb6601217a", sum := "50da086ea7c573aef476fddbe821917eb8eb8e2480c1503228363377853ebab5", func := "example.com/shuttlewire/shuttlewire/zzlaws_pkg_faults_b1.FnKindSentByCountsOverAConfiguration", spec := "fnKindSentByCountsOverAConfiguration", apart := false }
def FnKindSentByCountsOverAConfigurationSaid : Prop := fnKindSentByCountsOverAConfigurationRow.holds Try.pinned (OpenSpec.ofChange fnKindSentByCountsOverAConfigurationSpec)

/-- ITS FALSE NEIGHBOUR: 'it returns false'. Refute it at one input. -/
def fnKindSentByCountsOverAConfigurationWrong : ChangeSpec := { name := "fnKindSentByCountsOverAConfiguration", fn := fun _ => fun
  | [d1, d2, d3, d4] => { results := [.lit (.bool false)], args := [d1, d2, d3, d4] }
  | _ => none }
def FnKindSentByCountsOverAConfigurationWrongFalsely : Prop := fnKindSentByCountsOverAConfigurationRow.holds Try.pinned (OpenSpec.ofChange fnKindSentByCountsOverAConfigurationWrong)

/-- 'zzlaws_pkg_faults_b1.FnKindSentByMirrorSwapsHeadAndTail': WHATEVER THE INPUT: true; the input reads as it did. -/
def fnKindSentByMirrorSwapsHeadAndTailSpec : ChangeSpec := { name := "fnKindSentByMirrorSwapsHeadAndTail", fn := fun _ => fun
  | [d1, d2, d3, d4, d5] => { results := [.lit (.bool true)], args := [d1, d2, d3, d4, d5] }
  | _ => none }
def fnKindSentByMirrorSwapsHeadAndTailRow : OpenClaim := { program := "qxb6601217a", sum := "50da086ea7c573aef476fddbe821917eb8eb8e2480c1503228363377853ebab5", func := "example.com/shuttlewire/shuttlewire/zzlaws_pkg_faults_b1.FnKindSentByMirrorSwapsHeadAndTail", spec := "fnKindSentByMirrorSwapsHeadAndTail", apart := false }
def FnKindSentByMirrorSwapsHeadAndTailSaid : Prop := fnKindSentByMirrorSwapsHeadAndTailRow.holds Try.pinned (OpenSpec.ofChange fnKindSentByMirrorSwapsHeadAndTailSpec)

/-- ITS FALSE NEIGHBOUR: 'it returns false'. Refute it at one input. -/
def fnKindSentByMirrorSwapsHeadAndTailWrong : ChangeSpec := { name := "fnKindSentByMirrorSwapsHeadAndTail", fn := fun _ => fun
  | [d1, d2, d3, d4, d5] => { results := [.lit (.bool false)], args := [d1, d2, d3, d4, d5] }
  | _ => none }
def FnKindSentByMirrorSwapsHeadAndTailWrongFalsely : Prop := fnKindSentByMirrorSwapsHeadAndTailRow.holds Try.pinned (OpenSpec.ofChange fnKindSentByMirrorSwapsHeadAndTailWrong)

/-- 'zzlaws_pkg_faults_b1.FnKindSentByEndsAreExcluded': WHATEVER THE INPUT: true; the input reads as it did. -/
def fnKindSentByEndsAreExcludedSpec : ChangeSpec := { name := "fnKindSentByEndsAreExcluded", fn := fun _ => fun
  | [d1, d2, d3] => { results := [.lit (.bool true)], args := [d1, d2, d3] }
  | _ => none }
def fnKindSentByEndsAreExcludedRow : OpenClaim := { program := "qxb6601217a", sum := "50da086ea7c573aef476fddbe821917eb8eb8e2480c1503228363377853ebab5", func := "example.com/shuttlewire/shuttlewire/zzlaws_pkg_faults_b1.FnKindSentByEndsAreExcluded", spec := "fnKindSentByEndsAreExcluded", apart := false }
def FnKindSentByEndsAreExcludedSaid : Prop := fnKindSentByEndsAreExcludedRow.holds Try.pinned (OpenSpec.ofChange fnKindSentByEndsAreExcludedSpec)

/-- ITS FALSE NEIGHBOUR: 'it returns false'. Refute it at one input. -/
def fnKindSentByEndsAreExcludedWrong : ChangeSpec := { name := "fnKindSentByEndsAreExcluded", fn := fun _ => fun
  | [d1, d2, d3] => { results := [.lit (.bool false)], args := [d1, d2, d3] }
  | _ => none }
def FnKindSentByEndsAreExcludedWrongFalsely : Prop := fnKindSentByEndsAreExcludedRow.holds Try.pinned (OpenSpec.ofChange fnKindSentByEndsAreExcludedWrong)

end Rows
end Go.Proofs.Qxb6601217a
