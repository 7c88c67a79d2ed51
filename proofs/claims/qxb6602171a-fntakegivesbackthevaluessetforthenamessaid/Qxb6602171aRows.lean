/-
  No cell of these rows narrows 'for every input' (looked for: loops, veiled, ifaces, maps, wideKeys, modest, calm, conditions, laid).
  DERIVED. THE GIVEN ROWS OF THIS SEAT. 5 by the template 'for every input the law returns true; each argument reads behind the call as it read before'; 0 by the template 'total and deterministic' (their statements: Qxb6602171aTotals.lean).
  GIVEN WITH THE SEED: the statements are not yours to turn. If you find one false, say at which input.
  Laid BY PROGRAM, IN A SANDBOX (cutbox-rows.mjs): the forced cells as the released guide's own fill.sh prints them over the translation 4014c710af26b5ef… (all of the seat's roots in one cut). By AI agents, Wed Nov 11 2026. No macro, syntax, notation, axiom, sorry.
-/
import Derived.Test.Qxb6602171aChecked
import GoSem.Claim
import GoSem.ClaimJoined
import GoSem.ClaimMapViews
import Derived.JoinedTies
import Derived.KernelRfl
namespace Go.Proofs.Qxb6602171a
/- THE CELL 'sum', in the pinned program and in every row, IS THE sha256 OF THE DUMP (.gsa) THAT Qxb6602171aProg.lean LOADS. Nothing in Lean hashes anything: it is a label: what it is worth is what the hold of that sum in a sandbox is worth. -/
noncomputable def Try.pinned : Pinned := { name := "qxb6602171a", sum := "4014c710af26b5ef73dc4cbd625153f70146db7646b9c86fee0ec19c6c6ab77a", checked := Try.checked }
namespace Rows
def none {H : Type} : Left H := { results := [], args := [] }

/-- 'zzlaws_root_b1.FnTakeTakesTheFirstSegmentAfterItsText': WHATEVER THE INPUT: true; the input reads as it did. -/
def fnTakeTakesTheFirstSegmentAfterItsTextSpec : ChangeSpec := { name := "fnTakeTakesTheFirstSegmentAfterItsText", fn := fun _ => fun
  | [d1, d2, d3, d4, d5] => { results := [.lit (.bool true)], args := [d1, d2, d3, d4, d5] }
  | _ => none }
def fnTakeTakesTheFirstSegmentAfterItsTextRow : OpenClaim := { program := "qxb6602171a", sum := "4014c710af26b5ef73dc4cbd625153f70146db7646b9c86fee0ec19c6c6ab77a", func := "example.com/path-to-handler/path-to-handler/zzlaws_root_b1.FnTakeTakesTheFirstSegmentAfterItsText", spec := "fnTakeTakesTheFirstSegmentAfterItsText", apart := false }
def FnTakeTakesTheFirstSegmentAfterItsTextSaid : Prop := fnTakeTakesTheFirstSegmentAfterItsTextRow.holds Try.pinned (OpenSpec.ofChange fnTakeTakesTheFirstSegmentAfterItsTextSpec)

/-- ITS FALSE NEIGHBOUR: 'it returns false'. Refute it at one input. -/
def fnTakeTakesTheFirstSegmentAfterItsTextWrong : ChangeSpec := { name := "fnTakeTakesTheFirstSegmentAfterItsText", fn := fun _ => fun
  | [d1, d2, d3, d4, d5] => { results := [.lit (.bool false)], args := [d1, d2, d3, d4, d5] }
  | _ => none }
def FnTakeTakesTheFirstSegmentAfterItsTextWrongFalsely : Prop := fnTakeTakesTheFirstSegmentAfterItsTextRow.holds Try.pinned (OpenSpec.ofChange fnTakeTakesTheFirstSegmentAfterItsTextWrong)

/-- 'zzlaws_root_b1.FnTakeGivesBackTheValuesSetForTheNames': WHATEVER THE INPUT: true; the input reads as it did. -/
def fnTakeGivesBackTheValuesSetForTheNamesSpec : ChangeSpec := { name := "fnTakeGivesBackTheValuesSetForTheNames", fn := fun _ => fun
  | [d1, d2] => { results := [.lit (.bool true)], args := [d1, d2] }
  | _ => none }
def fnTakeGivesBackTheValuesSetForTheNamesRow : OpenClaim := { program := "qxb6602171a", sum := "4014c710af26b5ef73dc4cbd625153f70146db7646b9c86fee0ec19c6c6ab77a", func := "example.com/path-to-handler/path-to-handler/zzlaws_root_b1.FnTakeGivesBackTheValuesSetForTheNames", spec := "fnTakeGivesBackTheValuesSetForTheNames", apart := false }
def FnTakeGivesBackTheValuesSetForTheNamesSaid : Prop := fnTakeGivesBackTheValuesSetForTheNamesRow.holds Try.pinned (OpenSpec.ofChange fnTakeGivesBackTheValuesSetForTheNamesSpec)

/-- ITS FALSE NEIGHBOUR: 'it returns false'. Refute it at one input. -/
def fnTakeGivesBackTheValuesSetForTheNamesWrong : ChangeSpec := { name := "fnTakeGivesBackTheValuesSetForTheNames", fn := fun _ => fun
  | [d1, d2] => { results := [.lit (.bool false)], args := [d1, d2] }
  | _ => none }
def FnTakeGivesBackTheValuesSetForTheNamesWrongFalsely : Prop := fnTakeGivesBackTheValuesSetForTheNamesRow.holds Try.pinned (OpenSpec.ofChange fnTakeGivesBackTheValuesSetForTheNamesWrong)

/-- 'zzlaws_root_b1.FnCutRawPathIsTheSlashAtTheDecodedOffset': WHATEVER THE INPUT: true; the input reads as it did. -/
def fnCutRawPathIsTheSlashAtTheDecodedOffsetSpec : ChangeSpec := { name := "fnCutRawPathIsTheSlashAtTheDecodedOffset", fn := fun _ => fun
  | [d1, d2] => { results := [.lit (.bool true)], args := [d1, d2] }
  | _ => none }
def fnCutRawPathIsTheSlashAtTheDecodedOffsetRow : OpenClaim := { program := "qxb6602171a", sum := "4014c710af26b5ef73dc4cbd625153f70146db7646b9c86fee0ec19c6c6ab77a", func := "example.com/path-to-handler/path-to-handler/zzlaws_root_b1.FnCutRawPathIsTheSlashAtTheDecodedOffset", spec := "fnCutRawPathIsTheSlashAtTheDecodedOffset", apart := false }
def FnCutRawPathIsTheSlashAtTheDecodedOffsetSaid : Prop := fnCutRawPathIsTheSlashAtTheDecodedOffsetRow.holds Try.pinned (OpenSpec.ofChange fnCutRawPathIsTheSlashAtTheDecodedOffsetSpec)

/-- ITS FALSE NEIGHBOUR: 'it returns false'. Refute it at one input. -/
def fnCutRawPathIsTheSlashAtTheDecodedOffsetWrong : ChangeSpec := { name := "fnCutRawPathIsTheSlashAtTheDecodedOffset", fn := fun _ => fun
  | [d1, d2] => { results := [.lit (.bool false)], args := [d1, d2] }
  | _ => none }
def FnCutRawPathIsTheSlashAtTheDecodedOffsetWrongFalsely : Prop := fnCutRawPathIsTheSlashAtTheDecodedOffsetRow.holds Try.pinned (OpenSpec.ofChange fnCutRawPathIsTheSlashAtTheDecodedOffsetWrong)

/-- 'zzlaws_root_b1.FnCutRawPathLeavesASlashSuffixWithinBounds': WHATEVER THE INPUT: true; the input reads as it did. -/
def fnCutRawPathLeavesASlashSuffixWithinBoundsSpec : ChangeSpec := { name := "fnCutRawPathLeavesASlashSuffixWithinBounds", fn := fun _ => fun
  | [d1, d2] => { results := [.lit (.bool true)], args := [d1, d2] }
  | _ => none }
def fnCutRawPathLeavesASlashSuffixWithinBoundsRow : OpenClaim := { program := "qxb6602171a", sum := "4014c710af26b5ef73dc4cbd625153f70146db7646b9c86fee0ec19c6c6ab77a", func := "example.com/path-to-handler/path-to-handler/zzlaws_root_b1.FnCutRawPathLeavesASlashSuffixWithinBounds", spec := "fnCutRawPathLeavesASlashSuffixWithinBounds", apart := false }
def FnCutRawPathLeavesASlashSuffixWithinBoundsSaid : Prop := fnCutRawPathLeavesASlashSuffixWithinBoundsRow.holds Try.pinned (OpenSpec.ofChange fnCutRawPathLeavesASlashSuffixWithinBoundsSpec)

/-- ITS FALSE NEIGHBOUR: 'it returns false'. Refute it at one input. -/
def fnCutRawPathLeavesASlashSuffixWithinBoundsWrong : ChangeSpec := { name := "fnCutRawPathLeavesASlashSuffixWithinBounds", fn := fun _ => fun
  | [d1, d2] => { results := [.lit (.bool false)], args := [d1, d2] }
  | _ => none }
def FnCutRawPathLeavesASlashSuffixWithinBoundsWrongFalsely : Prop := fnCutRawPathLeavesASlashSuffixWithinBoundsRow.holds Try.pinned (OpenSpec.ofChange fnCutRawPathLeavesASlashSuffixWithinBoundsWrong)

/-- 'zzlaws_root_b1.FnCutRawPathCutsAddUp': WHATEVER THE INPUT: true; the input reads as it did. -/
def fnCutRawPathCutsAddUpSpec : ChangeSpec := { name := "fnCutRawPathCutsAddUp", fn := fun _ => fun
  | [d1, d2, d3] => { results := [.lit (.bool true)], args := [d1, d2, d3] }
  | _ => none }
def fnCutRawPathCutsAddUpRow : OpenClaim := { program := "qxb6602171a", sum := "4014c710af26b5ef73dc4cbd625153f70146db7646b9c86fee0ec19c6c6ab77a", func := "example.com/path-to-handler/path-to-handler/zzlaws_root_b1.FnCutRawPathCutsAddUp", spec := "fnCutRawPathCutsAddUp", apart := false }
def FnCutRawPathCutsAddUpSaid : Prop := fnCutRawPathCutsAddUpRow.holds Try.pinned (OpenSpec.ofChange fnCutRawPathCutsAddUpSpec)

/-- ITS FALSE NEIGHBOUR: 'it returns false'. Refute it at one input. -/
def fnCutRawPathCutsAddUpWrong : ChangeSpec := { name := "fnCutRawPathCutsAddUp", fn := fun _ => fun
  | [d1, d2, d3] => { results := [.lit (.bool false)], args := [d1, d2, d3] }
  | _ => none }
def FnCutRawPathCutsAddUpWrongFalsely : Prop := fnCutRawPathCutsAddUpRow.holds Try.pinned (OpenSpec.ofChange fnCutRawPathCutsAddUpWrong)

end Rows
end Go.Proofs.Qxb6602171a
