/-
  No cell of these rows narrows 'for every input' (looked for: loops, veiled, ifaces, maps, wideKeys, modest, calm, conditions, laid).
  DERIVED. THE GIVEN ROWS OF THIS SEAT. 7 by the template 'for every input the law returns true; each argument reads behind the call as it read before'; 0 by the template 'total and deterministic' (their statements: Qxb6602404aTotals.lean).
  GIVEN WITH THE SEED: the statements are not yours to turn. If you find one false, say at which input.
  Laid BY PROGRAM, IN A SANDBOX (cutbox-rows.mjs): the forced cells as the released guide's own fill.sh prints them over the translation 2989904eaa0da1d0… (all of the seat's roots in one cut). By AI agents, Wed Nov 11 2026. No macro, syntax, notation, axiom, sorry.
-/
import Derived.Test.Qxb6602404aChecked
import GoSem.Claim
import GoSem.ClaimJoined
import GoSem.ClaimMapViews
import Derived.JoinedTies
import Derived.KernelRfl
namespace Go.Proofs.Qxb6602404a
/- THE CELL 'sum', in the pinned program and in every row, IS THE sha256 OF THE DUMP (.gsa) THAT Qxb6602404aProg.lean LOADS. Nothing in Lean hashes anything: it is a label: what it is worth is what the hold of that sum in a sandbox is worth. -/
noncomputable def Try.pinned : Pinned := { name := "qxb6602404a", sum := "2989904eaa0da1d0476689bfc2c1ae288506ced9ca35358072115dde44765082", checked := Try.checked }
namespace Rows
def none {H : Type} : Left H := { results := [], args := [] }

/-- 'zzlaws_pkg_httpserver_b1.FnEqualFoldASCIIMatchesPairModel': WHATEVER THE INPUT: true; the input reads as it did. -/
def fnEqualFoldASCIIMatchesPairModelSpec : ChangeSpec := { name := "fnEqualFoldASCIIMatchesPairModel", fn := fun _ => fun
  | [d1, d2] => { results := [.lit (.bool true)], args := [d1, d2] }
  | _ => none }
def fnEqualFoldASCIIMatchesPairModelRow : OpenClaim := { program := "qxb6602404a", sum := "2989904eaa0da1d0476689bfc2c1ae288506ced9ca35358072115dde44765082", func := "example.com/fast-relay/fast-relay/zzlaws_pkg_httpserver_b1.FnEqualFoldASCIIMatchesPairModel", spec := "fnEqualFoldASCIIMatchesPairModel", apart := false }
def FnEqualFoldASCIIMatchesPairModelSaid : Prop := fnEqualFoldASCIIMatchesPairModelRow.holds Try.pinned (OpenSpec.ofChange fnEqualFoldASCIIMatchesPairModelSpec)

/-- ITS FALSE NEIGHBOUR: 'it returns false'. Refute it at one input. -/
def fnEqualFoldASCIIMatchesPairModelWrong : ChangeSpec := { name := "fnEqualFoldASCIIMatchesPairModel", fn := fun _ => fun
  | [d1, d2] => { results := [.lit (.bool false)], args := [d1, d2] }
  | _ => none }
def FnEqualFoldASCIIMatchesPairModelWrongFalsely : Prop := fnEqualFoldASCIIMatchesPairModelRow.holds Try.pinned (OpenSpec.ofChange fnEqualFoldASCIIMatchesPairModelWrong)

/-- 'zzlaws_pkg_httpserver_b1.FnEqualFoldASCIIIsEquivalence': WHATEVER THE INPUT: true; the input reads as it did. -/
def fnEqualFoldASCIIIsEquivalenceSpec : ChangeSpec := { name := "fnEqualFoldASCIIIsEquivalence", fn := fun _ => fun
  | [d1, d2, d3] => { results := [.lit (.bool true)], args := [d1, d2, d3] }
  | _ => none }
def fnEqualFoldASCIIIsEquivalenceRow : OpenClaim := { program := "qxb6602404a", sum := "2989904eaa0da1d0476689bfc2c1ae288506ced9ca35358072115dde44765082", func := "example.com/fast-relay/fast-relay/zzlaws_pkg_httpserver_b1.FnEqualFoldASCIIIsEquivalence", spec := "fnEqualFoldASCIIIsEquivalence", apart := false }
def FnEqualFoldASCIIIsEquivalenceSaid : Prop := fnEqualFoldASCIIIsEquivalenceRow.holds Try.pinned (OpenSpec.ofChange fnEqualFoldASCIIIsEquivalenceSpec)

/-- ITS FALSE NEIGHBOUR: 'it returns false'. Refute it at one input. -/
def fnEqualFoldASCIIIsEquivalenceWrong : ChangeSpec := { name := "fnEqualFoldASCIIIsEquivalence", fn := fun _ => fun
  | [d1, d2, d3] => { results := [.lit (.bool false)], args := [d1, d2, d3] }
  | _ => none }
def FnEqualFoldASCIIIsEquivalenceWrongFalsely : Prop := fnEqualFoldASCIIIsEquivalenceRow.holds Try.pinned (OpenSpec.ofChange fnEqualFoldASCIIIsEquivalenceWrong)

/-- 'zzlaws_pkg_httpserver_b1.FnEqualFoldASCIIIgnoresCaseFlips': WHATEVER THE INPUT: true; the input reads as it did. -/
def fnEqualFoldASCIIIgnoresCaseFlipsSpec : ChangeSpec := { name := "fnEqualFoldASCIIIgnoresCaseFlips", fn := fun _ => fun
  | [d1, d2, d3, d4] => { results := [.lit (.bool true)], args := [d1, d2, d3, d4] }
  | _ => none }
def fnEqualFoldASCIIIgnoresCaseFlipsRow : OpenClaim := { program := "qxb6602404a", sum := "2989904eaa0da1d0476689bfc2c1ae288506ced9ca35358072115dde44765082", func := "example.com/fast-relay/fast-relay/zzlaws_pkg_httpserver_b1.FnEqualFoldASCIIIgnoresCaseFlips", spec := "fnEqualFoldASCIIIgnoresCaseFlips", apart := false }
def FnEqualFoldASCIIIgnoresCaseFlipsSaid : Prop := fnEqualFoldASCIIIgnoresCaseFlipsRow.holds Try.pinned (OpenSpec.ofChange fnEqualFoldASCIIIgnoresCaseFlipsSpec)

/-- ITS FALSE NEIGHBOUR: 'it returns false'. Refute it at one input. -/
def fnEqualFoldASCIIIgnoresCaseFlipsWrong : ChangeSpec := { name := "fnEqualFoldASCIIIgnoresCaseFlips", fn := fun _ => fun
  | [d1, d2, d3, d4] => { results := [.lit (.bool false)], args := [d1, d2, d3, d4] }
  | _ => none }
def FnEqualFoldASCIIIgnoresCaseFlipsWrongFalsely : Prop := fnEqualFoldASCIIIgnoresCaseFlipsRow.holds Try.pinned (OpenSpec.ofChange fnEqualFoldASCIIIgnoresCaseFlipsWrong)

/-- 'zzlaws_pkg_httpserver_b1.FnDropSetHasIsSetMembership': WHATEVER THE INPUT: true; the input reads as it did. -/
def fnDropSetHasIsSetMembershipSpec : ChangeSpec := { name := "fnDropSetHasIsSetMembership", fn := fun _ => fun
  | [d1, d2, d3] => { results := [.lit (.bool true)], args := [d1, d2, d3] }
  | _ => none }
def fnDropSetHasIsSetMembershipRow : OpenClaim := { program := "qxb6602404a", sum := "2989904eaa0da1d0476689bfc2c1ae288506ced9ca35358072115dde44765082", func := "example.com/fast-relay/fast-relay/zzlaws_pkg_httpserver_b1.FnDropSetHasIsSetMembership", spec := "fnDropSetHasIsSetMembership", apart := false }
def FnDropSetHasIsSetMembershipSaid : Prop := fnDropSetHasIsSetMembershipRow.holds Try.pinned (OpenSpec.ofChange fnDropSetHasIsSetMembershipSpec)

/-- ITS FALSE NEIGHBOUR: 'it returns false'. Refute it at one input. -/
def fnDropSetHasIsSetMembershipWrong : ChangeSpec := { name := "fnDropSetHasIsSetMembership", fn := fun _ => fun
  | [d1, d2, d3] => { results := [.lit (.bool false)], args := [d1, d2, d3] }
  | _ => none }
def FnDropSetHasIsSetMembershipWrongFalsely : Prop := fnDropSetHasIsSetMembershipRow.holds Try.pinned (OpenSpec.ofChange fnDropSetHasIsSetMembershipWrong)

/-- 'zzlaws_pkg_httpserver_b1.FnIsTokenMatchesMaskModel': WHATEVER THE INPUT: true; the input reads as it did. -/
def fnIsTokenMatchesMaskModelSpec : ChangeSpec := { name := "fnIsTokenMatchesMaskModel", fn := fun _ => fun
  | [d] => { results := [.lit (.bool true)], args := [d] }
  | _ => none }
def fnIsTokenMatchesMaskModelRow : OpenClaim := { program := "qxb6602404a", sum := "2989904eaa0da1d0476689bfc2c1ae288506ced9ca35358072115dde44765082", func := "example.com/fast-relay/fast-relay/zzlaws_pkg_httpserver_b1.FnIsTokenMatchesMaskModel", spec := "fnIsTokenMatchesMaskModel", inPlace := ["internal/bytealg.IndexByteString"], apart := false }
def FnIsTokenMatchesMaskModelSaid : Prop := fnIsTokenMatchesMaskModelRow.holds Try.pinned (OpenSpec.ofChange fnIsTokenMatchesMaskModelSpec)

/-- ITS FALSE NEIGHBOUR: 'it returns false'. Refute it at one input. -/
def fnIsTokenMatchesMaskModelWrong : ChangeSpec := { name := "fnIsTokenMatchesMaskModel", fn := fun _ => fun
  | [d] => { results := [.lit (.bool false)], args := [d] }
  | _ => none }
def FnIsTokenMatchesMaskModelWrongFalsely : Prop := fnIsTokenMatchesMaskModelRow.holds Try.pinned (OpenSpec.ofChange fnIsTokenMatchesMaskModelWrong)

/-- 'zzlaws_pkg_httpserver_b1.FnIsTokenConcatenation': WHATEVER THE INPUT: true; the input reads as it did. -/
def fnIsTokenConcatenationSpec : ChangeSpec := { name := "fnIsTokenConcatenation", fn := fun _ => fun
  | [d1, d2] => { results := [.lit (.bool true)], args := [d1, d2] }
  | _ => none }
def fnIsTokenConcatenationRow : OpenClaim := { program := "qxb6602404a", sum := "2989904eaa0da1d0476689bfc2c1ae288506ced9ca35358072115dde44765082", func := "example.com/fast-relay/fast-relay/zzlaws_pkg_httpserver_b1.FnIsTokenConcatenation", spec := "fnIsTokenConcatenation", inPlace := ["internal/bytealg.IndexByteString"], apart := false }
def FnIsTokenConcatenationSaid : Prop := fnIsTokenConcatenationRow.holds Try.pinned (OpenSpec.ofChange fnIsTokenConcatenationSpec)

/-- ITS FALSE NEIGHBOUR: 'it returns false'. Refute it at one input. -/
def fnIsTokenConcatenationWrong : ChangeSpec := { name := "fnIsTokenConcatenation", fn := fun _ => fun
  | [d1, d2] => { results := [.lit (.bool false)], args := [d1, d2] }
  | _ => none }
def FnIsTokenConcatenationWrongFalsely : Prop := fnIsTokenConcatenationRow.holds Try.pinned (OpenSpec.ofChange fnIsTokenConcatenationWrong)

/-- 'zzlaws_pkg_httpserver_b1.FnIsTokenClosedUnderASCIIFold': WHATEVER THE INPUT: true; the input reads as it did. -/
def fnIsTokenClosedUnderASCIIFoldSpec : ChangeSpec := { name := "fnIsTokenClosedUnderASCIIFold", fn := fun _ => fun
  | [d1, d2] => { results := [.lit (.bool true)], args := [d1, d2] }
  | _ => none }
def fnIsTokenClosedUnderASCIIFoldRow : OpenClaim := { program := "qxb6602404a", sum := "2989904eaa0da1d0476689bfc2c1ae288506ced9ca35358072115dde44765082", func := "example.com/fast-relay/fast-relay/zzlaws_pkg_httpserver_b1.FnIsTokenClosedUnderASCIIFold", spec := "fnIsTokenClosedUnderASCIIFold", inPlace := ["internal/bytealg.IndexByteString"], apart := false }
def FnIsTokenClosedUnderASCIIFoldSaid : Prop := fnIsTokenClosedUnderASCIIFoldRow.holds Try.pinned (OpenSpec.ofChange fnIsTokenClosedUnderASCIIFoldSpec)

/-- ITS FALSE NEIGHBOUR: 'it returns false'. Refute it at one input. -/
def fnIsTokenClosedUnderASCIIFoldWrong : ChangeSpec := { name := "fnIsTokenClosedUnderASCIIFold", fn := fun _ => fun
  | [d1, d2] => { results := [.lit (.bool false)], args := [d1, d2] }
  | _ => none }
def FnIsTokenClosedUnderASCIIFoldWrongFalsely : Prop := fnIsTokenClosedUnderASCIIFoldRow.holds Try.pinned (OpenSpec.ofChange fnIsTokenClosedUnderASCIIFoldWrong)

end Rows
end Go.Proofs.Qxb6602404a
