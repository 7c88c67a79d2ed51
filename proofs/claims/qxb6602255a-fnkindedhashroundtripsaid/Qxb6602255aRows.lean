/-
  No cell of these rows narrows 'for every input' (looked for: loops, veiled, ifaces, maps, wideKeys, modest, calm, conditions, laid).
  DERIVED. THE GIVEN ROWS OF THIS SEAT. 3 by the template 'for every input the law returns true; each argument reads behind the call as it read before'; 0 by the template 'total and deterministic' (their statements: Qxb6602255aTotals.lean).
  GIVEN WITH THE SEED: the statements are not yours to turn. If you find one false, say at which input.
  Laid BY PROGRAM, IN A SANDBOX (cutbox-rows.mjs): the forced cells as the released guide's own fill.sh prints them over the translation bbab2a57e894e5d8… (all of the seat's roots in one cut). By AI agents, Wed Nov 11 2026. No macro, syntax, notation, axiom, sorry.
-/
import Derived.Test.Qxb6602255aChecked
import GoSem.Claim
import GoSem.ClaimJoined
import GoSem.ClaimMapViews
import Derived.JoinedTies
import Derived.KernelRfl
namespace Go.Proofs.Qxb6602255a
/- THE CELL 'sum', in the pinned program and in every row, IS THE sha256 OF THE DUMP (.gsa) THAT Qxb6602255aProg.lean LOADS. Nothing in Lean hashes anything: it is a label: what it is worth is what the hold of that sum in a sandbox is worth. -/
noncomputable def Try.pinned : Pinned := { name := "qxb6602255a", sum := "bbab2a57e894e5d8ecf3465d79fa4e3ab238b121df73f79a2c895ecda003c394", checked := Try.checked }
namespace Rows
def none {H : Type} : Left H := { results := [], args := [] }

/-- 'zzlaws_tree32_b1.FnWidthCodeExact': WHATEVER THE INPUT: true; the input reads as it did. -/
def fnWidthCodeExactSpec : ChangeSpec := { name := "fnWidthCodeExact", fn := fun _ => fun
  | [d1, d2] => { results := [.lit (.bool true)], args := [d1, d2] }
  | _ => none }
def fnWidthCodeExactRow : OpenClaim := { program := "qxb6602255a", sum := "bbab2a57e894e5d8ecf3465d79fa4e3ab238b121df73f79a2c895ecda003c394", func := "example.com/proofwire/proofwire/zzlaws_tree32_b1.FnWidthCodeExact", spec := "fnWidthCodeExact", apart := false }
def FnWidthCodeExactSaid : Prop := fnWidthCodeExactRow.holds Try.pinned (OpenSpec.ofChange fnWidthCodeExactSpec)

/-- ITS FALSE NEIGHBOUR: 'it returns false'. Refute it at one input. -/
def fnWidthCodeExactWrong : ChangeSpec := { name := "fnWidthCodeExact", fn := fun _ => fun
  | [d1, d2] => { results := [.lit (.bool false)], args := [d1, d2] }
  | _ => none }
def FnWidthCodeExactWrongFalsely : Prop := fnWidthCodeExactRow.holds Try.pinned (OpenSpec.ofChange fnWidthCodeExactWrong)

/-- 'zzlaws_tree32_b1.FnWidthCodeMonotone': WHATEVER THE INPUT: true; the input reads as it did. -/
def fnWidthCodeMonotoneSpec : ChangeSpec := { name := "fnWidthCodeMonotone", fn := fun _ => fun
  | [d1, d2, d3] => { results := [.lit (.bool true)], args := [d1, d2, d3] }
  | _ => none }
def fnWidthCodeMonotoneRow : OpenClaim := { program := "qxb6602255a", sum := "bbab2a57e894e5d8ecf3465d79fa4e3ab238b121df73f79a2c895ecda003c394", func := "example.com/proofwire/proofwire/zzlaws_tree32_b1.FnWidthCodeMonotone", spec := "fnWidthCodeMonotone", apart := false }
def FnWidthCodeMonotoneSaid : Prop := fnWidthCodeMonotoneRow.holds Try.pinned (OpenSpec.ofChange fnWidthCodeMonotoneSpec)

/-- ITS FALSE NEIGHBOUR: 'it returns false'. Refute it at one input. -/
def fnWidthCodeMonotoneWrong : ChangeSpec := { name := "fnWidthCodeMonotone", fn := fun _ => fun
  | [d1, d2, d3] => { results := [.lit (.bool false)], args := [d1, d2, d3] }
  | _ => none }
def FnWidthCodeMonotoneWrongFalsely : Prop := fnWidthCodeMonotoneRow.holds Try.pinned (OpenSpec.ofChange fnWidthCodeMonotoneWrong)

/-- 'zzlaws_tree32_b1.FnKindedHashRoundTrip': WHATEVER THE INPUT: true; the input reads as it did. -/
def fnKindedHashRoundTripSpec : ChangeSpec := { name := "fnKindedHashRoundTrip", fn := fun _ => fun
  | [d1, d2, d3, d4, d5] => { results := [.lit (.bool true)], args := [d1, d2, d3, d4, d5] }
  | _ => none }
def fnKindedHashRoundTripRow : OpenClaim := { program := "qxb6602255a", sum := "bbab2a57e894e5d8ecf3465d79fa4e3ab238b121df73f79a2c895ecda003c394", func := "example.com/proofwire/proofwire/zzlaws_tree32_b1.FnKindedHashRoundTrip", spec := "fnKindedHashRoundTrip", apart := false }
def FnKindedHashRoundTripSaid : Prop := fnKindedHashRoundTripRow.holds Try.pinned (OpenSpec.ofChange fnKindedHashRoundTripSpec)

/-- ITS FALSE NEIGHBOUR: 'it returns false'. Refute it at one input. -/
def fnKindedHashRoundTripWrong : ChangeSpec := { name := "fnKindedHashRoundTrip", fn := fun _ => fun
  | [d1, d2, d3, d4, d5] => { results := [.lit (.bool false)], args := [d1, d2, d3, d4, d5] }
  | _ => none }
def FnKindedHashRoundTripWrongFalsely : Prop := fnKindedHashRoundTripRow.holds Try.pinned (OpenSpec.ofChange fnKindedHashRoundTripWrong)

end Rows
end Go.Proofs.Qxb6602255a
