/-
  No cell of these rows narrows 'for every input' (looked for: loops, veiled, ifaces, maps, wideKeys, modest, calm, conditions, laid).
  DERIVED. THE GIVEN ROWS OF THIS SEAT. 4 by the template 'for every input the law returns true; each argument reads behind the call as it read before'; 0 by the template 'total and deterministic' (their statements: Qxb6605601aTotals.lean).
  GIVEN WITH THE SEED: the statements are not yours to turn. If you find one false, say at which input.
  Laid BY PROGRAM, IN A SANDBOX (cutbox-rows.mjs): the forced cells as the released guide's own fill.sh prints them over the translation 6bdbf0d4920c95d6… (all of the seat's roots in one cut). By AI agents, Wed Nov 11 2026. No macro, syntax, notation, axiom, sorry.
-/
import Derived.Test.Qxb6605601aChecked
import GoSem.Claim
import GoSem.ClaimJoined
import GoSem.ClaimMapViews
import Derived.JoinedTies
import Derived.KernelRfl
namespace Go.Proofs.Qxb6605601a
/- THE CELL 'sum', in the pinned program and in every row, IS THE sha256 OF THE DUMP (.gsa) THAT Qxb6605601aProg.lean LOADS. Nothing in Lean hashes anything: it is a label: what it is worth is what the hold of that sum in a sandbox is worth. -/
noncomputable def Try.pinned : Pinned := { name := "qxb6605601a", sum := "6bdbf0d4920c95d6aabe6d342b431714d6d5204b9468b3953c2359ab04e29750", checked := Try.checked }
namespace Rows
def none {H : Type} : Left H := { results := [], args := [] }

/-- 'zzlaws_root_b1.FnHeldReadLiteralSplitsAtNonASCII': WHATEVER THE INPUT: true; the input reads as it did. -/
def fnHeldReadLiteralSplitsAtNonASCIISpec : ChangeSpec := { name := "fnHeldReadLiteralSplitsAtNonASCII", fn := fun _ => fun
  | [d1, d2, d3] => { results := [.lit (.bool true)], args := [d1, d2, d3] }
  | _ => none }
def fnHeldReadLiteralSplitsAtNonASCIIRow : OpenClaim := { program := "qxb6605601a", sum := "6bdbf0d4920c95d6aabe6d342b431714d6d5204b9468b3953c2359ab04e29750", func := "example.com/path-to-policy/path-to-policy/zzlaws_root_b1.FnHeldReadLiteralSplitsAtNonASCII", spec := "fnHeldReadLiteralSplitsAtNonASCII", recurses := true, plainKeys := false, apart := false }
def FnHeldReadLiteralSplitsAtNonASCIISaid : Prop := fnHeldReadLiteralSplitsAtNonASCIIRow.holds Try.pinned (OpenSpec.ofChange fnHeldReadLiteralSplitsAtNonASCIISpec)

/-- ITS FALSE NEIGHBOUR: 'it returns false'. Refute it at one input. -/
def fnHeldReadLiteralSplitsAtNonASCIIWrong : ChangeSpec := { name := "fnHeldReadLiteralSplitsAtNonASCII", fn := fun _ => fun
  | [d1, d2, d3] => { results := [.lit (.bool false)], args := [d1, d2, d3] }
  | _ => none }
def FnHeldReadLiteralSplitsAtNonASCIIWrongFalsely : Prop := fnHeldReadLiteralSplitsAtNonASCIIRow.holds Try.pinned (OpenSpec.ofChange fnHeldReadLiteralSplitsAtNonASCIIWrong)

/-- 'zzlaws_root_b1.FnHeldReadConcatJoinsThePlusAndBreaksAfter': WHATEVER THE INPUT: true; the input reads as it did. -/
def fnHeldReadConcatJoinsThePlusAndBreaksAfterSpec : ChangeSpec := { name := "fnHeldReadConcatJoinsThePlusAndBreaksAfter", fn := fun _ => fun
  | [d1, d2, d3, d4, d5] => { results := [.lit (.bool true)], args := [d1, d2, d3, d4, d5] }
  | _ => none }
def fnHeldReadConcatJoinsThePlusAndBreaksAfterRow : OpenClaim := { program := "qxb6605601a", sum := "6bdbf0d4920c95d6aabe6d342b431714d6d5204b9468b3953c2359ab04e29750", func := "example.com/path-to-policy/path-to-policy/zzlaws_root_b1.FnHeldReadConcatJoinsThePlusAndBreaksAfter", spec := "fnHeldReadConcatJoinsThePlusAndBreaksAfter", recurses := true, plainKeys := false, apart := false }
def FnHeldReadConcatJoinsThePlusAndBreaksAfterSaid : Prop := fnHeldReadConcatJoinsThePlusAndBreaksAfterRow.holds Try.pinned (OpenSpec.ofChange fnHeldReadConcatJoinsThePlusAndBreaksAfterSpec)

/-- ITS FALSE NEIGHBOUR: 'it returns false'. Refute it at one input. -/
def fnHeldReadConcatJoinsThePlusAndBreaksAfterWrong : ChangeSpec := { name := "fnHeldReadConcatJoinsThePlusAndBreaksAfter", fn := fun _ => fun
  | [d1, d2, d3, d4, d5] => { results := [.lit (.bool false)], args := [d1, d2, d3, d4, d5] }
  | _ => none }
def FnHeldReadConcatJoinsThePlusAndBreaksAfterWrongFalsely : Prop := fnHeldReadConcatJoinsThePlusAndBreaksAfterRow.holds Try.pinned (OpenSpec.ofChange fnHeldReadConcatJoinsThePlusAndBreaksAfterWrong)

/-- 'zzlaws_root_b1.FnShapeInternNumbersKeysByFirstSight': WHATEVER THE INPUT: true; the input reads as it did. -/
def fnShapeInternNumbersKeysByFirstSightSpec : ChangeSpec := { name := "fnShapeInternNumbersKeysByFirstSight", fn := fun _ => fun
  | [d1, d2] => { results := [.lit (.bool true)], args := [d1, d2] }
  | _ => none }
def fnShapeInternNumbersKeysByFirstSightRow : OpenClaim := { program := "qxb6605601a", sum := "6bdbf0d4920c95d6aabe6d342b431714d6d5204b9468b3953c2359ab04e29750", func := "example.com/path-to-policy/path-to-policy/zzlaws_root_b1.FnShapeInternNumbersKeysByFirstSight", spec := "fnShapeInternNumbersKeysByFirstSight", plainKeys := false, apart := false }
def FnShapeInternNumbersKeysByFirstSightSaid : Prop := fnShapeInternNumbersKeysByFirstSightRow.holds Try.pinned (OpenSpec.ofChange fnShapeInternNumbersKeysByFirstSightSpec)

/-- ITS FALSE NEIGHBOUR: 'it returns false'. Refute it at one input. -/
def fnShapeInternNumbersKeysByFirstSightWrong : ChangeSpec := { name := "fnShapeInternNumbersKeysByFirstSight", fn := fun _ => fun
  | [d1, d2] => { results := [.lit (.bool false)], args := [d1, d2] }
  | _ => none }
def FnShapeInternNumbersKeysByFirstSightWrongFalsely : Prop := fnShapeInternNumbersKeysByFirstSightRow.holds Try.pinned (OpenSpec.ofChange fnShapeInternNumbersKeysByFirstSightWrong)

/-- 'zzlaws_root_b1.FnShapeInternStateReadsBackItsKey': WHATEVER THE INPUT: true; the input reads as it did. -/
def fnShapeInternStateReadsBackItsKeySpec : ChangeSpec := { name := "fnShapeInternStateReadsBackItsKey", fn := fun _ => fun
  | [d1, d2] => { results := [.lit (.bool true)], args := [d1, d2] }
  | _ => none }
def fnShapeInternStateReadsBackItsKeyRow : OpenClaim := { program := "qxb6605601a", sum := "6bdbf0d4920c95d6aabe6d342b431714d6d5204b9468b3953c2359ab04e29750", func := "example.com/path-to-policy/path-to-policy/zzlaws_root_b1.FnShapeInternStateReadsBackItsKey", spec := "fnShapeInternStateReadsBackItsKey", plainKeys := false, apart := false }
def FnShapeInternStateReadsBackItsKeySaid : Prop := fnShapeInternStateReadsBackItsKeyRow.holds Try.pinned (OpenSpec.ofChange fnShapeInternStateReadsBackItsKeySpec)

/-- ITS FALSE NEIGHBOUR: 'it returns false'. Refute it at one input. -/
def fnShapeInternStateReadsBackItsKeyWrong : ChangeSpec := { name := "fnShapeInternStateReadsBackItsKey", fn := fun _ => fun
  | [d1, d2] => { results := [.lit (.bool false)], args := [d1, d2] }
  | _ => none }
def FnShapeInternStateReadsBackItsKeyWrongFalsely : Prop := fnShapeInternStateReadsBackItsKeyRow.holds Try.pinned (OpenSpec.ofChange fnShapeInternStateReadsBackItsKeyWrong)

end Rows
end Go.Proofs.Qxb6605601a
