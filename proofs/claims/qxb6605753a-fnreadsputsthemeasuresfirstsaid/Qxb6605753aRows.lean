/-
  NARROWER THAN 'FOR EVERY INPUT', by the rows' own cells (each row's printed sentence says how): FnReadsPutsTheMeasuresFirst: loops · FnReadsNamesEachMetricOnceInFirstOrder: loops.
  DERIVED. THE GIVEN ROWS OF THIS SEAT. 3 by the template 'for every input the law returns true; each argument reads behind the call as it read before'; 0 by the template 'total and deterministic' (their statements: Qxb6605753aTotals.lean).
  GIVEN WITH THE SEED: the statements are not yours to turn. If you find one false, say at which input.
  Laid BY PROGRAM, IN A SANDBOX (cutbox-rows.mjs): the forced cells as the released guide's own fill.sh prints them over the translation 4985eed801389a01… (all of the seat's roots in one cut). By AI agents, Wed Nov 11 2026. No macro, syntax, notation, axiom, sorry.
-/
import Derived.Test.Qxb6605753aChecked
import GoSem.Claim
import GoSem.ClaimJoined
import GoSem.ClaimMapViews
import Derived.JoinedTies
import Derived.KernelRfl
namespace Go.Proofs.Qxb6605753a
/- THE CELL 'sum', in the pinned program and in every row, IS THE sha256 OF THE DUMP (.gsa) THAT Qxb6605753aProg.lean LOADS. Nothing in Lean hashes anything: it is a label: what it is worth is what the hold of that sum in a sandbox is worth. -/
noncomputable def Try.pinned : Pinned := { name := "qxb6605753a", sum := "4985eed801389a019b6193809bf43244024e3af08b9c3b258754b2059e0e48bf", checked := Try.checked }
namespace Rows
def none {H : Type} : Left H := { results := [], args := [] }

/-- 'zzlaws_internal_book_b1.FnThroughIsSumOfYearlyCosts': WHATEVER THE INPUT: true; the input reads as it did. -/
def fnThroughIsSumOfYearlyCostsSpec : ChangeSpec := { name := "fnThroughIsSumOfYearlyCosts", fn := fun _ => fun
  | [d1, d2] => { results := [.lit (.bool true)], args := [d1, d2] }
  | _ => none }
def fnThroughIsSumOfYearlyCostsRow : OpenClaim := { program := "qxb6605753a", sum := "4985eed801389a019b6193809bf43244024e3af08b9c3b258754b2059e0e48bf", func := "example.com/tranchebook/tranchebook/zzlaws_internal_book_b1.FnThroughIsSumOfYearlyCosts", spec := "fnThroughIsSumOfYearlyCosts", apart := false }
def FnThroughIsSumOfYearlyCostsSaid : Prop := fnThroughIsSumOfYearlyCostsRow.holds Try.pinned (OpenSpec.ofChange fnThroughIsSumOfYearlyCostsSpec)

/-- ITS FALSE NEIGHBOUR: 'it returns false'. Refute it at one input. -/
def fnThroughIsSumOfYearlyCostsWrong : ChangeSpec := { name := "fnThroughIsSumOfYearlyCosts", fn := fun _ => fun
  | [d1, d2] => { results := [.lit (.bool false)], args := [d1, d2] }
  | _ => none }
def FnThroughIsSumOfYearlyCostsWrongFalsely : Prop := fnThroughIsSumOfYearlyCostsRow.holds Try.pinned (OpenSpec.ofChange fnThroughIsSumOfYearlyCostsWrong)

/-- 'zzlaws_internal_book_b1.FnReadsPutsTheMeasuresFirst': WHATEVER THE INPUT: true; the input reads as it did. -/
def fnReadsPutsTheMeasuresFirstSpec : ChangeSpec := { name := "fnReadsPutsTheMeasuresFirst", fn := fun _ => fun
  | [d1, d2] => { results := [.lit (.bool true)], args := [d1, d2] }
  | _ => none }
def fnReadsPutsTheMeasuresFirstRow : OpenClaim := { program := "qxb6605753a", sum := "4985eed801389a019b6193809bf43244024e3af08b9c3b258754b2059e0e48bf", func := "example.com/tranchebook/tranchebook/zzlaws_internal_book_b1.FnReadsPutsTheMeasuresFirst", spec := "fnReadsPutsTheMeasuresFirst", recurses := true, loops := true, apart := false }
def FnReadsPutsTheMeasuresFirstSaid : Prop := fnReadsPutsTheMeasuresFirstRow.holds Try.pinned (OpenSpec.ofChange fnReadsPutsTheMeasuresFirstSpec)

/-- ITS FALSE NEIGHBOUR: 'it returns false'. Refute it at one input. -/
def fnReadsPutsTheMeasuresFirstWrong : ChangeSpec := { name := "fnReadsPutsTheMeasuresFirst", fn := fun _ => fun
  | [d1, d2] => { results := [.lit (.bool false)], args := [d1, d2] }
  | _ => none }
def FnReadsPutsTheMeasuresFirstWrongFalsely : Prop := fnReadsPutsTheMeasuresFirstRow.holds Try.pinned (OpenSpec.ofChange fnReadsPutsTheMeasuresFirstWrong)

/-- 'zzlaws_internal_book_b1.FnReadsNamesEachMetricOnceInFirstOrder': WHATEVER THE INPUT: true; the input reads as it did. -/
def fnReadsNamesEachMetricOnceInFirstOrderSpec : ChangeSpec := { name := "fnReadsNamesEachMetricOnceInFirstOrder", fn := fun _ => fun
  | [d1, d2] => { results := [.lit (.bool true)], args := [d1, d2] }
  | _ => none }
def fnReadsNamesEachMetricOnceInFirstOrderRow : OpenClaim := { program := "qxb6605753a", sum := "4985eed801389a019b6193809bf43244024e3af08b9c3b258754b2059e0e48bf", func := "example.com/tranchebook/tranchebook/zzlaws_internal_book_b1.FnReadsNamesEachMetricOnceInFirstOrder", spec := "fnReadsNamesEachMetricOnceInFirstOrder", recurses := true, loops := true, apart := false }
def FnReadsNamesEachMetricOnceInFirstOrderSaid : Prop := fnReadsNamesEachMetricOnceInFirstOrderRow.holds Try.pinned (OpenSpec.ofChange fnReadsNamesEachMetricOnceInFirstOrderSpec)

/-- ITS FALSE NEIGHBOUR: 'it returns false'. Refute it at one input. -/
def fnReadsNamesEachMetricOnceInFirstOrderWrong : ChangeSpec := { name := "fnReadsNamesEachMetricOnceInFirstOrder", fn := fun _ => fun
  | [d1, d2] => { results := [.lit (.bool false)], args := [d1, d2] }
  | _ => none }
def FnReadsNamesEachMetricOnceInFirstOrderWrongFalsely : Prop := fnReadsNamesEachMetricOnceInFirstOrderRow.holds Try.pinned (OpenSpec.ofChange fnReadsNamesEachMetricOnceInFirstOrderWrong)

end Rows
end Go.Proofs.Qxb6605753a
