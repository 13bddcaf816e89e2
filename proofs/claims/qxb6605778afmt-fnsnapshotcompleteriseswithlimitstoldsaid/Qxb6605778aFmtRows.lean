/-
  No cell of these rows narrows 'for every input' (looked for: loops, veiled, ifaces, maps, wideKeys, modest, calm, conditions, laid).
  DERIVED. THE GIVEN ROWS OF THIS SEAT. 3 by the template 'for every input the law returns true; each argument reads behind the call as it read before'; 0 by the template 'total and deterministic' (their statements: Qxb6605778aFmtTotals.lean).
  GIVEN WITH THE SEED: the statements are not yours to turn. If you find one false, say at which input.
  Laid BY PROGRAM, IN A SANDBOX (cutbox-rows.mjs): the forced cells as the released guide's own fill.sh prints them over the translation fd136585a80afae6… (all of the seat's roots in one cut). By AI agents, Wed Nov 11 2026. No macro, syntax, notation, axiom, sorry.
-/
import Derived.Test.Qxb6605778aFmtChecked
import GoSem.Claim
import GoSem.ClaimJoined
import GoSem.ClaimMapViews
import Derived.JoinedTies
import Derived.KernelRfl
namespace Go.Proofs.Qxb6605778aFmt
/- THE CELL 'sum', in the pinned program and in every row, IS THE sha256 OF THE DUMP (.gsa) THAT Qxb6605778aFmtProg.lean LOADS. Nothing in Lean hashes anything: it is a label: what it is worth is what the hold of that sum in a sandbox is worth. -/
noncomputable def Tryf.pinned : Pinned := { name := "qxb6605778afmt", sum := "fd136585a80afae6b6069fefe1e824de13669c9c7da1d2344920e63d142cf4c7", checked := Tryf.checked }
namespace Rows
def none {H : Type} : Left H := { results := [], args := [] }

/-- 'zzlaws_layout_b1.FnUnmangleMatchesRunModel': WHATEVER THE INPUT: true; the input reads as it did. -/
def fnUnmangleMatchesRunModelSpec : ChangeSpec := { name := "fnUnmangleMatchesRunModel", fn := fun _ => fun
  | [d] => { results := [.lit (.bool true)], args := [d] }
  | _ => none }
def fnUnmangleMatchesRunModelRow : OpenClaim := { program := "qxb6605778afmt", sum := "fd136585a80afae6b6069fefe1e824de13669c9c7da1d2344920e63d142cf4c7", func := "example.com/cairn/cairn/zzlaws_layout_b1.FnUnmangleMatchesRunModel", spec := "fnUnmangleMatchesRunModel", stops := ["fmt.errorf, its operands' methods called"], inPlace := ["fmt.errorf", "internal/abi.NoEscape"], unfollowed := true, recurses := true, apart := false }
/-- NO THEOREM (fmt's text is open here; it may be false): for the released tool's asking of the row's closed facts alone. THE STATEMENT IS 'FnUnmangleMatchesRunModelToldSaid' (Qxb6605778aFmtCards.lean). -/
def FnUnmangleMatchesRunModelFormAsk : Prop := fnUnmangleMatchesRunModelRow.holds Tryf.pinned (OpenSpec.ofChange fnUnmangleMatchesRunModelSpec)

/-- ITS FALSE NEIGHBOUR: 'it returns false'. Refute it at one input. -/
def fnUnmangleMatchesRunModelWrong : ChangeSpec := { name := "fnUnmangleMatchesRunModel", fn := fun _ => fun
  | [d] => { results := [.lit (.bool false)], args := [d] }
  | _ => none }
def FnUnmangleMatchesRunModelWrongFormAsk : Prop := fnUnmangleMatchesRunModelRow.holds Tryf.pinned (OpenSpec.ofChange fnUnmangleMatchesRunModelWrong)

/-- 'zzlaws_layout_b1.FnUnmangleUndoesMangling': WHATEVER THE INPUT: true; the input reads as it did. -/
def fnUnmangleUndoesManglingSpec : ChangeSpec := { name := "fnUnmangleUndoesMangling", fn := fun _ => fun
  | [d] => { results := [.lit (.bool true)], args := [d] }
  | _ => none }
def fnUnmangleUndoesManglingRow : OpenClaim := { program := "qxb6605778afmt", sum := "fd136585a80afae6b6069fefe1e824de13669c9c7da1d2344920e63d142cf4c7", func := "example.com/cairn/cairn/zzlaws_layout_b1.FnUnmangleUndoesMangling", spec := "fnUnmangleUndoesMangling", stops := ["fmt.errorf, its operands' methods called"], inPlace := ["fmt.errorf", "internal/abi.NoEscape"], unfollowed := true, recurses := true, apart := false }
/-- NO THEOREM (fmt's text is open here; it may be false): for the released tool's asking of the row's closed facts alone. THE STATEMENT IS 'FnUnmangleUndoesManglingToldSaid' (Qxb6605778aFmtCards.lean). -/
def FnUnmangleUndoesManglingFormAsk : Prop := fnUnmangleUndoesManglingRow.holds Tryf.pinned (OpenSpec.ofChange fnUnmangleUndoesManglingSpec)

/-- ITS FALSE NEIGHBOUR: 'it returns false'. Refute it at one input. -/
def fnUnmangleUndoesManglingWrong : ChangeSpec := { name := "fnUnmangleUndoesMangling", fn := fun _ => fun
  | [d] => { results := [.lit (.bool false)], args := [d] }
  | _ => none }
def FnUnmangleUndoesManglingWrongFormAsk : Prop := fnUnmangleUndoesManglingRow.holds Tryf.pinned (OpenSpec.ofChange fnUnmangleUndoesManglingWrong)

/-- 'zzlaws_layout_b1.FnSnapshotCompleteRisesWithLimits': WHATEVER THE INPUT: true; the input reads as it did. -/
def fnSnapshotCompleteRisesWithLimitsSpec : ChangeSpec := { name := "fnSnapshotCompleteRisesWithLimits", fn := fun _ => fun
  | [d1, d2, d3, d4, d5] => { results := [.lit (.bool true)], args := [d1, d2, d3, d4, d5] }
  | _ => none }
def fnSnapshotCompleteRisesWithLimitsRow : OpenClaim := { program := "qxb6605778afmt", sum := "fd136585a80afae6b6069fefe1e824de13669c9c7da1d2344920e63d142cf4c7", func := "example.com/cairn/cairn/zzlaws_layout_b1.FnSnapshotCompleteRisesWithLimits", spec := "fnSnapshotCompleteRisesWithLimits", stops := ["fmt.errorf, its operands' methods called"], inPlace := ["fmt.errorf"], unfollowed := true, recurses := true, apart := false }
/-- NO THEOREM (fmt's text is open here; it may be false): for the released tool's asking of the row's closed facts alone. THE STATEMENT IS 'FnSnapshotCompleteRisesWithLimitsToldSaid' (Qxb6605778aFmtCards.lean). -/
def FnSnapshotCompleteRisesWithLimitsFormAsk : Prop := fnSnapshotCompleteRisesWithLimitsRow.holds Tryf.pinned (OpenSpec.ofChange fnSnapshotCompleteRisesWithLimitsSpec)

/-- ITS FALSE NEIGHBOUR: 'it returns false'. Refute it at one input. -/
def fnSnapshotCompleteRisesWithLimitsWrong : ChangeSpec := { name := "fnSnapshotCompleteRisesWithLimits", fn := fun _ => fun
  | [d1, d2, d3, d4, d5] => { results := [.lit (.bool false)], args := [d1, d2, d3, d4, d5] }
  | _ => none }
def FnSnapshotCompleteRisesWithLimitsWrongFormAsk : Prop := fnSnapshotCompleteRisesWithLimitsRow.holds Tryf.pinned (OpenSpec.ofChange fnSnapshotCompleteRisesWithLimitsWrong)

end Rows
end Go.Proofs.Qxb6605778aFmt
