/-
  DERIVED. GIVEN WITH THE SEED: THE CARDS: each row of Qxb6605778aFmtRows.lean that lists a variable, with what it lists TIED to the program's text (the seventh form; the later family's looks); each row that meets fmt, with fmt's text TOLD by the authors' own Lean function (tested against real Go, not proved from fmt's source: count such statements apart). THE CARD IS WHAT COUNTS. Prove the row's statement (the work); the ties are given (Qxb6605778aFmtTie.lean); close each card by the builder's one call (the guide's Derived/Test/ToyasCard.lean, 'card_holds'). Laid BY PROGRAM, IN A SANDBOX (cutbox-door.mjs). By AI agents, Wed Nov 11 2026. No macro, syntax, notation, axiom, sorry.
-/
import Derived.Test.Qxb6605778aFmtRows
import GoSem.ClaimSeven
namespace Go.Proofs.Qxb6605778aFmt
namespace Rows

/-- THE TOLD CARD OF 'zzlaws_layout_b1.FnUnmangleMatchesRunModel'. -/
def fnUnmangleMatchesRunModelCard : Claim7 := { stood := { row := fnUnmangleMatchesRunModelRow, standIns := [], harness := (true, "d56af7d47e4fb09b90d653e7659ab38078d445c74e8e6db73ce227b7e76d6a38"), looks := false }, told := true, goes := false }
def FnUnmangleMatchesRunModelToldSaid : Prop := Claim7.holds Tryf.pinned (.plain (OpenSpec.ofChange fnUnmangleMatchesRunModelSpec)) fnUnmangleMatchesRunModelCard
/-- ITS FALSE NEIGHBOUR. Refute it at one input. -/
def FnUnmangleMatchesRunModelToldWrongFalsely : Prop := Claim7.holds Tryf.pinned (.plain (OpenSpec.ofChange fnUnmangleMatchesRunModelWrong)) fnUnmangleMatchesRunModelCard

/-- THE TOLD CARD OF 'zzlaws_layout_b1.FnUnmangleUndoesMangling'. -/
def fnUnmangleUndoesManglingCard : Claim7 := { stood := { row := fnUnmangleUndoesManglingRow, standIns := [], harness := (true, "d56af7d47e4fb09b90d653e7659ab38078d445c74e8e6db73ce227b7e76d6a38"), looks := false }, told := true, goes := false }
def FnUnmangleUndoesManglingToldSaid : Prop := Claim7.holds Tryf.pinned (.plain (OpenSpec.ofChange fnUnmangleUndoesManglingSpec)) fnUnmangleUndoesManglingCard
/-- ITS FALSE NEIGHBOUR. Refute it at one input. -/
def FnUnmangleUndoesManglingToldWrongFalsely : Prop := Claim7.holds Tryf.pinned (.plain (OpenSpec.ofChange fnUnmangleUndoesManglingWrong)) fnUnmangleUndoesManglingCard

/-- THE TOLD CARD OF 'zzlaws_layout_b1.FnSnapshotCompleteRisesWithLimits'. -/
def fnSnapshotCompleteRisesWithLimitsCard : Claim7 := { stood := { row := fnSnapshotCompleteRisesWithLimitsRow, standIns := [], harness := (true, "d56af7d47e4fb09b90d653e7659ab38078d445c74e8e6db73ce227b7e76d6a38"), looks := false }, told := true, goes := false }
def FnSnapshotCompleteRisesWithLimitsToldSaid : Prop := Claim7.holds Tryf.pinned (.plain (OpenSpec.ofChange fnSnapshotCompleteRisesWithLimitsSpec)) fnSnapshotCompleteRisesWithLimitsCard
/-- ITS FALSE NEIGHBOUR. Refute it at one input. -/
def FnSnapshotCompleteRisesWithLimitsToldWrongFalsely : Prop := Claim7.holds Tryf.pinned (.plain (OpenSpec.ofChange fnSnapshotCompleteRisesWithLimitsWrong)) fnSnapshotCompleteRisesWithLimitsCard
end Rows
end Go.Proofs.Qxb6605778aFmt
