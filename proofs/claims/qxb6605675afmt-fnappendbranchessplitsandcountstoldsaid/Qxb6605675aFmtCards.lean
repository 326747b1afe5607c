/-
  DERIVED. GIVEN WITH THE SEED: THE CARDS: each row of Qxb6605675aFmtRows.lean that lists a variable, with what it lists TIED to the program's text (the seventh form; the later family's looks); each row that meets fmt, with fmt's text TOLD by the authors' own Lean function (tested against real Go, not proved from fmt's source: count such statements apart). THE CARD IS WHAT COUNTS. Prove the row's statement (the work); the ties are given (Qxb6605675aFmtTie.lean); close each card by the builder's one call (the guide's Derived/Test/ToyasCard.lean, 'card_holds'). Laid BY PROGRAM, IN A SANDBOX (cutbox-door.mjs). By AI agents, Wed Nov 11 2026. No macro, syntax, notation, axiom, sorry.
-/
import Derived.Test.Qxb6605675aFmtRows
import GoSem.ClaimSeven
namespace Go.Proofs.Qxb6605675aFmt
namespace Rows

/-- THE TOLD CARD OF 'zzlaws_node_b1.FnAppendBranchesSplitsAndCounts'. -/
def fnAppendBranchesSplitsAndCountsCard : Claim7 := { stood := { row := fnAppendBranchesSplitsAndCountsRow, standIns := [], harness := (true, "ac7b93e1f90742b4bea64052ad43118f5f916e97f379a21231b5383575b3b839"), looks := false }, told := true, goes := false }
def FnAppendBranchesSplitsAndCountsToldSaid : Prop := Claim7.holds Tryf.pinned (.plain (OpenSpec.ofChange fnAppendBranchesSplitsAndCountsSpec)) fnAppendBranchesSplitsAndCountsCard
/-- ITS FALSE NEIGHBOUR. Refute it at one input. -/
def FnAppendBranchesSplitsAndCountsToldWrongFalsely : Prop := Claim7.holds Tryf.pinned (.plain (OpenSpec.ofChange fnAppendBranchesSplitsAndCountsWrong)) fnAppendBranchesSplitsAndCountsCard

/-- THE TOLD CARD OF 'zzlaws_node_b1.FnCommittedRecordReadsBack'. -/
def fnCommittedRecordReadsBackCard : Claim7 := { stood := { row := fnCommittedRecordReadsBackRow, standIns := [], harness := (true, "ac7b93e1f90742b4bea64052ad43118f5f916e97f379a21231b5383575b3b839"), looks := false }, told := true, goes := false }
def FnCommittedRecordReadsBackToldSaid : Prop := Claim7.holds Tryf.pinned (.plain (OpenSpec.ofChange fnCommittedRecordReadsBackSpec)) fnCommittedRecordReadsBackCard
/-- ITS FALSE NEIGHBOUR. Refute it at one input. -/
def FnCommittedRecordReadsBackToldWrongFalsely : Prop := Claim7.holds Tryf.pinned (.plain (OpenSpec.ofChange fnCommittedRecordReadsBackWrong)) fnCommittedRecordReadsBackCard

/-- THE TOLD CARD OF 'zzlaws_node_b1.FnEndedRecordTellsIdsAndKindsApart'. -/
def fnEndedRecordTellsIdsAndKindsApartCard : Claim7 := { stood := { row := fnEndedRecordTellsIdsAndKindsApartRow, standIns := [], harness := (true, "ac7b93e1f90742b4bea64052ad43118f5f916e97f379a21231b5383575b3b839"), looks := false }, told := true, goes := false }
def FnEndedRecordTellsIdsAndKindsApartToldSaid : Prop := Claim7.holds Tryf.pinned (.plain (OpenSpec.ofChange fnEndedRecordTellsIdsAndKindsApartSpec)) fnEndedRecordTellsIdsAndKindsApartCard
/-- ITS FALSE NEIGHBOUR. Refute it at one input. -/
def FnEndedRecordTellsIdsAndKindsApartToldWrongFalsely : Prop := Claim7.holds Tryf.pinned (.plain (OpenSpec.ofChange fnEndedRecordTellsIdsAndKindsApartWrong)) fnEndedRecordTellsIdsAndKindsApartCard
end Rows
end Go.Proofs.Qxb6605675aFmt
