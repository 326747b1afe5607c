/-
  No cell of these rows narrows 'for every input' (looked for: loops, veiled, ifaces, maps, wideKeys, modest, calm, conditions, laid).
  DERIVED. THE GIVEN ROWS OF THIS SEAT. 3 by the template 'for every input the law returns true; each argument reads behind the call as it read before'; 0 by the template 'total and deterministic' (their statements: Qxb6605675aFmtTotals.lean).
  GIVEN WITH THE SEED: the statements are not yours to turn. If you find one false, say at which input.
  Laid BY PROGRAM, IN A SANDBOX (cutbox-rows.mjs): the forced cells as the released guide's own fill.sh prints them over the translation b3d9ac7ff9b86284… (all of the seat's roots in one cut). By AI agents, Wed Nov 11 2026. No macro, syntax, notation, axiom, sorry.
-/
import Derived.Test.Qxb6605675aFmtChecked
import GoSem.Claim
import GoSem.ClaimJoined
import GoSem.ClaimMapViews
import Derived.JoinedTies
import Derived.KernelRfl
namespace Go.Proofs.Qxb6605675aFmt
/- THE CELL 'sum', in the pinned program and in every row, IS THE sha256 OF THE DUMP (.gsa) THAT Qxb6605675aFmtProg.lean LOADS. Nothing in Lean hashes anything: it is a label: what it is worth is what the hold of that sum in a sandbox is worth. -/
noncomputable def Tryf.pinned : Pinned := { name := "qxb6605675afmt", sum := "b3d9ac7ff9b86284342a66279b46de1eb5459f16e550fffb8c8d26d9222ad409", checked := Tryf.checked }
namespace Rows
def none {H : Type} : Left H := { results := [], args := [] }

/-- 'zzlaws_node_b1.FnAppendBranchesSplitsAndCounts': WHATEVER THE INPUT: true; the input reads as it did. -/
def fnAppendBranchesSplitsAndCountsSpec : ChangeSpec := { name := "fnAppendBranchesSplitsAndCounts", fn := fun _ => fun
  | [d1, d2, d3] => { results := [.lit (.bool true)], args := [d1, d2, d3] }
  | _ => none }
def fnAppendBranchesSplitsAndCountsRow : OpenClaim := { program := "qxb6605675afmt", sum := "b3d9ac7ff9b86284342a66279b46de1eb5459f16e550fffb8c8d26d9222ad409", func := "example.com/pactwire/pactwire/zzlaws_node_b1.FnAppendBranchesSplitsAndCounts", spec := "fnAppendBranchesSplitsAndCounts", stops := ["fmt.Sprintf"], inPlace := ["fmt.Sprintf"], apart := false }
/-- NO THEOREM (fmt's text is open here; it may be false): for the released tool's asking of the row's closed facts alone. THE STATEMENT IS 'FnAppendBranchesSplitsAndCountsToldSaid' (Qxb6605675aFmtCards.lean). -/
def FnAppendBranchesSplitsAndCountsFormAsk : Prop := fnAppendBranchesSplitsAndCountsRow.holds Tryf.pinned (OpenSpec.ofChange fnAppendBranchesSplitsAndCountsSpec)

/-- ITS FALSE NEIGHBOUR: 'it returns false'. Refute it at one input. -/
def fnAppendBranchesSplitsAndCountsWrong : ChangeSpec := { name := "fnAppendBranchesSplitsAndCounts", fn := fun _ => fun
  | [d1, d2, d3] => { results := [.lit (.bool false)], args := [d1, d2, d3] }
  | _ => none }
def FnAppendBranchesSplitsAndCountsWrongFormAsk : Prop := fnAppendBranchesSplitsAndCountsRow.holds Tryf.pinned (OpenSpec.ofChange fnAppendBranchesSplitsAndCountsWrong)

/-- 'zzlaws_node_b1.FnCommittedRecordReadsBack': WHATEVER THE INPUT: true; the input reads as it did. -/
def fnCommittedRecordReadsBackSpec : ChangeSpec := { name := "fnCommittedRecordReadsBack", fn := fun _ => fun
  | [d1, d2] => { results := [.lit (.bool true)], args := [d1, d2] }
  | _ => none }
def fnCommittedRecordReadsBackRow : OpenClaim := { program := "qxb6605675afmt", sum := "b3d9ac7ff9b86284342a66279b46de1eb5459f16e550fffb8c8d26d9222ad409", func := "example.com/pactwire/pactwire/zzlaws_node_b1.FnCommittedRecordReadsBack", spec := "fnCommittedRecordReadsBack", stops := ["fmt.Sprintf"], inPlace := ["fmt.Sprintf"], apart := false }
/-- NO THEOREM (fmt's text is open here; it may be false): for the released tool's asking of the row's closed facts alone. THE STATEMENT IS 'FnCommittedRecordReadsBackToldSaid' (Qxb6605675aFmtCards.lean). -/
def FnCommittedRecordReadsBackFormAsk : Prop := fnCommittedRecordReadsBackRow.holds Tryf.pinned (OpenSpec.ofChange fnCommittedRecordReadsBackSpec)

/-- ITS FALSE NEIGHBOUR: 'it returns false'. Refute it at one input. -/
def fnCommittedRecordReadsBackWrong : ChangeSpec := { name := "fnCommittedRecordReadsBack", fn := fun _ => fun
  | [d1, d2] => { results := [.lit (.bool false)], args := [d1, d2] }
  | _ => none }
def FnCommittedRecordReadsBackWrongFormAsk : Prop := fnCommittedRecordReadsBackRow.holds Tryf.pinned (OpenSpec.ofChange fnCommittedRecordReadsBackWrong)

/-- 'zzlaws_node_b1.FnEndedRecordTellsIdsAndKindsApart': WHATEVER THE INPUT: true; the input reads as it did. -/
def fnEndedRecordTellsIdsAndKindsApartSpec : ChangeSpec := { name := "fnEndedRecordTellsIdsAndKindsApart", fn := fun _ => fun
  | [d1, d2, d3] => { results := [.lit (.bool true)], args := [d1, d2, d3] }
  | _ => none }
def fnEndedRecordTellsIdsAndKindsApartRow : OpenClaim := { program := "qxb6605675afmt", sum := "b3d9ac7ff9b86284342a66279b46de1eb5459f16e550fffb8c8d26d9222ad409", func := "example.com/pactwire/pactwire/zzlaws_node_b1.FnEndedRecordTellsIdsAndKindsApart", spec := "fnEndedRecordTellsIdsAndKindsApart", stops := ["fmt.Sprintf"], inPlace := ["fmt.Sprintf"], apart := false }
/-- NO THEOREM (fmt's text is open here; it may be false): for the released tool's asking of the row's closed facts alone. THE STATEMENT IS 'FnEndedRecordTellsIdsAndKindsApartToldSaid' (Qxb6605675aFmtCards.lean). -/
def FnEndedRecordTellsIdsAndKindsApartFormAsk : Prop := fnEndedRecordTellsIdsAndKindsApartRow.holds Tryf.pinned (OpenSpec.ofChange fnEndedRecordTellsIdsAndKindsApartSpec)

/-- ITS FALSE NEIGHBOUR: 'it returns false'. Refute it at one input. -/
def fnEndedRecordTellsIdsAndKindsApartWrong : ChangeSpec := { name := "fnEndedRecordTellsIdsAndKindsApart", fn := fun _ => fun
  | [d1, d2, d3] => { results := [.lit (.bool false)], args := [d1, d2, d3] }
  | _ => none }
def FnEndedRecordTellsIdsAndKindsApartWrongFormAsk : Prop := fnEndedRecordTellsIdsAndKindsApartRow.holds Tryf.pinned (OpenSpec.ofChange fnEndedRecordTellsIdsAndKindsApartWrong)

end Rows
end Go.Proofs.Qxb6605675aFmt
