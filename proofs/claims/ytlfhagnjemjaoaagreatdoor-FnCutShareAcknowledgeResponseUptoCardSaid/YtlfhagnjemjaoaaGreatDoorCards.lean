/-
  DERIVED. GIVEN WITH THE SEED: THE CARDS: each row of YtlfhagnjemjaoaaGreatDoorRows.lean that lists a variable, with what it lists TIED to the program's text (the seventh form; the later family's looks); each row that meets fmt, with fmt's text TOLD by the authors' own Lean function (tested against real Go, not proved from fmt's source: count such statements apart). THE CARD IS WHAT COUNTS. Prove the row's statement (the work); the ties are given (YtlfhagnjemjaoaaGreatDoorTie.lean); close each card by the builder's one call (the guide's Derived/Test/ToyasCard.lean, 'card_holds'). Laid BY PROGRAM, IN A SANDBOX (cutbox-door.mjs). By AI agents, Wed Nov 11 2026. No macro, syntax, notation, axiom, sorry.
-/
import Derived.Test.YtlfhagnjemjaoaaGreatDoorRows
import GoSem.ClaimSeven
namespace Go.Proofs.YtlfhagnjemjaoaaGreatDoor
namespace Rows

/-- THE TIED CARD OF 'laws.FnAgainDescribeLogDirsResponse'. -/
def fnAgainDescribeLogDirsResponseCard : Claim7 := { stood := { row := fnAgainDescribeLogDirsResponseRow, standIns := [], harness := (true, "c6e8b2b472278a135a829cff703cf4ec86d34a9e56733fe1b5953e2e435f0a70"), looks := false }, kinds := [], alts := [], laidByText := true, laidKinds := [.sentinel], laidTests := true, laidLooks := .later }
def FnAgainDescribeLogDirsResponseCardSaid : Prop := Claim7.holds Tryz.pinned (.plain (OpenSpec.ofChange fnAgainDescribeLogDirsResponseSpec)) fnAgainDescribeLogDirsResponseCard

/-- THE TIED CARD OF 'laws.FnAgainListPartitionReassignmentsResponse'. -/
def fnAgainListPartitionReassignmentsResponseCard : Claim7 := { stood := { row := fnAgainListPartitionReassignmentsResponseRow, standIns := [], harness := (true, "c6e8b2b472278a135a829cff703cf4ec86d34a9e56733fe1b5953e2e435f0a70"), looks := false }, kinds := [], alts := [], laidByText := true, laidKinds := [.sentinel], laidTests := true, laidLooks := .later }
def FnAgainListPartitionReassignmentsResponseCardSaid : Prop := Claim7.holds Tryz.pinned (.plain (OpenSpec.ofChange fnAgainListPartitionReassignmentsResponseSpec)) fnAgainListPartitionReassignmentsResponseCard

/-- THE TIED CARD OF 'laws.FnAgainConsumerGroupHeartbeatRequest'. -/
def fnAgainConsumerGroupHeartbeatRequestCard : Claim7 := { stood := { row := fnAgainConsumerGroupHeartbeatRequestRow, standIns := [], harness := (true, "c6e8b2b472278a135a829cff703cf4ec86d34a9e56733fe1b5953e2e435f0a70"), looks := false }, kinds := [], alts := [], laidByText := true, laidKinds := [.sentinel], laidTests := true, laidLooks := .later }
def FnAgainConsumerGroupHeartbeatRequestCardSaid : Prop := Claim7.holds Tryz.pinned (.plain (OpenSpec.ofChange fnAgainConsumerGroupHeartbeatRequestSpec)) fnAgainConsumerGroupHeartbeatRequestCard

/-- THE TIED CARD OF 'laws.FnCutShareAcknowledgeResponse'. -/
def fnCutShareAcknowledgeResponseCard : Claim7 := { stood := { row := fnCutShareAcknowledgeResponseRow, standIns := [], harness := (true, "c6e8b2b472278a135a829cff703cf4ec86d34a9e56733fe1b5953e2e435f0a70"), looks := false }, kinds := [], alts := [], laidByText := true, laidKinds := [.sentinel], laidTests := true, laidLooks := .later }
def FnCutShareAcknowledgeResponseCardSaid : Prop := Claim7.holds Tryz.pinned (.plain (OpenSpec.ofChange fnCutShareAcknowledgeResponseSpec)) fnCutShareAcknowledgeResponseCard

/-- THE TIED CARD OF 'laws.FnAgainAlterClientQuotasRequest'. -/
def fnAgainAlterClientQuotasRequestCard : Claim7 := { stood := { row := fnAgainAlterClientQuotasRequestRow, standIns := [], harness := (true, "c6e8b2b472278a135a829cff703cf4ec86d34a9e56733fe1b5953e2e435f0a70"), looks := false }, kinds := [], alts := [], laidByText := true, laidKinds := [.sentinel], laidTests := true, laidLooks := .later }
def FnAgainAlterClientQuotasRequestCardSaid : Prop := Claim7.holds Tryz.pinned (.plain (OpenSpec.ofChange fnAgainAlterClientQuotasRequestSpec)) fnAgainAlterClientQuotasRequestCard

/-- THE TIED CARD OF 'laws.FnCutMetadataResponse'. -/
def fnCutMetadataResponseCard : Claim7 := { stood := { row := fnCutMetadataResponseRow, standIns := [], harness := (true, "c6e8b2b472278a135a829cff703cf4ec86d34a9e56733fe1b5953e2e435f0a70"), looks := false }, kinds := [], alts := [], laidByText := true, laidKinds := [.sentinel], laidTests := true, laidLooks := .later }
def FnCutMetadataResponseCardSaid : Prop := Claim7.holds Tryz.pinned (.plain (OpenSpec.ofChange fnCutMetadataResponseSpec)) fnCutMetadataResponseCard

/-- THE SECOND FORM's CARD OF 'laws.FnAgainDescribeLogDirsResponse'. -/
def fnAgainDescribeLogDirsResponseUptoCard : Claim7 := { stood := { row := fnAgainDescribeLogDirsResponseUptoRow, standIns := [], harness := (true, "c6e8b2b472278a135a829cff703cf4ec86d34a9e56733fe1b5953e2e435f0a70"), looks := false }, kinds := [], alts := [], laidByText := true, laidKinds := [.sentinel], laidTests := true, laidLooks := .later }
def FnAgainDescribeLogDirsResponseUptoCardSaid : Prop := Claim7.holds Tryz.pinned (.plain (OpenSpec.upto fnAgainDescribeLogDirsResponseSpec)) fnAgainDescribeLogDirsResponseUptoCard

/-- THE SECOND FORM's CARD OF 'laws.FnAgainListPartitionReassignmentsResponse'. -/
def fnAgainListPartitionReassignmentsResponseUptoCard : Claim7 := { stood := { row := fnAgainListPartitionReassignmentsResponseUptoRow, standIns := [], harness := (true, "c6e8b2b472278a135a829cff703cf4ec86d34a9e56733fe1b5953e2e435f0a70"), looks := false }, kinds := [], alts := [], laidByText := true, laidKinds := [.sentinel], laidTests := true, laidLooks := .later }
def FnAgainListPartitionReassignmentsResponseUptoCardSaid : Prop := Claim7.holds Tryz.pinned (.plain (OpenSpec.upto fnAgainListPartitionReassignmentsResponseSpec)) fnAgainListPartitionReassignmentsResponseUptoCard

/-- THE SECOND FORM's CARD OF 'laws.FnAgainConsumerGroupHeartbeatRequest'. -/
def fnAgainConsumerGroupHeartbeatRequestUptoCard : Claim7 := { stood := { row := fnAgainConsumerGroupHeartbeatRequestUptoRow, standIns := [], harness := (true, "c6e8b2b472278a135a829cff703cf4ec86d34a9e56733fe1b5953e2e435f0a70"), looks := false }, kinds := [], alts := [], laidByText := true, laidKinds := [.sentinel], laidTests := true, laidLooks := .later }
def FnAgainConsumerGroupHeartbeatRequestUptoCardSaid : Prop := Claim7.holds Tryz.pinned (.plain (OpenSpec.upto fnAgainConsumerGroupHeartbeatRequestSpec)) fnAgainConsumerGroupHeartbeatRequestUptoCard

/-- THE SECOND FORM's CARD OF 'laws.FnCutShareAcknowledgeResponse'. -/
def fnCutShareAcknowledgeResponseUptoCard : Claim7 := { stood := { row := fnCutShareAcknowledgeResponseUptoRow, standIns := [], harness := (true, "c6e8b2b472278a135a829cff703cf4ec86d34a9e56733fe1b5953e2e435f0a70"), looks := false }, kinds := [], alts := [], laidByText := true, laidKinds := [.sentinel], laidTests := true, laidLooks := .later }
def FnCutShareAcknowledgeResponseUptoCardSaid : Prop := Claim7.holds Tryz.pinned (.plain (OpenSpec.upto fnCutShareAcknowledgeResponseSpec)) fnCutShareAcknowledgeResponseUptoCard

/-- THE SECOND FORM's CARD OF 'laws.FnAgainAlterClientQuotasRequest'. -/
def fnAgainAlterClientQuotasRequestUptoCard : Claim7 := { stood := { row := fnAgainAlterClientQuotasRequestUptoRow, standIns := [], harness := (true, "c6e8b2b472278a135a829cff703cf4ec86d34a9e56733fe1b5953e2e435f0a70"), looks := false }, kinds := [], alts := [], laidByText := true, laidKinds := [.sentinel], laidTests := true, laidLooks := .later }
def FnAgainAlterClientQuotasRequestUptoCardSaid : Prop := Claim7.holds Tryz.pinned (.plain (OpenSpec.upto fnAgainAlterClientQuotasRequestSpec)) fnAgainAlterClientQuotasRequestUptoCard

/-- THE SECOND FORM's CARD OF 'laws.FnCutMetadataResponse'. -/
def fnCutMetadataResponseUptoCard : Claim7 := { stood := { row := fnCutMetadataResponseUptoRow, standIns := [], harness := (true, "c6e8b2b472278a135a829cff703cf4ec86d34a9e56733fe1b5953e2e435f0a70"), looks := false }, kinds := [], alts := [], laidByText := true, laidKinds := [.sentinel], laidTests := true, laidLooks := .later }
def FnCutMetadataResponseUptoCardSaid : Prop := Claim7.holds Tryz.pinned (.plain (OpenSpec.upto fnCutMetadataResponseSpec)) fnCutMetadataResponseUptoCard
end Rows
end Go.Proofs.YtlfhagnjemjaoaaGreatDoor
