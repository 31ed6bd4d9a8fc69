/-
  DERIVED. GIVEN WITH THE SEED: THE CARDS: each row of YtgmhfkgdapljpaaGreatDoorRows.lean that lists a variable, with what it lists TIED to the program's text (the seventh form; the later family's looks); each row that meets fmt, with fmt's text TOLD by the authors' own Lean function (tested against real Go, not proved from fmt's source: count such statements apart). THE CARD IS WHAT COUNTS. Prove the row's statement (the work); the ties are given (YtgmhfkgdapljpaaGreatDoorTie.lean); close each card by the builder's one call (the guide's Derived/Test/ToyasCard.lean, 'card_holds'). Laid BY PROGRAM, IN A SANDBOX (cutbox-door.mjs). By AI agents, Wed Nov 11 2026. No macro, syntax, notation, axiom, sorry.
-/
import Derived.Test.YtgmhfkgdapljpaaGreatDoorRows
import GoSem.ClaimSeven
namespace Go.Proofs.YtgmhfkgdapljpaaGreatDoor
namespace Rows

/-- THE TIED CARD OF 'laws.FnCutGetTelemetrySubscriptionsResponse'. -/
def fnCutGetTelemetrySubscriptionsResponseCard : Claim7 := { stood := { row := fnCutGetTelemetrySubscriptionsResponseRow, standIns := [], harness := (true, "6229ceba69060464e325a87eedd0a881935020ba8dea02922e19d5129b49e55b"), looks := false }, kinds := [], alts := [], laidByText := true, laidKinds := [.sentinel], laidTests := true, laidLooks := .later }
def FnCutGetTelemetrySubscriptionsResponseCardSaid : Prop := Claim7.holds Tryz.pinned (.plain (OpenSpec.ofChange fnCutGetTelemetrySubscriptionsResponseSpec)) fnCutGetTelemetrySubscriptionsResponseCard

/-- THE TIED CARD OF 'laws.FnCutAlterPartitionAssignmentsRequest'. -/
def fnCutAlterPartitionAssignmentsRequestCard : Claim7 := { stood := { row := fnCutAlterPartitionAssignmentsRequestRow, standIns := [], harness := (true, "6229ceba69060464e325a87eedd0a881935020ba8dea02922e19d5129b49e55b"), looks := false }, kinds := [], alts := [], laidByText := true, laidKinds := [.sentinel], laidTests := true, laidLooks := .later }
def FnCutAlterPartitionAssignmentsRequestCardSaid : Prop := Claim7.holds Tryz.pinned (.plain (OpenSpec.ofChange fnCutAlterPartitionAssignmentsRequestSpec)) fnCutAlterPartitionAssignmentsRequestCard

/-- THE TIED CARD OF 'laws.FnCutLeaveGroupRequest'. -/
def fnCutLeaveGroupRequestCard : Claim7 := { stood := { row := fnCutLeaveGroupRequestRow, standIns := [], harness := (true, "6229ceba69060464e325a87eedd0a881935020ba8dea02922e19d5129b49e55b"), looks := false }, kinds := [], alts := [], laidByText := true, laidKinds := [.sentinel], laidTests := true, laidLooks := .later }
def FnCutLeaveGroupRequestCardSaid : Prop := Claim7.holds Tryz.pinned (.plain (OpenSpec.ofChange fnCutLeaveGroupRequestSpec)) fnCutLeaveGroupRequestCard

/-- THE TIED CARD OF 'laws.FnCutControllerRegistrationRequest'. -/
def fnCutControllerRegistrationRequestCard : Claim7 := { stood := { row := fnCutControllerRegistrationRequestRow, standIns := [], harness := (true, "6229ceba69060464e325a87eedd0a881935020ba8dea02922e19d5129b49e55b"), looks := false }, kinds := [], alts := [], laidByText := true, laidKinds := [.sentinel], laidTests := true, laidLooks := .later }
def FnCutControllerRegistrationRequestCardSaid : Prop := Claim7.holds Tryz.pinned (.plain (OpenSpec.ofChange fnCutControllerRegistrationRequestSpec)) fnCutControllerRegistrationRequestCard

/-- THE TIED CARD OF 'laws.FnAgainProduceRequest'. -/
def fnAgainProduceRequestCard : Claim7 := { stood := { row := fnAgainProduceRequestRow, standIns := [], harness := (true, "6229ceba69060464e325a87eedd0a881935020ba8dea02922e19d5129b49e55b"), looks := false }, kinds := [], alts := [], laidByText := true, laidKinds := [.sentinel], laidTests := true, laidLooks := .later }
def FnAgainProduceRequestCardSaid : Prop := Claim7.holds Tryz.pinned (.plain (OpenSpec.ofChange fnAgainProduceRequestSpec)) fnAgainProduceRequestCard

/-- THE TIED CARD OF 'laws.FnAgainJoinGroupRequest'. -/
def fnAgainJoinGroupRequestCard : Claim7 := { stood := { row := fnAgainJoinGroupRequestRow, standIns := [], harness := (true, "6229ceba69060464e325a87eedd0a881935020ba8dea02922e19d5129b49e55b"), looks := false }, kinds := [], alts := [], laidByText := true, laidKinds := [.sentinel], laidTests := true, laidLooks := .later }
def FnAgainJoinGroupRequestCardSaid : Prop := Claim7.holds Tryz.pinned (.plain (OpenSpec.ofChange fnAgainJoinGroupRequestSpec)) fnAgainJoinGroupRequestCard

/-- THE SECOND FORM's CARD OF 'laws.FnCutGetTelemetrySubscriptionsResponse'. -/
def fnCutGetTelemetrySubscriptionsResponseUptoCard : Claim7 := { stood := { row := fnCutGetTelemetrySubscriptionsResponseUptoRow, standIns := [], harness := (true, "6229ceba69060464e325a87eedd0a881935020ba8dea02922e19d5129b49e55b"), looks := false }, kinds := [], alts := [], laidByText := true, laidKinds := [.sentinel], laidTests := true, laidLooks := .later }
def FnCutGetTelemetrySubscriptionsResponseUptoCardSaid : Prop := Claim7.holds Tryz.pinned (.plain (OpenSpec.upto fnCutGetTelemetrySubscriptionsResponseSpec)) fnCutGetTelemetrySubscriptionsResponseUptoCard

/-- THE SECOND FORM's CARD OF 'laws.FnCutAlterPartitionAssignmentsRequest'. -/
def fnCutAlterPartitionAssignmentsRequestUptoCard : Claim7 := { stood := { row := fnCutAlterPartitionAssignmentsRequestUptoRow, standIns := [], harness := (true, "6229ceba69060464e325a87eedd0a881935020ba8dea02922e19d5129b49e55b"), looks := false }, kinds := [], alts := [], laidByText := true, laidKinds := [.sentinel], laidTests := true, laidLooks := .later }
def FnCutAlterPartitionAssignmentsRequestUptoCardSaid : Prop := Claim7.holds Tryz.pinned (.plain (OpenSpec.upto fnCutAlterPartitionAssignmentsRequestSpec)) fnCutAlterPartitionAssignmentsRequestUptoCard

/-- THE SECOND FORM's CARD OF 'laws.FnCutLeaveGroupRequest'. -/
def fnCutLeaveGroupRequestUptoCard : Claim7 := { stood := { row := fnCutLeaveGroupRequestUptoRow, standIns := [], harness := (true, "6229ceba69060464e325a87eedd0a881935020ba8dea02922e19d5129b49e55b"), looks := false }, kinds := [], alts := [], laidByText := true, laidKinds := [.sentinel], laidTests := true, laidLooks := .later }
def FnCutLeaveGroupRequestUptoCardSaid : Prop := Claim7.holds Tryz.pinned (.plain (OpenSpec.upto fnCutLeaveGroupRequestSpec)) fnCutLeaveGroupRequestUptoCard

/-- THE SECOND FORM's CARD OF 'laws.FnCutControllerRegistrationRequest'. -/
def fnCutControllerRegistrationRequestUptoCard : Claim7 := { stood := { row := fnCutControllerRegistrationRequestUptoRow, standIns := [], harness := (true, "6229ceba69060464e325a87eedd0a881935020ba8dea02922e19d5129b49e55b"), looks := false }, kinds := [], alts := [], laidByText := true, laidKinds := [.sentinel], laidTests := true, laidLooks := .later }
def FnCutControllerRegistrationRequestUptoCardSaid : Prop := Claim7.holds Tryz.pinned (.plain (OpenSpec.upto fnCutControllerRegistrationRequestSpec)) fnCutControllerRegistrationRequestUptoCard

/-- THE SECOND FORM's CARD OF 'laws.FnAgainProduceRequest'. -/
def fnAgainProduceRequestUptoCard : Claim7 := { stood := { row := fnAgainProduceRequestUptoRow, standIns := [], harness := (true, "6229ceba69060464e325a87eedd0a881935020ba8dea02922e19d5129b49e55b"), looks := false }, kinds := [], alts := [], laidByText := true, laidKinds := [.sentinel], laidTests := true, laidLooks := .later }
def FnAgainProduceRequestUptoCardSaid : Prop := Claim7.holds Tryz.pinned (.plain (OpenSpec.upto fnAgainProduceRequestSpec)) fnAgainProduceRequestUptoCard

/-- THE SECOND FORM's CARD OF 'laws.FnAgainJoinGroupRequest'. -/
def fnAgainJoinGroupRequestUptoCard : Claim7 := { stood := { row := fnAgainJoinGroupRequestUptoRow, standIns := [], harness := (true, "6229ceba69060464e325a87eedd0a881935020ba8dea02922e19d5129b49e55b"), looks := false }, kinds := [], alts := [], laidByText := true, laidKinds := [.sentinel], laidTests := true, laidLooks := .later }
def FnAgainJoinGroupRequestUptoCardSaid : Prop := Claim7.holds Tryz.pinned (.plain (OpenSpec.upto fnAgainJoinGroupRequestSpec)) fnAgainJoinGroupRequestUptoCard
end Rows
end Go.Proofs.YtgmhfkgdapljpaaGreatDoor
