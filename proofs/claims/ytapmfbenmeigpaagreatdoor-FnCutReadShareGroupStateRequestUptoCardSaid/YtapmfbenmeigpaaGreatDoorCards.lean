/-
  DERIVED. GIVEN WITH THE SEED: THE CARDS: each row of YtapmfbenmeigpaaGreatDoorRows.lean that lists a variable, with what it lists TIED to the program's text (the seventh form; the later family's looks); each row that meets fmt, with fmt's text TOLD by the authors' own Lean function (tested against real Go, not proved from fmt's source: count such statements apart). THE CARD IS WHAT COUNTS. Prove the row's statement (the work); the ties are given (YtapmfbenmeigpaaGreatDoorTie.lean); close each card by the builder's one call (the guide's Derived/Test/ToyasCard.lean, 'card_holds'). Laid BY PROGRAM, IN A SANDBOX (cutbox-door.mjs). By AI agents, Wed Nov 11 2026. No macro, syntax, notation, axiom, sorry.
-/
import Derived.Test.YtapmfbenmeigpaaGreatDoorRows
import GoSem.ClaimSeven
namespace Go.Proofs.YtapmfbenmeigpaaGreatDoor
namespace Rows

/-- THE TIED CARD OF 'laws.FnAgainSASLAuthenticateResponse'. -/
def fnAgainSASLAuthenticateResponseCard : Claim7 := { stood := { row := fnAgainSASLAuthenticateResponseRow, standIns := [], harness := (true, "db0c6f0f9a6d42979ef5b28601ab5c74599e0c2288ac871001910aa42278c503"), looks := false }, kinds := [], alts := [], laidByText := true, laidKinds := [.sentinel], laidTests := true, laidLooks := .later }
def FnAgainSASLAuthenticateResponseCardSaid : Prop := Claim7.holds Tryz.pinned (.plain (OpenSpec.ofChange fnAgainSASLAuthenticateResponseSpec)) fnAgainSASLAuthenticateResponseCard

/-- THE TIED CARD OF 'laws.FnAgainDescribeACLsRequest'. -/
def fnAgainDescribeACLsRequestCard : Claim7 := { stood := { row := fnAgainDescribeACLsRequestRow, standIns := [], harness := (true, "db0c6f0f9a6d42979ef5b28601ab5c74599e0c2288ac871001910aa42278c503"), looks := false }, kinds := [], alts := [], laidByText := true, laidKinds := [.sentinel], laidTests := true, laidLooks := .later }
def FnAgainDescribeACLsRequestCardSaid : Prop := Claim7.holds Tryz.pinned (.plain (OpenSpec.ofChange fnAgainDescribeACLsRequestSpec)) fnAgainDescribeACLsRequestCard

/-- THE TIED CARD OF 'laws.FnCutReadShareGroupStateRequest'. -/
def fnCutReadShareGroupStateRequestCard : Claim7 := { stood := { row := fnCutReadShareGroupStateRequestRow, standIns := [], harness := (true, "db0c6f0f9a6d42979ef5b28601ab5c74599e0c2288ac871001910aa42278c503"), looks := false }, kinds := [], alts := [], laidByText := true, laidKinds := [.sentinel], laidTests := true, laidLooks := .later }
def FnCutReadShareGroupStateRequestCardSaid : Prop := Claim7.holds Tryz.pinned (.plain (OpenSpec.ofChange fnCutReadShareGroupStateRequestSpec)) fnCutReadShareGroupStateRequestCard

/-- THE TIED CARD OF 'laws.FnAgainElectLeadersRequest'. -/
def fnAgainElectLeadersRequestCard : Claim7 := { stood := { row := fnAgainElectLeadersRequestRow, standIns := [], harness := (true, "db0c6f0f9a6d42979ef5b28601ab5c74599e0c2288ac871001910aa42278c503"), looks := false }, kinds := [], alts := [], laidByText := true, laidKinds := [.sentinel], laidTests := true, laidLooks := .later }
def FnAgainElectLeadersRequestCardSaid : Prop := Claim7.holds Tryz.pinned (.plain (OpenSpec.ofChange fnAgainElectLeadersRequestSpec)) fnAgainElectLeadersRequestCard

/-- THE TIED CARD OF 'laws.FnAgainAlterUserSCRAMCredentialsResponse'. -/
def fnAgainAlterUserSCRAMCredentialsResponseCard : Claim7 := { stood := { row := fnAgainAlterUserSCRAMCredentialsResponseRow, standIns := [], harness := (true, "db0c6f0f9a6d42979ef5b28601ab5c74599e0c2288ac871001910aa42278c503"), looks := false }, kinds := [], alts := [], laidByText := true, laidKinds := [.sentinel], laidTests := true, laidLooks := .later }
def FnAgainAlterUserSCRAMCredentialsResponseCardSaid : Prop := Claim7.holds Tryz.pinned (.plain (OpenSpec.ofChange fnAgainAlterUserSCRAMCredentialsResponseSpec)) fnAgainAlterUserSCRAMCredentialsResponseCard

/-- THE TIED CARD OF 'laws.FnCutDeleteGroupsResponse'. -/
def fnCutDeleteGroupsResponseCard : Claim7 := { stood := { row := fnCutDeleteGroupsResponseRow, standIns := [], harness := (true, "db0c6f0f9a6d42979ef5b28601ab5c74599e0c2288ac871001910aa42278c503"), looks := false }, kinds := [], alts := [], laidByText := true, laidKinds := [.sentinel], laidTests := true, laidLooks := .later }
def FnCutDeleteGroupsResponseCardSaid : Prop := Claim7.holds Tryz.pinned (.plain (OpenSpec.ofChange fnCutDeleteGroupsResponseSpec)) fnCutDeleteGroupsResponseCard

/-- THE TIED CARD OF 'laws.FnCutAssignReplicasToDirsResponse'. -/
def fnCutAssignReplicasToDirsResponseCard : Claim7 := { stood := { row := fnCutAssignReplicasToDirsResponseRow, standIns := [], harness := (true, "db0c6f0f9a6d42979ef5b28601ab5c74599e0c2288ac871001910aa42278c503"), looks := false }, kinds := [], alts := [], laidByText := true, laidKinds := [.sentinel], laidTests := true, laidLooks := .later }
def FnCutAssignReplicasToDirsResponseCardSaid : Prop := Claim7.holds Tryz.pinned (.plain (OpenSpec.ofChange fnCutAssignReplicasToDirsResponseSpec)) fnCutAssignReplicasToDirsResponseCard

/-- THE SECOND FORM's CARD OF 'laws.FnAgainSASLAuthenticateResponse'. -/
def fnAgainSASLAuthenticateResponseUptoCard : Claim7 := { stood := { row := fnAgainSASLAuthenticateResponseUptoRow, standIns := [], harness := (true, "db0c6f0f9a6d42979ef5b28601ab5c74599e0c2288ac871001910aa42278c503"), looks := false }, kinds := [], alts := [], laidByText := true, laidKinds := [.sentinel], laidTests := true, laidLooks := .later }
def FnAgainSASLAuthenticateResponseUptoCardSaid : Prop := Claim7.holds Tryz.pinned (.plain (OpenSpec.upto fnAgainSASLAuthenticateResponseSpec)) fnAgainSASLAuthenticateResponseUptoCard

/-- THE SECOND FORM's CARD OF 'laws.FnAgainDescribeACLsRequest'. -/
def fnAgainDescribeACLsRequestUptoCard : Claim7 := { stood := { row := fnAgainDescribeACLsRequestUptoRow, standIns := [], harness := (true, "db0c6f0f9a6d42979ef5b28601ab5c74599e0c2288ac871001910aa42278c503"), looks := false }, kinds := [], alts := [], laidByText := true, laidKinds := [.sentinel], laidTests := true, laidLooks := .later }
def FnAgainDescribeACLsRequestUptoCardSaid : Prop := Claim7.holds Tryz.pinned (.plain (OpenSpec.upto fnAgainDescribeACLsRequestSpec)) fnAgainDescribeACLsRequestUptoCard

/-- THE SECOND FORM's CARD OF 'laws.FnCutReadShareGroupStateRequest'. -/
def fnCutReadShareGroupStateRequestUptoCard : Claim7 := { stood := { row := fnCutReadShareGroupStateRequestUptoRow, standIns := [], harness := (true, "db0c6f0f9a6d42979ef5b28601ab5c74599e0c2288ac871001910aa42278c503"), looks := false }, kinds := [], alts := [], laidByText := true, laidKinds := [.sentinel], laidTests := true, laidLooks := .later }
def FnCutReadShareGroupStateRequestUptoCardSaid : Prop := Claim7.holds Tryz.pinned (.plain (OpenSpec.upto fnCutReadShareGroupStateRequestSpec)) fnCutReadShareGroupStateRequestUptoCard

/-- THE SECOND FORM's CARD OF 'laws.FnAgainElectLeadersRequest'. -/
def fnAgainElectLeadersRequestUptoCard : Claim7 := { stood := { row := fnAgainElectLeadersRequestUptoRow, standIns := [], harness := (true, "db0c6f0f9a6d42979ef5b28601ab5c74599e0c2288ac871001910aa42278c503"), looks := false }, kinds := [], alts := [], laidByText := true, laidKinds := [.sentinel], laidTests := true, laidLooks := .later }
def FnAgainElectLeadersRequestUptoCardSaid : Prop := Claim7.holds Tryz.pinned (.plain (OpenSpec.upto fnAgainElectLeadersRequestSpec)) fnAgainElectLeadersRequestUptoCard

/-- THE SECOND FORM's CARD OF 'laws.FnAgainAlterUserSCRAMCredentialsResponse'. -/
def fnAgainAlterUserSCRAMCredentialsResponseUptoCard : Claim7 := { stood := { row := fnAgainAlterUserSCRAMCredentialsResponseUptoRow, standIns := [], harness := (true, "db0c6f0f9a6d42979ef5b28601ab5c74599e0c2288ac871001910aa42278c503"), looks := false }, kinds := [], alts := [], laidByText := true, laidKinds := [.sentinel], laidTests := true, laidLooks := .later }
def FnAgainAlterUserSCRAMCredentialsResponseUptoCardSaid : Prop := Claim7.holds Tryz.pinned (.plain (OpenSpec.upto fnAgainAlterUserSCRAMCredentialsResponseSpec)) fnAgainAlterUserSCRAMCredentialsResponseUptoCard

/-- THE SECOND FORM's CARD OF 'laws.FnCutDeleteGroupsResponse'. -/
def fnCutDeleteGroupsResponseUptoCard : Claim7 := { stood := { row := fnCutDeleteGroupsResponseUptoRow, standIns := [], harness := (true, "db0c6f0f9a6d42979ef5b28601ab5c74599e0c2288ac871001910aa42278c503"), looks := false }, kinds := [], alts := [], laidByText := true, laidKinds := [.sentinel], laidTests := true, laidLooks := .later }
def FnCutDeleteGroupsResponseUptoCardSaid : Prop := Claim7.holds Tryz.pinned (.plain (OpenSpec.upto fnCutDeleteGroupsResponseSpec)) fnCutDeleteGroupsResponseUptoCard

/-- THE SECOND FORM's CARD OF 'laws.FnCutAssignReplicasToDirsResponse'. -/
def fnCutAssignReplicasToDirsResponseUptoCard : Claim7 := { stood := { row := fnCutAssignReplicasToDirsResponseUptoRow, standIns := [], harness := (true, "db0c6f0f9a6d42979ef5b28601ab5c74599e0c2288ac871001910aa42278c503"), looks := false }, kinds := [], alts := [], laidByText := true, laidKinds := [.sentinel], laidTests := true, laidLooks := .later }
def FnCutAssignReplicasToDirsResponseUptoCardSaid : Prop := Claim7.holds Tryz.pinned (.plain (OpenSpec.upto fnCutAssignReplicasToDirsResponseSpec)) fnCutAssignReplicasToDirsResponseUptoCard
end Rows
end Go.Proofs.YtapmfbenmeigpaaGreatDoor
