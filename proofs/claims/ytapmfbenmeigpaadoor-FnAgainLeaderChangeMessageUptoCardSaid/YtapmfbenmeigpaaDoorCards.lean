/-
  DERIVED. GIVEN WITH THE SEED: THE CARDS: each row of YtapmfbenmeigpaaDoorRows.lean that lists a variable, with what it lists TIED to the program's text (the seventh form; the later family's looks); each row that meets fmt, with fmt's text TOLD by the authors' own Lean function (tested against real Go, not proved from fmt's source: count such statements apart). THE CARD IS WHAT COUNTS. Prove the row's statement (the work); the ties are given (YtapmfbenmeigpaaDoorTie.lean); close each card by the builder's one call (the guide's Derived/Test/ToyasCard.lean, 'card_holds'). Laid BY PROGRAM, IN A SANDBOX (cutbox-door.mjs). By AI agents, Wed Nov 11 2026. No macro, syntax, notation, axiom, sorry.
-/
import Derived.Test.YtapmfbenmeigpaaDoorRows
import GoSem.ClaimSeven
namespace Go.Proofs.YtapmfbenmeigpaaDoor
namespace Rows

/-- THE TIED CARD OF 'laws.FnAnyDescribeDelegationTokenRequest'. -/
def fnAnyDescribeDelegationTokenRequestCard : Claim7 := { stood := { row := fnAnyDescribeDelegationTokenRequestRow, standIns := [], harness := (true, "7ae2e9069b7a66e6800bba6e888b68b7f62fadf4898a14c76ff7ce5b29c50e84"), looks := false }, kinds := [], alts := [], laidByText := true, laidKinds := [.sentinel], laidTests := true, laidLooks := .later }
def FnAnyDescribeDelegationTokenRequestCardSaid : Prop := Claim7.holds Tryd.pinned (.plain (OpenSpec.ofChange fnAnyDescribeDelegationTokenRequestSpec)) fnAnyDescribeDelegationTokenRequestCard

/-- THE TIED CARD OF 'laws.FnAnyListGroupsRequest'. -/
def fnAnyListGroupsRequestCard : Claim7 := { stood := { row := fnAnyListGroupsRequestRow, standIns := [], harness := (true, "7ae2e9069b7a66e6800bba6e888b68b7f62fadf4898a14c76ff7ce5b29c50e84"), looks := false }, kinds := [], alts := [], laidByText := true, laidKinds := [.sentinel], laidTests := true, laidLooks := .later }
def FnAnyListGroupsRequestCardSaid : Prop := Claim7.holds Tryd.pinned (.plain (OpenSpec.ofChange fnAnyListGroupsRequestSpec)) fnAnyListGroupsRequestCard

/-- THE TIED CARD OF 'laws.FnAgainLeaderChangeMessage'. -/
def fnAgainLeaderChangeMessageCard : Claim7 := { stood := { row := fnAgainLeaderChangeMessageRow, standIns := [], harness := (true, "7ae2e9069b7a66e6800bba6e888b68b7f62fadf4898a14c76ff7ce5b29c50e84"), looks := false }, kinds := [], alts := [], laidByText := true, laidKinds := [.sentinel], laidTests := true, laidLooks := .later }
def FnAgainLeaderChangeMessageCardSaid : Prop := Claim7.holds Tryd.pinned (.plain (OpenSpec.ofChange fnAgainLeaderChangeMessageSpec)) fnAgainLeaderChangeMessageCard

/-- THE TIED CARD OF 'laws.FnAnyAlterReplicaLogDirsRequest'. -/
def fnAnyAlterReplicaLogDirsRequestCard : Claim7 := { stood := { row := fnAnyAlterReplicaLogDirsRequestRow, standIns := [], harness := (true, "7ae2e9069b7a66e6800bba6e888b68b7f62fadf4898a14c76ff7ce5b29c50e84"), looks := false }, kinds := [], alts := [], laidByText := true, laidKinds := [.sentinel], laidTests := true, laidLooks := .later }
def FnAnyAlterReplicaLogDirsRequestCardSaid : Prop := Claim7.holds Tryd.pinned (.plain (OpenSpec.ofChange fnAnyAlterReplicaLogDirsRequestSpec)) fnAnyAlterReplicaLogDirsRequestCard

/-- THE TIED CARD OF 'laws.FnAnyBrokerHeartbeatResponse'. -/
def fnAnyBrokerHeartbeatResponseCard : Claim7 := { stood := { row := fnAnyBrokerHeartbeatResponseRow, standIns := [], harness := (true, "7ae2e9069b7a66e6800bba6e888b68b7f62fadf4898a14c76ff7ce5b29c50e84"), looks := false }, kinds := [], alts := [], laidByText := true, laidKinds := [.sentinel], laidTests := true, laidLooks := .later }
def FnAnyBrokerHeartbeatResponseCardSaid : Prop := Claim7.holds Tryd.pinned (.plain (OpenSpec.ofChange fnAnyBrokerHeartbeatResponseSpec)) fnAnyBrokerHeartbeatResponseCard

/-- THE SECOND FORM's CARD OF 'laws.FnAnyDescribeDelegationTokenRequest'. -/
def fnAnyDescribeDelegationTokenRequestUptoCard : Claim7 := { stood := { row := fnAnyDescribeDelegationTokenRequestUptoRow, standIns := [], harness := (true, "7ae2e9069b7a66e6800bba6e888b68b7f62fadf4898a14c76ff7ce5b29c50e84"), looks := false }, kinds := [], alts := [], laidByText := true, laidKinds := [.sentinel], laidTests := true, laidLooks := .later }
def FnAnyDescribeDelegationTokenRequestUptoCardSaid : Prop := Claim7.holds Tryd.pinned (.plain (OpenSpec.upto fnAnyDescribeDelegationTokenRequestSpec)) fnAnyDescribeDelegationTokenRequestUptoCard

/-- THE SECOND FORM's CARD OF 'laws.FnAnyListGroupsRequest'. -/
def fnAnyListGroupsRequestUptoCard : Claim7 := { stood := { row := fnAnyListGroupsRequestUptoRow, standIns := [], harness := (true, "7ae2e9069b7a66e6800bba6e888b68b7f62fadf4898a14c76ff7ce5b29c50e84"), looks := false }, kinds := [], alts := [], laidByText := true, laidKinds := [.sentinel], laidTests := true, laidLooks := .later }
def FnAnyListGroupsRequestUptoCardSaid : Prop := Claim7.holds Tryd.pinned (.plain (OpenSpec.upto fnAnyListGroupsRequestSpec)) fnAnyListGroupsRequestUptoCard

/-- THE SECOND FORM's CARD OF 'laws.FnAgainLeaderChangeMessage'. -/
def fnAgainLeaderChangeMessageUptoCard : Claim7 := { stood := { row := fnAgainLeaderChangeMessageUptoRow, standIns := [], harness := (true, "7ae2e9069b7a66e6800bba6e888b68b7f62fadf4898a14c76ff7ce5b29c50e84"), looks := false }, kinds := [], alts := [], laidByText := true, laidKinds := [.sentinel], laidTests := true, laidLooks := .later }
def FnAgainLeaderChangeMessageUptoCardSaid : Prop := Claim7.holds Tryd.pinned (.plain (OpenSpec.upto fnAgainLeaderChangeMessageSpec)) fnAgainLeaderChangeMessageUptoCard

/-- THE SECOND FORM's CARD OF 'laws.FnAnyAlterReplicaLogDirsRequest'. -/
def fnAnyAlterReplicaLogDirsRequestUptoCard : Claim7 := { stood := { row := fnAnyAlterReplicaLogDirsRequestUptoRow, standIns := [], harness := (true, "7ae2e9069b7a66e6800bba6e888b68b7f62fadf4898a14c76ff7ce5b29c50e84"), looks := false }, kinds := [], alts := [], laidByText := true, laidKinds := [.sentinel], laidTests := true, laidLooks := .later }
def FnAnyAlterReplicaLogDirsRequestUptoCardSaid : Prop := Claim7.holds Tryd.pinned (.plain (OpenSpec.upto fnAnyAlterReplicaLogDirsRequestSpec)) fnAnyAlterReplicaLogDirsRequestUptoCard

/-- THE SECOND FORM's CARD OF 'laws.FnAnyBrokerHeartbeatResponse'. -/
def fnAnyBrokerHeartbeatResponseUptoCard : Claim7 := { stood := { row := fnAnyBrokerHeartbeatResponseUptoRow, standIns := [], harness := (true, "7ae2e9069b7a66e6800bba6e888b68b7f62fadf4898a14c76ff7ce5b29c50e84"), looks := false }, kinds := [], alts := [], laidByText := true, laidKinds := [.sentinel], laidTests := true, laidLooks := .later }
def FnAnyBrokerHeartbeatResponseUptoCardSaid : Prop := Claim7.holds Tryd.pinned (.plain (OpenSpec.upto fnAnyBrokerHeartbeatResponseSpec)) fnAnyBrokerHeartbeatResponseUptoCard
end Rows
end Go.Proofs.YtapmfbenmeigpaaDoor
