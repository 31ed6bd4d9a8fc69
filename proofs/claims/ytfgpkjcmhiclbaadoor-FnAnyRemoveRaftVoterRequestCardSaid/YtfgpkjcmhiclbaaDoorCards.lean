/-
  DERIVED. GIVEN WITH THE SEED: THE CARDS: each row of YtfgpkjcmhiclbaaDoorRows.lean that lists a variable, with what it lists TIED to the program's text (the seventh form; the later family's looks); each row that meets fmt, with fmt's text TOLD by the authors' own Lean function (tested against real Go, not proved from fmt's source: count such statements apart). THE CARD IS WHAT COUNTS. Prove the row's statement (the work); the ties are given (YtfgpkjcmhiclbaaDoorTie.lean); close each card by the builder's one call (the guide's Derived/Test/ToyasCard.lean, 'card_holds'). Laid BY PROGRAM, IN A SANDBOX (cutbox-door.mjs). By AI agents, Wed Nov 11 2026. No macro, syntax, notation, axiom, sorry.
-/
import Derived.Test.YtfgpkjcmhiclbaaDoorRows
import GoSem.ClaimSeven
namespace Go.Proofs.YtfgpkjcmhiclbaaDoor
namespace Rows

/-- THE TIED CARD OF 'laws.FnAnyShareGroupDescribeResponse'. -/
def fnAnyShareGroupDescribeResponseCard : Claim7 := { stood := { row := fnAnyShareGroupDescribeResponseRow, standIns := [], harness := (true, "9b2d829b7cea2ee874124ec81d930ad512e81a297986e9ceef72e72a32444d64"), looks := false }, kinds := [], alts := [], laidByText := true, laidKinds := [.sentinel], laidTests := true, laidLooks := .later }
def FnAnyShareGroupDescribeResponseCardSaid : Prop := Claim7.holds Tryd.pinned (.plain (OpenSpec.ofChange fnAnyShareGroupDescribeResponseSpec)) fnAnyShareGroupDescribeResponseCard

/-- THE TIED CARD OF 'laws.FnCutUpdateMetadataResponse'. -/
def fnCutUpdateMetadataResponseCard : Claim7 := { stood := { row := fnCutUpdateMetadataResponseRow, standIns := [], harness := (true, "9b2d829b7cea2ee874124ec81d930ad512e81a297986e9ceef72e72a32444d64"), looks := false }, kinds := [], alts := [], laidByText := true, laidKinds := [.sentinel], laidTests := true, laidLooks := .later }
def FnCutUpdateMetadataResponseCardSaid : Prop := Claim7.holds Tryd.pinned (.plain (OpenSpec.ofChange fnCutUpdateMetadataResponseSpec)) fnCutUpdateMetadataResponseCard

/-- THE TIED CARD OF 'laws.FnCutDescribeClusterRequest'. -/
def fnCutDescribeClusterRequestCard : Claim7 := { stood := { row := fnCutDescribeClusterRequestRow, standIns := [], harness := (true, "9b2d829b7cea2ee874124ec81d930ad512e81a297986e9ceef72e72a32444d64"), looks := false }, kinds := [], alts := [], laidByText := true, laidKinds := [.sentinel], laidTests := true, laidLooks := .later }
def FnCutDescribeClusterRequestCardSaid : Prop := Claim7.holds Tryd.pinned (.plain (OpenSpec.ofChange fnCutDescribeClusterRequestSpec)) fnCutDescribeClusterRequestCard

/-- THE TIED CARD OF 'laws.FnAnyBrokerHeartbeatResponse'. -/
def fnAnyBrokerHeartbeatResponseCard : Claim7 := { stood := { row := fnAnyBrokerHeartbeatResponseRow, standIns := [], harness := (true, "9b2d829b7cea2ee874124ec81d930ad512e81a297986e9ceef72e72a32444d64"), looks := false }, kinds := [], alts := [], laidByText := true, laidKinds := [.sentinel], laidTests := true, laidLooks := .later }
def FnAnyBrokerHeartbeatResponseCardSaid : Prop := Claim7.holds Tryd.pinned (.plain (OpenSpec.ofChange fnAnyBrokerHeartbeatResponseSpec)) fnAnyBrokerHeartbeatResponseCard

/-- THE TIED CARD OF 'laws.FnAnyExpireDelegationTokenRequest'. -/
def fnAnyExpireDelegationTokenRequestCard : Claim7 := { stood := { row := fnAnyExpireDelegationTokenRequestRow, standIns := [], harness := (true, "9b2d829b7cea2ee874124ec81d930ad512e81a297986e9ceef72e72a32444d64"), looks := false }, kinds := [], alts := [], laidByText := true, laidKinds := [.sentinel], laidTests := true, laidLooks := .later }
def FnAnyExpireDelegationTokenRequestCardSaid : Prop := Claim7.holds Tryd.pinned (.plain (OpenSpec.ofChange fnAnyExpireDelegationTokenRequestSpec)) fnAnyExpireDelegationTokenRequestCard

/-- THE TIED CARD OF 'laws.FnAnyRemoveRaftVoterRequest'. -/
def fnAnyRemoveRaftVoterRequestCard : Claim7 := { stood := { row := fnAnyRemoveRaftVoterRequestRow, standIns := [], harness := (true, "9b2d829b7cea2ee874124ec81d930ad512e81a297986e9ceef72e72a32444d64"), looks := false }, kinds := [], alts := [], laidByText := true, laidKinds := [.sentinel], laidTests := true, laidLooks := .later }
def FnAnyRemoveRaftVoterRequestCardSaid : Prop := Claim7.holds Tryd.pinned (.plain (OpenSpec.ofChange fnAnyRemoveRaftVoterRequestSpec)) fnAnyRemoveRaftVoterRequestCard

/-- THE SECOND FORM's CARD OF 'laws.FnAnyShareGroupDescribeResponse'. -/
def fnAnyShareGroupDescribeResponseUptoCard : Claim7 := { stood := { row := fnAnyShareGroupDescribeResponseUptoRow, standIns := [], harness := (true, "9b2d829b7cea2ee874124ec81d930ad512e81a297986e9ceef72e72a32444d64"), looks := false }, kinds := [], alts := [], laidByText := true, laidKinds := [.sentinel], laidTests := true, laidLooks := .later }
def FnAnyShareGroupDescribeResponseUptoCardSaid : Prop := Claim7.holds Tryd.pinned (.plain (OpenSpec.upto fnAnyShareGroupDescribeResponseSpec)) fnAnyShareGroupDescribeResponseUptoCard

/-- THE SECOND FORM's CARD OF 'laws.FnCutUpdateMetadataResponse'. -/
def fnCutUpdateMetadataResponseUptoCard : Claim7 := { stood := { row := fnCutUpdateMetadataResponseUptoRow, standIns := [], harness := (true, "9b2d829b7cea2ee874124ec81d930ad512e81a297986e9ceef72e72a32444d64"), looks := false }, kinds := [], alts := [], laidByText := true, laidKinds := [.sentinel], laidTests := true, laidLooks := .later }
def FnCutUpdateMetadataResponseUptoCardSaid : Prop := Claim7.holds Tryd.pinned (.plain (OpenSpec.upto fnCutUpdateMetadataResponseSpec)) fnCutUpdateMetadataResponseUptoCard

/-- THE SECOND FORM's CARD OF 'laws.FnCutDescribeClusterRequest'. -/
def fnCutDescribeClusterRequestUptoCard : Claim7 := { stood := { row := fnCutDescribeClusterRequestUptoRow, standIns := [], harness := (true, "9b2d829b7cea2ee874124ec81d930ad512e81a297986e9ceef72e72a32444d64"), looks := false }, kinds := [], alts := [], laidByText := true, laidKinds := [.sentinel], laidTests := true, laidLooks := .later }
def FnCutDescribeClusterRequestUptoCardSaid : Prop := Claim7.holds Tryd.pinned (.plain (OpenSpec.upto fnCutDescribeClusterRequestSpec)) fnCutDescribeClusterRequestUptoCard

/-- THE SECOND FORM's CARD OF 'laws.FnAnyBrokerHeartbeatResponse'. -/
def fnAnyBrokerHeartbeatResponseUptoCard : Claim7 := { stood := { row := fnAnyBrokerHeartbeatResponseUptoRow, standIns := [], harness := (true, "9b2d829b7cea2ee874124ec81d930ad512e81a297986e9ceef72e72a32444d64"), looks := false }, kinds := [], alts := [], laidByText := true, laidKinds := [.sentinel], laidTests := true, laidLooks := .later }
def FnAnyBrokerHeartbeatResponseUptoCardSaid : Prop := Claim7.holds Tryd.pinned (.plain (OpenSpec.upto fnAnyBrokerHeartbeatResponseSpec)) fnAnyBrokerHeartbeatResponseUptoCard

/-- THE SECOND FORM's CARD OF 'laws.FnAnyExpireDelegationTokenRequest'. -/
def fnAnyExpireDelegationTokenRequestUptoCard : Claim7 := { stood := { row := fnAnyExpireDelegationTokenRequestUptoRow, standIns := [], harness := (true, "9b2d829b7cea2ee874124ec81d930ad512e81a297986e9ceef72e72a32444d64"), looks := false }, kinds := [], alts := [], laidByText := true, laidKinds := [.sentinel], laidTests := true, laidLooks := .later }
def FnAnyExpireDelegationTokenRequestUptoCardSaid : Prop := Claim7.holds Tryd.pinned (.plain (OpenSpec.upto fnAnyExpireDelegationTokenRequestSpec)) fnAnyExpireDelegationTokenRequestUptoCard

/-- THE SECOND FORM's CARD OF 'laws.FnAnyRemoveRaftVoterRequest'. -/
def fnAnyRemoveRaftVoterRequestUptoCard : Claim7 := { stood := { row := fnAnyRemoveRaftVoterRequestUptoRow, standIns := [], harness := (true, "9b2d829b7cea2ee874124ec81d930ad512e81a297986e9ceef72e72a32444d64"), looks := false }, kinds := [], alts := [], laidByText := true, laidKinds := [.sentinel], laidTests := true, laidLooks := .later }
def FnAnyRemoveRaftVoterRequestUptoCardSaid : Prop := Claim7.holds Tryd.pinned (.plain (OpenSpec.upto fnAnyRemoveRaftVoterRequestSpec)) fnAnyRemoveRaftVoterRequestUptoCard
end Rows
end Go.Proofs.YtfgpkjcmhiclbaaDoor
