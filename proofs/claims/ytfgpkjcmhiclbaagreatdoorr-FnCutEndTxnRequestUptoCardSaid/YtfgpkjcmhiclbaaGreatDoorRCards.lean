/-
  DERIVED. GIVEN WITH THE SEED: THE CARDS: each row of YtfgpkjcmhiclbaaGreatDoorRRows.lean that lists a variable, with what it lists TIED to the program's text (the seventh form; the later family's looks); each row that meets fmt, with fmt's text TOLD by the authors' own Lean function (tested against real Go, not proved from fmt's source: count such statements apart). THE CARD IS WHAT COUNTS. Prove the row's statement (the work); the ties are given (YtfgpkjcmhiclbaaGreatDoorRTie.lean); close each card by the builder's one call (the guide's Derived/Test/ToyasCard.lean, 'card_holds'). Laid BY PROGRAM, IN A SANDBOX (cutbox-door.mjs). By AI agents, Wed Nov 11 2026. No macro, syntax, notation, axiom, sorry.
-/
import Derived.Test.YtfgpkjcmhiclbaaGreatDoorRRows
import GoSem.ClaimSeven
namespace Go.Proofs.YtfgpkjcmhiclbaaGreatDoorR
namespace Rows

/-- THE TIED CARD OF 'laws.FnCutDescribeQuorumResponse'. -/
def fnCutDescribeQuorumResponseCard : Claim7 := { stood := { row := fnCutDescribeQuorumResponseRow, standIns := [], harness := (true, "d03abf9ec4eb923c5efbbbf3192db4a00ca3845e9cb4a5c946968376160e5283"), looks := false }, kinds := [], alts := [], laidByText := true, laidKinds := [.sentinel], laidTests := true, laidLooks := .later }
def FnCutDescribeQuorumResponseCardSaid : Prop := Claim7.holds Tryz.pinned (.plain (OpenSpec.ofChange fnCutDescribeQuorumResponseSpec)) fnCutDescribeQuorumResponseCard

/-- THE TIED CARD OF 'laws.FnAgainUnregisterControllerResponse'. -/
def fnAgainUnregisterControllerResponseCard : Claim7 := { stood := { row := fnAgainUnregisterControllerResponseRow, standIns := [], harness := (true, "d03abf9ec4eb923c5efbbbf3192db4a00ca3845e9cb4a5c946968376160e5283"), looks := false }, kinds := [], alts := [], laidByText := true, laidKinds := [.sentinel], laidTests := true, laidLooks := .later }
def FnAgainUnregisterControllerResponseCardSaid : Prop := Claim7.holds Tryz.pinned (.plain (OpenSpec.ofChange fnAgainUnregisterControllerResponseSpec)) fnAgainUnregisterControllerResponseCard

/-- THE TIED CARD OF 'laws.FnCutEndTxnRequest'. -/
def fnCutEndTxnRequestCard : Claim7 := { stood := { row := fnCutEndTxnRequestRow, standIns := [], harness := (true, "d03abf9ec4eb923c5efbbbf3192db4a00ca3845e9cb4a5c946968376160e5283"), looks := false }, kinds := [], alts := [], laidByText := true, laidKinds := [.sentinel], laidTests := true, laidLooks := .later }
def FnCutEndTxnRequestCardSaid : Prop := Claim7.holds Tryz.pinned (.plain (OpenSpec.ofChange fnCutEndTxnRequestSpec)) fnCutEndTxnRequestCard

/-- THE TIED CARD OF 'laws.FnAgainStreamsGroupDescribeRequest'. -/
def fnAgainStreamsGroupDescribeRequestCard : Claim7 := { stood := { row := fnAgainStreamsGroupDescribeRequestRow, standIns := [], harness := (true, "d03abf9ec4eb923c5efbbbf3192db4a00ca3845e9cb4a5c946968376160e5283"), looks := false }, kinds := [], alts := [], laidByText := true, laidKinds := [.sentinel], laidTests := true, laidLooks := .later }
def FnAgainStreamsGroupDescribeRequestCardSaid : Prop := Claim7.holds Tryz.pinned (.plain (OpenSpec.ofChange fnAgainStreamsGroupDescribeRequestSpec)) fnAgainStreamsGroupDescribeRequestCard

/-- THE SECOND FORM's CARD OF 'laws.FnCutDescribeQuorumResponse'. -/
def fnCutDescribeQuorumResponseUptoCard : Claim7 := { stood := { row := fnCutDescribeQuorumResponseUptoRow, standIns := [], harness := (true, "d03abf9ec4eb923c5efbbbf3192db4a00ca3845e9cb4a5c946968376160e5283"), looks := false }, kinds := [], alts := [], laidByText := true, laidKinds := [.sentinel], laidTests := true, laidLooks := .later }
def FnCutDescribeQuorumResponseUptoCardSaid : Prop := Claim7.holds Tryz.pinned (.plain (OpenSpec.upto fnCutDescribeQuorumResponseSpec)) fnCutDescribeQuorumResponseUptoCard

/-- THE SECOND FORM's CARD OF 'laws.FnAgainUnregisterControllerResponse'. -/
def fnAgainUnregisterControllerResponseUptoCard : Claim7 := { stood := { row := fnAgainUnregisterControllerResponseUptoRow, standIns := [], harness := (true, "d03abf9ec4eb923c5efbbbf3192db4a00ca3845e9cb4a5c946968376160e5283"), looks := false }, kinds := [], alts := [], laidByText := true, laidKinds := [.sentinel], laidTests := true, laidLooks := .later }
def FnAgainUnregisterControllerResponseUptoCardSaid : Prop := Claim7.holds Tryz.pinned (.plain (OpenSpec.upto fnAgainUnregisterControllerResponseSpec)) fnAgainUnregisterControllerResponseUptoCard

/-- THE SECOND FORM's CARD OF 'laws.FnCutEndTxnRequest'. -/
def fnCutEndTxnRequestUptoCard : Claim7 := { stood := { row := fnCutEndTxnRequestUptoRow, standIns := [], harness := (true, "d03abf9ec4eb923c5efbbbf3192db4a00ca3845e9cb4a5c946968376160e5283"), looks := false }, kinds := [], alts := [], laidByText := true, laidKinds := [.sentinel], laidTests := true, laidLooks := .later }
def FnCutEndTxnRequestUptoCardSaid : Prop := Claim7.holds Tryz.pinned (.plain (OpenSpec.upto fnCutEndTxnRequestSpec)) fnCutEndTxnRequestUptoCard

/-- THE SECOND FORM's CARD OF 'laws.FnAgainStreamsGroupDescribeRequest'. -/
def fnAgainStreamsGroupDescribeRequestUptoCard : Claim7 := { stood := { row := fnAgainStreamsGroupDescribeRequestUptoRow, standIns := [], harness := (true, "d03abf9ec4eb923c5efbbbf3192db4a00ca3845e9cb4a5c946968376160e5283"), looks := false }, kinds := [], alts := [], laidByText := true, laidKinds := [.sentinel], laidTests := true, laidLooks := .later }
def FnAgainStreamsGroupDescribeRequestUptoCardSaid : Prop := Claim7.holds Tryz.pinned (.plain (OpenSpec.upto fnAgainStreamsGroupDescribeRequestSpec)) fnAgainStreamsGroupDescribeRequestUptoCard
end Rows
end Go.Proofs.YtfgpkjcmhiclbaaGreatDoorR
