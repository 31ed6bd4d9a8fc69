/-
  DERIVED. GIVEN WITH THE SEED: THE CARDS: each row of YtiafaedhhpjolaaGreatDoorRows.lean that lists a variable, with what it lists TIED to the program's text (the seventh form; the later family's looks); each row that meets fmt, with fmt's text TOLD by the authors' own Lean function (tested against real Go, not proved from fmt's source: count such statements apart). THE CARD IS WHAT COUNTS. Prove the row's statement (the work); the ties are given (YtiafaedhhpjolaaGreatDoorTie.lean); close each card by the builder's one call (the guide's Derived/Test/ToyasCard.lean, 'card_holds'). Laid BY PROGRAM, IN A SANDBOX (cutbox-door.mjs). By AI agents, Wed Nov 11 2026. No macro, syntax, notation, axiom, sorry.
-/
import Derived.Test.YtiafaedhhpjolaaGreatDoorRows
import GoSem.ClaimSeven
namespace Go.Proofs.YtiafaedhhpjolaaGreatDoor
namespace Rows

/-- THE TIED CARD OF 'laws.FnCutTxnMetadataValue'. -/
def fnCutTxnMetadataValueCard : Claim7 := { stood := { row := fnCutTxnMetadataValueRow, standIns := [], harness := (true, "35c6d5d24585a99ac7811956767918c140131a95843fae2b6b1b0c5e498f5c38"), looks := false }, kinds := [], alts := [], laidByText := true, laidKinds := [.sentinel], laidTests := true, laidLooks := .later }
def FnCutTxnMetadataValueCardSaid : Prop := Claim7.holds Tryz.pinned (.plain (OpenSpec.ofChange fnCutTxnMetadataValueSpec)) fnCutTxnMetadataValueCard

/-- THE TIED CARD OF 'laws.FnAgainCreateTopicsResponse'. -/
def fnAgainCreateTopicsResponseCard : Claim7 := { stood := { row := fnAgainCreateTopicsResponseRow, standIns := [], harness := (true, "35c6d5d24585a99ac7811956767918c140131a95843fae2b6b1b0c5e498f5c38"), looks := false }, kinds := [], alts := [], laidByText := true, laidKinds := [.sentinel], laidTests := true, laidLooks := .later }
def FnAgainCreateTopicsResponseCardSaid : Prop := Claim7.holds Tryz.pinned (.plain (OpenSpec.ofChange fnAgainCreateTopicsResponseSpec)) fnAgainCreateTopicsResponseCard

/-- THE SECOND FORM's CARD OF 'laws.FnCutTxnMetadataValue'. -/
def fnCutTxnMetadataValueUptoCard : Claim7 := { stood := { row := fnCutTxnMetadataValueUptoRow, standIns := [], harness := (true, "35c6d5d24585a99ac7811956767918c140131a95843fae2b6b1b0c5e498f5c38"), looks := false }, kinds := [], alts := [], laidByText := true, laidKinds := [.sentinel], laidTests := true, laidLooks := .later }
def FnCutTxnMetadataValueUptoCardSaid : Prop := Claim7.holds Tryz.pinned (.plain (OpenSpec.upto fnCutTxnMetadataValueSpec)) fnCutTxnMetadataValueUptoCard

/-- THE SECOND FORM's CARD OF 'laws.FnAgainCreateTopicsResponse'. -/
def fnAgainCreateTopicsResponseUptoCard : Claim7 := { stood := { row := fnAgainCreateTopicsResponseUptoRow, standIns := [], harness := (true, "35c6d5d24585a99ac7811956767918c140131a95843fae2b6b1b0c5e498f5c38"), looks := false }, kinds := [], alts := [], laidByText := true, laidKinds := [.sentinel], laidTests := true, laidLooks := .later }
def FnAgainCreateTopicsResponseUptoCardSaid : Prop := Claim7.holds Tryz.pinned (.plain (OpenSpec.upto fnAgainCreateTopicsResponseSpec)) fnAgainCreateTopicsResponseUptoCard
end Rows
end Go.Proofs.YtiafaedhhpjolaaGreatDoor
