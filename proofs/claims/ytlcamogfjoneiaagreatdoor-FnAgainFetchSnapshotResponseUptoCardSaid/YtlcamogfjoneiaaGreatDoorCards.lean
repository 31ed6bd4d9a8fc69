/-
  DERIVED. GIVEN WITH THE SEED: THE CARDS: each row of YtlcamogfjoneiaaGreatDoorRows.lean that lists a variable, with what it lists TIED to the program's text (the seventh form; the later family's looks); each row that meets fmt, with fmt's text TOLD by the authors' own Lean function (tested against real Go, not proved from fmt's source: count such statements apart). THE CARD IS WHAT COUNTS. Prove the row's statement (the work); the ties are given (YtlcamogfjoneiaaGreatDoorTie.lean); close each card by the builder's one call (the guide's Derived/Test/ToyasCard.lean, 'card_holds'). Laid BY PROGRAM, IN A SANDBOX (cutbox-door.mjs). By AI agents, Wed Nov 11 2026. No macro, syntax, notation, axiom, sorry.
-/
import Derived.Test.YtlcamogfjoneiaaGreatDoorRows
import GoSem.ClaimSeven
namespace Go.Proofs.YtlcamogfjoneiaaGreatDoor
namespace Rows

/-- THE TIED CARD OF 'laws.FnAgainFetchSnapshotResponse'. -/
def fnAgainFetchSnapshotResponseCard : Claim7 := { stood := { row := fnAgainFetchSnapshotResponseRow, standIns := [], harness := (true, "9dba24f561cb6bb3771899e44ff1ee0f7986518aaaf00c28261cfb066c939a54"), looks := false }, kinds := [], alts := [], laidByText := true, laidKinds := [.sentinel], laidTests := true, laidLooks := .later }
def FnAgainFetchSnapshotResponseCardSaid : Prop := Claim7.holds Tryz.pinned (.plain (OpenSpec.ofChange fnAgainFetchSnapshotResponseSpec)) fnAgainFetchSnapshotResponseCard

/-- THE SECOND FORM's CARD OF 'laws.FnAgainFetchSnapshotResponse'. -/
def fnAgainFetchSnapshotResponseUptoCard : Claim7 := { stood := { row := fnAgainFetchSnapshotResponseUptoRow, standIns := [], harness := (true, "9dba24f561cb6bb3771899e44ff1ee0f7986518aaaf00c28261cfb066c939a54"), looks := false }, kinds := [], alts := [], laidByText := true, laidKinds := [.sentinel], laidTests := true, laidLooks := .later }
def FnAgainFetchSnapshotResponseUptoCardSaid : Prop := Claim7.holds Tryz.pinned (.plain (OpenSpec.upto fnAgainFetchSnapshotResponseSpec)) fnAgainFetchSnapshotResponseUptoCard
end Rows
end Go.Proofs.YtlcamogfjoneiaaGreatDoor
