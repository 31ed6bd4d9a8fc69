/-
  DERIVED. GIVEN WITH THE SEED: THE CARDS: each row of YtlcamogfjoneiaaDoorRows.lean that lists a variable, with what it lists TIED to the program's text (the seventh form; the later family's looks); each row that meets fmt, with fmt's text TOLD by the authors' own Lean function (tested against real Go, not proved from fmt's source: count such statements apart). THE CARD IS WHAT COUNTS. Prove the row's statement (the work); the ties are given (YtlcamogfjoneiaaDoorTie.lean); close each card by the builder's one call (the guide's Derived/Test/ToyasCard.lean, 'card_holds'). Laid BY PROGRAM, IN A SANDBOX (cutbox-door.mjs). By AI agents, Wed Nov 11 2026. No macro, syntax, notation, axiom, sorry.
-/
import Derived.Test.YtlcamogfjoneiaaDoorRows
import GoSem.ClaimSeven
namespace Go.Proofs.YtlcamogfjoneiaaDoor
namespace Rows

/-- THE TIED CARD OF 'laws.FnAnyVoteResponse'. -/
def fnAnyVoteResponseCard : Claim7 := { stood := { row := fnAnyVoteResponseRow, standIns := [], harness := (true, "d57e883f9b9f439278d8469ede44f120ca05c62b62770b36c5355d02776ba7e5"), looks := false }, kinds := [], alts := [], laidByText := true, laidKinds := [.sentinel], laidTests := true, laidLooks := .later }
def FnAnyVoteResponseCardSaid : Prop := Claim7.holds Tryd.pinned (.plain (OpenSpec.ofChange fnAnyVoteResponseSpec)) fnAnyVoteResponseCard

/-- THE SECOND FORM's CARD OF 'laws.FnAnyVoteResponse'. -/
def fnAnyVoteResponseUptoCard : Claim7 := { stood := { row := fnAnyVoteResponseUptoRow, standIns := [], harness := (true, "d57e883f9b9f439278d8469ede44f120ca05c62b62770b36c5355d02776ba7e5"), looks := false }, kinds := [], alts := [], laidByText := true, laidKinds := [.sentinel], laidTests := true, laidLooks := .later }
def FnAnyVoteResponseUptoCardSaid : Prop := Claim7.holds Tryd.pinned (.plain (OpenSpec.upto fnAnyVoteResponseSpec)) fnAnyVoteResponseUptoCard
end Rows
end Go.Proofs.YtlcamogfjoneiaaDoor
