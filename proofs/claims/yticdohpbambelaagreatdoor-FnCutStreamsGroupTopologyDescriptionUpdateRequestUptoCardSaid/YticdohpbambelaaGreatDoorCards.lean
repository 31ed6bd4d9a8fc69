/-
  DERIVED. GIVEN WITH THE SEED: THE CARDS: each row of YticdohpbambelaaGreatDoorRows.lean that lists a variable, with what it lists TIED to the program's text (the seventh form; the later family's looks); each row that meets fmt, with fmt's text TOLD by the authors' own Lean function (tested against real Go, not proved from fmt's source: count such statements apart). THE CARD IS WHAT COUNTS. Prove the row's statement (the work); the ties are given (YticdohpbambelaaGreatDoorTie.lean); close each card by the builder's one call (the guide's Derived/Test/ToyasCard.lean, 'card_holds'). Laid BY PROGRAM, IN A SANDBOX (cutbox-door.mjs). By AI agents, Wed Nov 11 2026. No macro, syntax, notation, axiom, sorry.
-/
import Derived.Test.YticdohpbambelaaGreatDoorRows
import GoSem.ClaimSeven
namespace Go.Proofs.YticdohpbambelaaGreatDoor
namespace Rows

/-- THE TIED CARD OF 'laws.FnCutStreamsGroupTopologyDescriptionUpdateRequest'. -/
def fnCutStreamsGroupTopologyDescriptionUpdateRequestCard : Claim7 := { stood := { row := fnCutStreamsGroupTopologyDescriptionUpdateRequestRow, standIns := [], harness := (true, "f0c34ec650d8d2931f268dda1d474370e99ebd5edf686e85a96288481ee33067"), looks := false }, kinds := [], alts := [], laidByText := true, laidKinds := [.sentinel], laidTests := true, laidLooks := .later }
def FnCutStreamsGroupTopologyDescriptionUpdateRequestCardSaid : Prop := Claim7.holds Tryz.pinned (.plain (OpenSpec.ofChange fnCutStreamsGroupTopologyDescriptionUpdateRequestSpec)) fnCutStreamsGroupTopologyDescriptionUpdateRequestCard

/-- THE SECOND FORM's CARD OF 'laws.FnCutStreamsGroupTopologyDescriptionUpdateRequest'. -/
def fnCutStreamsGroupTopologyDescriptionUpdateRequestUptoCard : Claim7 := { stood := { row := fnCutStreamsGroupTopologyDescriptionUpdateRequestUptoRow, standIns := [], harness := (true, "f0c34ec650d8d2931f268dda1d474370e99ebd5edf686e85a96288481ee33067"), looks := false }, kinds := [], alts := [], laidByText := true, laidKinds := [.sentinel], laidTests := true, laidLooks := .later }
def FnCutStreamsGroupTopologyDescriptionUpdateRequestUptoCardSaid : Prop := Claim7.holds Tryz.pinned (.plain (OpenSpec.upto fnCutStreamsGroupTopologyDescriptionUpdateRequestSpec)) fnCutStreamsGroupTopologyDescriptionUpdateRequestUptoCard
end Rows
end Go.Proofs.YticdohpbambelaaGreatDoor
