/-
  DERIVED. GIVEN WITH THE SEED: THE CARDS: each row of YtnbhpeaapbpaeaaDoorRows.lean that lists a variable, with what it lists TIED to the program's text (the seventh form; the later family's looks); each row that meets fmt, with fmt's text TOLD by the authors' own Lean function (tested against real Go, not proved from fmt's source: count such statements apart). THE CARD IS WHAT COUNTS. Prove the row's statement (the work); the ties are given (YtnbhpeaapbpaeaaDoorTie.lean); close each card by the builder's one call (the guide's Derived/Test/ToyasCard.lean, 'card_holds'). Laid BY PROGRAM, IN A SANDBOX (cutbox-door.mjs). By AI agents, Wed Nov 11 2026. No macro, syntax, notation, axiom, sorry.
-/
import Derived.Test.YtnbhpeaapbpaeaaDoorRows
import GoSem.ClaimSeven
namespace Go.Proofs.YtnbhpeaapbpaeaaDoor
namespace Rows

/-- THE TIED CARD OF 'laws.FnAnyControlRecordKey'. -/
def fnAnyControlRecordKeyCard : Claim7 := { stood := { row := fnAnyControlRecordKeyRow, standIns := [], harness := (true, "9caeba6a9beeb3d9b580e5ddcdc69893a7d608b8b88b1afd8d19cc4e08f7fe56"), looks := false }, kinds := [], alts := [], laidByText := true, laidKinds := [.sentinel], laidTests := true, laidLooks := .later }
def FnAnyControlRecordKeyCardSaid : Prop := Claim7.holds Tryd.pinned (.plain (OpenSpec.ofChange fnAnyControlRecordKeySpec)) fnAnyControlRecordKeyCard

/-- THE TIED CARD OF 'laws.FnTellOld'. -/
def fnTellOldCard : Claim7 := { stood := { row := fnTellOldRow, standIns := [], harness := (true, "9caeba6a9beeb3d9b580e5ddcdc69893a7d608b8b88b1afd8d19cc4e08f7fe56"), looks := false }, kinds := [], alts := [], laidByText := true, laidKinds := [.sentinel], laidTests := true, laidLooks := .later }
def FnTellOldCardSaid : Prop := Claim7.holds Tryd.pinned (.plain (OpenSpec.ofChange fnTellOldSpec)) fnTellOldCard

/-- THE TIED CARD OF 'laws.FnAnyOffsetDeleteResponse'. -/
def fnAnyOffsetDeleteResponseCard : Claim7 := { stood := { row := fnAnyOffsetDeleteResponseRow, standIns := [], harness := (true, "9caeba6a9beeb3d9b580e5ddcdc69893a7d608b8b88b1afd8d19cc4e08f7fe56"), looks := false }, kinds := [], alts := [], laidByText := true, laidKinds := [.sentinel], laidTests := true, laidLooks := .later }
def FnAnyOffsetDeleteResponseCardSaid : Prop := Claim7.holds Tryd.pinned (.plain (OpenSpec.ofChange fnAnyOffsetDeleteResponseSpec)) fnAnyOffsetDeleteResponseCard

/-- THE TIED CARD OF 'laws.FnCutConnectMemberAssignment'. -/
def fnCutConnectMemberAssignmentCard : Claim7 := { stood := { row := fnCutConnectMemberAssignmentRow, standIns := [], harness := (true, "9caeba6a9beeb3d9b580e5ddcdc69893a7d608b8b88b1afd8d19cc4e08f7fe56"), looks := false }, kinds := [], alts := [], laidByText := true, laidKinds := [.sentinel], laidTests := true, laidLooks := .later }
def FnCutConnectMemberAssignmentCardSaid : Prop := Claim7.holds Tryd.pinned (.plain (OpenSpec.ofChange fnCutConnectMemberAssignmentSpec)) fnCutConnectMemberAssignmentCard

/-- THE SECOND FORM's CARD OF 'laws.FnAnyControlRecordKey'. -/
def fnAnyControlRecordKeyUptoCard : Claim7 := { stood := { row := fnAnyControlRecordKeyUptoRow, standIns := [], harness := (true, "9caeba6a9beeb3d9b580e5ddcdc69893a7d608b8b88b1afd8d19cc4e08f7fe56"), looks := false }, kinds := [], alts := [], laidByText := true, laidKinds := [.sentinel], laidTests := true, laidLooks := .later }
def FnAnyControlRecordKeyUptoCardSaid : Prop := Claim7.holds Tryd.pinned (.plain (OpenSpec.upto fnAnyControlRecordKeySpec)) fnAnyControlRecordKeyUptoCard

/-- THE SECOND FORM's CARD OF 'laws.FnTellOld'. -/
def fnTellOldUptoCard : Claim7 := { stood := { row := fnTellOldUptoRow, standIns := [], harness := (true, "9caeba6a9beeb3d9b580e5ddcdc69893a7d608b8b88b1afd8d19cc4e08f7fe56"), looks := false }, kinds := [], alts := [], laidByText := true, laidKinds := [.sentinel], laidTests := true, laidLooks := .later }
def FnTellOldUptoCardSaid : Prop := Claim7.holds Tryd.pinned (.plain (OpenSpec.upto fnTellOldSpec)) fnTellOldUptoCard

/-- THE SECOND FORM's CARD OF 'laws.FnAnyOffsetDeleteResponse'. -/
def fnAnyOffsetDeleteResponseUptoCard : Claim7 := { stood := { row := fnAnyOffsetDeleteResponseUptoRow, standIns := [], harness := (true, "9caeba6a9beeb3d9b580e5ddcdc69893a7d608b8b88b1afd8d19cc4e08f7fe56"), looks := false }, kinds := [], alts := [], laidByText := true, laidKinds := [.sentinel], laidTests := true, laidLooks := .later }
def FnAnyOffsetDeleteResponseUptoCardSaid : Prop := Claim7.holds Tryd.pinned (.plain (OpenSpec.upto fnAnyOffsetDeleteResponseSpec)) fnAnyOffsetDeleteResponseUptoCard

/-- THE SECOND FORM's CARD OF 'laws.FnCutConnectMemberAssignment'. -/
def fnCutConnectMemberAssignmentUptoCard : Claim7 := { stood := { row := fnCutConnectMemberAssignmentUptoRow, standIns := [], harness := (true, "9caeba6a9beeb3d9b580e5ddcdc69893a7d608b8b88b1afd8d19cc4e08f7fe56"), looks := false }, kinds := [], alts := [], laidByText := true, laidKinds := [.sentinel], laidTests := true, laidLooks := .later }
def FnCutConnectMemberAssignmentUptoCardSaid : Prop := Claim7.holds Tryd.pinned (.plain (OpenSpec.upto fnCutConnectMemberAssignmentSpec)) fnCutConnectMemberAssignmentUptoCard
end Rows
end Go.Proofs.YtnbhpeaapbpaeaaDoor
