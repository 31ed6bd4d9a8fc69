/-
  DERIVED. GIVEN WITH THE SEED: THE CARDS: each row of YtlfhagnjemjaoaaDoorRows.lean that lists a variable, with what it lists TIED to the program's text (the seventh form; the later family's looks); each row that meets fmt, with fmt's text TOLD by the authors' own Lean function (tested against real Go, not proved from fmt's source: count such statements apart). THE CARD IS WHAT COUNTS. Prove the row's statement (the work); the ties are given (YtlfhagnjemjaoaaDoorTie.lean); close each card by the builder's one call (the guide's Derived/Test/ToyasCard.lean, 'card_holds'). Laid BY PROGRAM, IN A SANDBOX (cutbox-door.mjs). By AI agents, Wed Nov 11 2026. No macro, syntax, notation, axiom, sorry.
-/
import Derived.Test.YtlfhagnjemjaoaaDoorRows
import GoSem.ClaimSeven
namespace Go.Proofs.YtlfhagnjemjaoaaDoor
namespace Rows

/-- THE TIED CARD OF 'laws.FnAnyAddPartitionsToTxnResponse'. -/
def fnAnyAddPartitionsToTxnResponseCard : Claim7 := { stood := { row := fnAnyAddPartitionsToTxnResponseRow, standIns := [], harness := (true, "d153cee394d7b54ccb3bd6f1377b6f9830822f1bd7b5e1a47e3724a137c0a7df"), looks := false }, kinds := [], alts := [], laidByText := true, laidKinds := [.sentinel], laidTests := true, laidLooks := .later }
def FnAnyAddPartitionsToTxnResponseCardSaid : Prop := Claim7.holds Tryd.pinned (.plain (OpenSpec.ofChange fnAnyAddPartitionsToTxnResponseSpec)) fnAnyAddPartitionsToTxnResponseCard

/-- THE TIED CARD OF 'laws.FnAnyTxnOffsetCommitRequest'. -/
def fnAnyTxnOffsetCommitRequestCard : Claim7 := { stood := { row := fnAnyTxnOffsetCommitRequestRow, standIns := [], harness := (true, "d153cee394d7b54ccb3bd6f1377b6f9830822f1bd7b5e1a47e3724a137c0a7df"), looks := false }, kinds := [], alts := [], laidByText := true, laidKinds := [.sentinel], laidTests := true, laidLooks := .later }
def FnAnyTxnOffsetCommitRequestCardSaid : Prop := Claim7.holds Tryd.pinned (.plain (OpenSpec.ofChange fnAnyTxnOffsetCommitRequestSpec)) fnAnyTxnOffsetCommitRequestCard

/-- THE TIED CARD OF 'laws.FnAnyControlRecordKey'. -/
def fnAnyControlRecordKeyCard : Claim7 := { stood := { row := fnAnyControlRecordKeyRow, standIns := [], harness := (true, "d153cee394d7b54ccb3bd6f1377b6f9830822f1bd7b5e1a47e3724a137c0a7df"), looks := false }, kinds := [], alts := [], laidByText := true, laidKinds := [.sentinel], laidTests := true, laidLooks := .later }
def FnAnyControlRecordKeyCardSaid : Prop := Claim7.holds Tryd.pinned (.plain (OpenSpec.ofChange fnAnyControlRecordKeySpec)) fnAnyControlRecordKeyCard

/-- THE TIED CARD OF 'laws.FnTellOld'. -/
def fnTellOldCard : Claim7 := { stood := { row := fnTellOldRow, standIns := [], harness := (true, "d153cee394d7b54ccb3bd6f1377b6f9830822f1bd7b5e1a47e3724a137c0a7df"), looks := false }, kinds := [], alts := [], laidByText := true, laidKinds := [.sentinel], laidTests := true, laidLooks := .later }
def FnTellOldCardSaid : Prop := Claim7.holds Tryd.pinned (.plain (OpenSpec.ofChange fnTellOldSpec)) fnTellOldCard

/-- THE SECOND FORM's CARD OF 'laws.FnAnyAddPartitionsToTxnResponse'. -/
def fnAnyAddPartitionsToTxnResponseUptoCard : Claim7 := { stood := { row := fnAnyAddPartitionsToTxnResponseUptoRow, standIns := [], harness := (true, "d153cee394d7b54ccb3bd6f1377b6f9830822f1bd7b5e1a47e3724a137c0a7df"), looks := false }, kinds := [], alts := [], laidByText := true, laidKinds := [.sentinel], laidTests := true, laidLooks := .later }
def FnAnyAddPartitionsToTxnResponseUptoCardSaid : Prop := Claim7.holds Tryd.pinned (.plain (OpenSpec.upto fnAnyAddPartitionsToTxnResponseSpec)) fnAnyAddPartitionsToTxnResponseUptoCard

/-- THE SECOND FORM's CARD OF 'laws.FnAnyTxnOffsetCommitRequest'. -/
def fnAnyTxnOffsetCommitRequestUptoCard : Claim7 := { stood := { row := fnAnyTxnOffsetCommitRequestUptoRow, standIns := [], harness := (true, "d153cee394d7b54ccb3bd6f1377b6f9830822f1bd7b5e1a47e3724a137c0a7df"), looks := false }, kinds := [], alts := [], laidByText := true, laidKinds := [.sentinel], laidTests := true, laidLooks := .later }
def FnAnyTxnOffsetCommitRequestUptoCardSaid : Prop := Claim7.holds Tryd.pinned (.plain (OpenSpec.upto fnAnyTxnOffsetCommitRequestSpec)) fnAnyTxnOffsetCommitRequestUptoCard

/-- THE SECOND FORM's CARD OF 'laws.FnAnyControlRecordKey'. -/
def fnAnyControlRecordKeyUptoCard : Claim7 := { stood := { row := fnAnyControlRecordKeyUptoRow, standIns := [], harness := (true, "d153cee394d7b54ccb3bd6f1377b6f9830822f1bd7b5e1a47e3724a137c0a7df"), looks := false }, kinds := [], alts := [], laidByText := true, laidKinds := [.sentinel], laidTests := true, laidLooks := .later }
def FnAnyControlRecordKeyUptoCardSaid : Prop := Claim7.holds Tryd.pinned (.plain (OpenSpec.upto fnAnyControlRecordKeySpec)) fnAnyControlRecordKeyUptoCard

/-- THE SECOND FORM's CARD OF 'laws.FnTellOld'. -/
def fnTellOldUptoCard : Claim7 := { stood := { row := fnTellOldUptoRow, standIns := [], harness := (true, "d153cee394d7b54ccb3bd6f1377b6f9830822f1bd7b5e1a47e3724a137c0a7df"), looks := false }, kinds := [], alts := [], laidByText := true, laidKinds := [.sentinel], laidTests := true, laidLooks := .later }
def FnTellOldUptoCardSaid : Prop := Claim7.holds Tryd.pinned (.plain (OpenSpec.upto fnTellOldSpec)) fnTellOldUptoCard
end Rows
end Go.Proofs.YtlfhagnjemjaoaaDoor
