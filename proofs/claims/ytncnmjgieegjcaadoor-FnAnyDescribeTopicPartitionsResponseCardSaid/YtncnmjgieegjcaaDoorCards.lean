/-
  DERIVED. GIVEN WITH THE SEED: THE CARDS: each row of YtncnmjgieegjcaaDoorRows.lean that lists a variable, with what it lists TIED to the program's text (the seventh form; the later family's looks); each row that meets fmt, with fmt's text TOLD by the authors' own Lean function (tested against real Go, not proved from fmt's source: count such statements apart). THE CARD IS WHAT COUNTS. Prove the row's statement (the work); the ties are given (YtncnmjgieegjcaaDoorTie.lean); close each card by the builder's one call (the guide's Derived/Test/ToyasCard.lean, 'card_holds'). Laid BY PROGRAM, IN A SANDBOX (cutbox-door.mjs). By AI agents, Wed Nov 11 2026. No macro, syntax, notation, axiom, sorry.
-/
import Derived.Test.YtncnmjgieegjcaaDoorRows
import GoSem.ClaimSeven
namespace Go.Proofs.YtncnmjgieegjcaaDoor
namespace Rows

/-- THE TIED CARD OF 'laws.FnAnyDescribeTopicPartitionsResponse'. -/
def fnAnyDescribeTopicPartitionsResponseCard : Claim7 := { stood := { row := fnAnyDescribeTopicPartitionsResponseRow, standIns := [], harness := (true, "cc40dbb66f7271fd009737776db84f78a2f6c528867886807f4fefe18198657f"), looks := false }, kinds := [], alts := [], laidByText := true, laidKinds := [.sentinel], laidTests := true, laidLooks := .later }
def FnAnyDescribeTopicPartitionsResponseCardSaid : Prop := Claim7.holds Tryd.pinned (.plain (OpenSpec.ofChange fnAnyDescribeTopicPartitionsResponseSpec)) fnAnyDescribeTopicPartitionsResponseCard

/-- THE SECOND FORM's CARD OF 'laws.FnAnyDescribeTopicPartitionsResponse'. -/
def fnAnyDescribeTopicPartitionsResponseUptoCard : Claim7 := { stood := { row := fnAnyDescribeTopicPartitionsResponseUptoRow, standIns := [], harness := (true, "cc40dbb66f7271fd009737776db84f78a2f6c528867886807f4fefe18198657f"), looks := false }, kinds := [], alts := [], laidByText := true, laidKinds := [.sentinel], laidTests := true, laidLooks := .later }
def FnAnyDescribeTopicPartitionsResponseUptoCardSaid : Prop := Claim7.holds Tryd.pinned (.plain (OpenSpec.upto fnAnyDescribeTopicPartitionsResponseSpec)) fnAnyDescribeTopicPartitionsResponseUptoCard
end Rows
end Go.Proofs.YtncnmjgieegjcaaDoor
