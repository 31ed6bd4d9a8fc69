/-
  DERIVED. GIVEN WITH THE SEED: THE CARDS: each row of YtciilfoljjfbfaaDoorRows.lean that lists a variable, with what it lists TIED to the program's text (the seventh form; the later family's looks); each row that meets fmt, with fmt's text TOLD by the authors' own Lean function (tested against real Go, not proved from fmt's source: count such statements apart). THE CARD IS WHAT COUNTS. Prove the row's statement (the work); the ties are given (YtciilfoljjfbfaaDoorTie.lean); close each card by the builder's one call (the guide's Derived/Test/ToyasCard.lean, 'card_holds'). Laid BY PROGRAM, IN A SANDBOX (cutbox-door.mjs). By AI agents, Wed Nov 11 2026. No macro, syntax, notation, axiom, sorry.
-/
import Derived.Test.YtciilfoljjfbfaaDoorRows
import GoSem.ClaimSeven
namespace Go.Proofs.YtciilfoljjfbfaaDoor
namespace Rows

/-- THE TIED CARD OF 'laws.FnParseACLPermissionType'. -/
def fnParseACLPermissionTypeCard : Claim7 := { stood := { row := fnParseACLPermissionTypeRow, standIns := [], harness := (true, "522ef8893b75fe46652b49a9e243b22cceeb69009d0478124be1937f288af5b1"), looks := false }, kinds := [], alts := [], laidByText := true, laidKinds := [.data, .listed, .data, .pinned, .pinned], laidTests := true, laidLooks := .later }
def FnParseACLPermissionTypeCardSaid : Prop := Claim7.holds Tryd.pinned (.plain (OpenSpec.ofChange fnParseACLPermissionTypeSpec)) fnParseACLPermissionTypeCard

/-- THE TIED CARD OF 'laws.FnControlRecordKeyTypeText'. -/
def fnControlRecordKeyTypeTextCard : Claim7 := { stood := { row := fnControlRecordKeyTypeTextRow, standIns := [], harness := (true, "522ef8893b75fe46652b49a9e243b22cceeb69009d0478124be1937f288af5b1"), looks := false }, kinds := [], alts := [], laidByText := true, laidKinds := [.data, .listed, .data, .pinned, .pinned], laidTests := true, laidLooks := .later }
def FnControlRecordKeyTypeTextCardSaid : Prop := Claim7.holds Tryd.pinned (.plain (OpenSpec.ofChange fnControlRecordKeyTypeTextSpec)) fnControlRecordKeyTypeTextCard

/-- THE SECOND FORM's CARD OF 'laws.FnParseACLPermissionType'. -/
def fnParseACLPermissionTypeUptoCard : Claim7 := { stood := { row := fnParseACLPermissionTypeUptoRow, standIns := [], harness := (true, "522ef8893b75fe46652b49a9e243b22cceeb69009d0478124be1937f288af5b1"), looks := false }, kinds := [], alts := [], laidByText := true, laidKinds := [.data, .listed, .data, .pinned, .pinned], laidTests := true, laidLooks := .later }
def FnParseACLPermissionTypeUptoCardSaid : Prop := Claim7.holds Tryd.pinned (.plain (OpenSpec.upto fnParseACLPermissionTypeSpec)) fnParseACLPermissionTypeUptoCard

/-- THE SECOND FORM's CARD OF 'laws.FnControlRecordKeyTypeText'. -/
def fnControlRecordKeyTypeTextUptoCard : Claim7 := { stood := { row := fnControlRecordKeyTypeTextUptoRow, standIns := [], harness := (true, "522ef8893b75fe46652b49a9e243b22cceeb69009d0478124be1937f288af5b1"), looks := false }, kinds := [], alts := [], laidByText := true, laidKinds := [.data, .listed, .data, .pinned, .pinned], laidTests := true, laidLooks := .later }
def FnControlRecordKeyTypeTextUptoCardSaid : Prop := Claim7.holds Tryd.pinned (.plain (OpenSpec.upto fnControlRecordKeyTypeTextSpec)) fnControlRecordKeyTypeTextUptoCard
end Rows
end Go.Proofs.YtciilfoljjfbfaaDoor
