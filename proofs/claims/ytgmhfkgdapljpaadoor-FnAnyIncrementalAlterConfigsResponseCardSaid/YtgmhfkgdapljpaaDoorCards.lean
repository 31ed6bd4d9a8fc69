/-
  DERIVED. GIVEN WITH THE SEED: THE CARDS: each row of YtgmhfkgdapljpaaDoorRows.lean that lists a variable, with what it lists TIED to the program's text (the seventh form; the later family's looks); each row that meets fmt, with fmt's text TOLD by the authors' own Lean function (tested against real Go, not proved from fmt's source: count such statements apart). THE CARD IS WHAT COUNTS. Prove the row's statement (the work); the ties are given (YtgmhfkgdapljpaaDoorTie.lean); close each card by the builder's one call (the guide's Derived/Test/ToyasCard.lean, 'card_holds'). Laid BY PROGRAM, IN A SANDBOX (cutbox-door.mjs). By AI agents, Wed Nov 11 2026. No macro, syntax, notation, axiom, sorry.
-/
import Derived.Test.YtgmhfkgdapljpaaDoorRows
import GoSem.ClaimSeven
namespace Go.Proofs.YtgmhfkgdapljpaaDoor
namespace Rows

/-- THE TIED CARD OF 'laws.FnAnyIncrementalAlterConfigsResponse'. -/
def fnAnyIncrementalAlterConfigsResponseCard : Claim7 := { stood := { row := fnAnyIncrementalAlterConfigsResponseRow, standIns := [], harness := (true, "d83cd98e7d97a4e2540c2a07a558524717c00d2f445a803b0f80f14972309152"), looks := false }, kinds := [], alts := [], laidByText := true, laidKinds := [.sentinel], laidTests := true, laidLooks := .later }
def FnAnyIncrementalAlterConfigsResponseCardSaid : Prop := Claim7.holds Tryd.pinned (.plain (OpenSpec.ofChange fnAnyIncrementalAlterConfigsResponseSpec)) fnAnyIncrementalAlterConfigsResponseCard

/-- THE TIED CARD OF 'laws.FnAnyDeleteShareGroupOffsetsResponse'. -/
def fnAnyDeleteShareGroupOffsetsResponseCard : Claim7 := { stood := { row := fnAnyDeleteShareGroupOffsetsResponseRow, standIns := [], harness := (true, "d83cd98e7d97a4e2540c2a07a558524717c00d2f445a803b0f80f14972309152"), looks := false }, kinds := [], alts := [], laidByText := true, laidKinds := [.sentinel], laidTests := true, laidLooks := .later }
def FnAnyDeleteShareGroupOffsetsResponseCardSaid : Prop := Claim7.holds Tryd.pinned (.plain (OpenSpec.ofChange fnAnyDeleteShareGroupOffsetsResponseSpec)) fnAnyDeleteShareGroupOffsetsResponseCard

/-- THE TIED CARD OF 'laws.FnAnyCreateDelegationTokenRequest'. -/
def fnAnyCreateDelegationTokenRequestCard : Claim7 := { stood := { row := fnAnyCreateDelegationTokenRequestRow, standIns := [], harness := (true, "d83cd98e7d97a4e2540c2a07a558524717c00d2f445a803b0f80f14972309152"), looks := false }, kinds := [], alts := [], laidByText := true, laidKinds := [.sentinel], laidTests := true, laidLooks := .later }
def FnAnyCreateDelegationTokenRequestCardSaid : Prop := Claim7.holds Tryd.pinned (.plain (OpenSpec.ofChange fnAnyCreateDelegationTokenRequestSpec)) fnAnyCreateDelegationTokenRequestCard

/-- THE SECOND FORM's CARD OF 'laws.FnAnyIncrementalAlterConfigsResponse'. -/
def fnAnyIncrementalAlterConfigsResponseUptoCard : Claim7 := { stood := { row := fnAnyIncrementalAlterConfigsResponseUptoRow, standIns := [], harness := (true, "d83cd98e7d97a4e2540c2a07a558524717c00d2f445a803b0f80f14972309152"), looks := false }, kinds := [], alts := [], laidByText := true, laidKinds := [.sentinel], laidTests := true, laidLooks := .later }
def FnAnyIncrementalAlterConfigsResponseUptoCardSaid : Prop := Claim7.holds Tryd.pinned (.plain (OpenSpec.upto fnAnyIncrementalAlterConfigsResponseSpec)) fnAnyIncrementalAlterConfigsResponseUptoCard

/-- THE SECOND FORM's CARD OF 'laws.FnAnyDeleteShareGroupOffsetsResponse'. -/
def fnAnyDeleteShareGroupOffsetsResponseUptoCard : Claim7 := { stood := { row := fnAnyDeleteShareGroupOffsetsResponseUptoRow, standIns := [], harness := (true, "d83cd98e7d97a4e2540c2a07a558524717c00d2f445a803b0f80f14972309152"), looks := false }, kinds := [], alts := [], laidByText := true, laidKinds := [.sentinel], laidTests := true, laidLooks := .later }
def FnAnyDeleteShareGroupOffsetsResponseUptoCardSaid : Prop := Claim7.holds Tryd.pinned (.plain (OpenSpec.upto fnAnyDeleteShareGroupOffsetsResponseSpec)) fnAnyDeleteShareGroupOffsetsResponseUptoCard

/-- THE SECOND FORM's CARD OF 'laws.FnAnyCreateDelegationTokenRequest'. -/
def fnAnyCreateDelegationTokenRequestUptoCard : Claim7 := { stood := { row := fnAnyCreateDelegationTokenRequestUptoRow, standIns := [], harness := (true, "d83cd98e7d97a4e2540c2a07a558524717c00d2f445a803b0f80f14972309152"), looks := false }, kinds := [], alts := [], laidByText := true, laidKinds := [.sentinel], laidTests := true, laidLooks := .later }
def FnAnyCreateDelegationTokenRequestUptoCardSaid : Prop := Claim7.holds Tryd.pinned (.plain (OpenSpec.upto fnAnyCreateDelegationTokenRequestSpec)) fnAnyCreateDelegationTokenRequestUptoCard
end Rows
end Go.Proofs.YtgmhfkgdapljpaaDoor
