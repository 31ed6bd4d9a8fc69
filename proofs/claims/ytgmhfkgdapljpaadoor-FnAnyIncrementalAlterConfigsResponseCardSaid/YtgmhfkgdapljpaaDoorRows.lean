/-
  NARROWER THAN 'FOR EVERY INPUT', by the rows' own cells (each row's printed sentence says how): FnAnyIncrementalAlterConfigsResponse: laid · FnAnyDeleteShareGroupOffsetsResponse: laid · FnAnyCreateDelegationTokenRequest: laid.
  DERIVED. THE GIVEN ROWS OF THIS SEAT. 3 by the template 'for every input the law returns true; each argument reads behind the call as it read before'; 0 by the template 'total and deterministic' (their statements: YtgmhfkgdapljpaaDoorTotals.lean).
  GIVEN WITH THE SEED: the statements are not yours to turn. If you find one false, say at which input.
  Laid BY PROGRAM, IN A SANDBOX (cutbox-rows.mjs): the forced cells as the released guide's own fill.sh prints them over the translation 740c2c4840847987… (all of the seat's roots in one cut). By AI agents, Wed Nov 11 2026. No macro, syntax, notation, axiom, sorry.
-/
import Derived.Test.YtgmhfkgdapljpaaDoorChecked
import GoSem.Claim
import GoSem.ClaimJoined
import GoSem.ClaimMapViews
import Derived.JoinedTies
import Derived.KernelRfl
namespace Go.Proofs.YtgmhfkgdapljpaaDoor
/- THE CELL 'sum', in the pinned program and in every row, IS THE sha256 OF THE DUMP (.gsa) THAT YtgmhfkgdapljpaaDoorProg.lean LOADS. Nothing in Lean hashes anything: it is a label: what it is worth is what the hold of that sum in a sandbox is worth. -/
noncomputable def Tryd.pinned : Pinned := { name := "ytgmhfkgdapljpaadoor", sum := "740c2c484084798750705a2d84175ed55db209c661cee853d435a4dee4027097", checked := Tryd.checked }
namespace Rows
def none {H : Type} : Left H := { results := [], args := [] }

/- WHAT THE LISTED PACKAGE-LEVEL VARIABLES READ AS WHEN THE CALL BEGINS. Each datum BY PROGRAM (the guide's laid-datum.mjs) off the statement by which the dump's own 'gosem.cut.vars' lays the variable. In a bare row this is a premise. The card (YtgmhfkgdapljpaaDoorCards.lean) ties it to the program's text. -/
def laid_pub_kmsg_pub_kmsg_inner_kbin_ErrNotEnoughData {H : Type} : DataW H := .iface "*errors.errorString" (.ptr (.agg [.lit (.string [114, 101, 115, 112, 111, 110, 115, 101, 32, 100, 105, 100, 32, 110, 111, 116, 32, 99, 111, 110, 116, 97, 105, 110, 32, 101, 110, 111, 117, 103, 104, 32, 100, 97, 116, 97, 32, 116, 111, 32, 98, 101, 32, 118, 97, 108, 105, 100])]))

/-- 'laws.FnAnyIncrementalAlterConfigsResponse': WHATEVER THE INPUT: true; the input reads as it did. -/
def fnAnyIncrementalAlterConfigsResponseSpec : ChangeSpec := { name := "fnAnyIncrementalAlterConfigsResponse", fn := fun _ => fun
  | [d1, d2] => { results := [.lit (.bool true)], args := [d1, d2] }
  | _ => none }
def fnAnyIncrementalAlterConfigsResponseRow : OpenClaim := { program := "ytgmhfkgdapljpaadoor", sum := "740c2c484084798750705a2d84175ed55db209c661cee853d435a4dee4027097", func := "pub-kmsg/laws.FnAnyIncrementalAlterConfigsResponse", spec := "fnAnyIncrementalAlterConfigsResponse", inPlace := ["internal/reflectlite.ValueOf", "internal/reflectlite.Swapper", "(internal/reflectlite.Value).Len"], unfollowed := true, recurses := true, named := ["encoding/binary.BigEndian", "pub-kmsg/pub/kmsg/inner/kbin.ErrNotEnoughData"], apart := false, laid := [("pub-kmsg/pub/kmsg/inner/kbin.ErrNotEnoughData", laid_pub_kmsg_pub_kmsg_inner_kbin_ErrNotEnoughData)] }
def FnAnyIncrementalAlterConfigsResponseSaid : Prop := fnAnyIncrementalAlterConfigsResponseRow.holds Tryd.pinned (OpenSpec.ofChange fnAnyIncrementalAlterConfigsResponseSpec)

/-- ITS FALSE NEIGHBOUR: 'it returns false'. Refute it at one input. -/
def fnAnyIncrementalAlterConfigsResponseWrong : ChangeSpec := { name := "fnAnyIncrementalAlterConfigsResponse", fn := fun _ => fun
  | [d1, d2] => { results := [.lit (.bool false)], args := [d1, d2] }
  | _ => none }
def FnAnyIncrementalAlterConfigsResponseWrongFalsely : Prop := fnAnyIncrementalAlterConfigsResponseRow.holds Tryd.pinned (OpenSpec.ofChange fnAnyIncrementalAlterConfigsResponseWrong)

/-- 'laws.FnAnyDeleteShareGroupOffsetsResponse': WHATEVER THE INPUT: true; the input reads as it did. -/
def fnAnyDeleteShareGroupOffsetsResponseSpec : ChangeSpec := { name := "fnAnyDeleteShareGroupOffsetsResponse", fn := fun _ => fun
  | [d1, d2] => { results := [.lit (.bool true)], args := [d1, d2] }
  | _ => none }
def fnAnyDeleteShareGroupOffsetsResponseRow : OpenClaim := { program := "ytgmhfkgdapljpaadoor", sum := "740c2c484084798750705a2d84175ed55db209c661cee853d435a4dee4027097", func := "pub-kmsg/laws.FnAnyDeleteShareGroupOffsetsResponse", spec := "fnAnyDeleteShareGroupOffsetsResponse", inPlace := ["internal/reflectlite.ValueOf", "internal/reflectlite.Swapper", "(internal/reflectlite.Value).Len"], unfollowed := true, recurses := true, named := ["encoding/binary.BigEndian", "pub-kmsg/pub/kmsg/inner/kbin.ErrNotEnoughData"], apart := false, laid := [("pub-kmsg/pub/kmsg/inner/kbin.ErrNotEnoughData", laid_pub_kmsg_pub_kmsg_inner_kbin_ErrNotEnoughData)] }
def FnAnyDeleteShareGroupOffsetsResponseSaid : Prop := fnAnyDeleteShareGroupOffsetsResponseRow.holds Tryd.pinned (OpenSpec.ofChange fnAnyDeleteShareGroupOffsetsResponseSpec)

/-- ITS FALSE NEIGHBOUR: 'it returns false'. Refute it at one input. -/
def fnAnyDeleteShareGroupOffsetsResponseWrong : ChangeSpec := { name := "fnAnyDeleteShareGroupOffsetsResponse", fn := fun _ => fun
  | [d1, d2] => { results := [.lit (.bool false)], args := [d1, d2] }
  | _ => none }
def FnAnyDeleteShareGroupOffsetsResponseWrongFalsely : Prop := fnAnyDeleteShareGroupOffsetsResponseRow.holds Tryd.pinned (OpenSpec.ofChange fnAnyDeleteShareGroupOffsetsResponseWrong)

/-- 'laws.FnAnyCreateDelegationTokenRequest': WHATEVER THE INPUT: true; the input reads as it did. -/
def fnAnyCreateDelegationTokenRequestSpec : ChangeSpec := { name := "fnAnyCreateDelegationTokenRequest", fn := fun _ => fun
  | [d1, d2] => { results := [.lit (.bool true)], args := [d1, d2] }
  | _ => none }
def fnAnyCreateDelegationTokenRequestRow : OpenClaim := { program := "ytgmhfkgdapljpaadoor", sum := "740c2c484084798750705a2d84175ed55db209c661cee853d435a4dee4027097", func := "pub-kmsg/laws.FnAnyCreateDelegationTokenRequest", spec := "fnAnyCreateDelegationTokenRequest", inPlace := ["internal/reflectlite.ValueOf", "internal/reflectlite.Swapper", "(internal/reflectlite.Value).Len"], unfollowed := true, recurses := true, named := ["encoding/binary.BigEndian", "pub-kmsg/pub/kmsg/inner/kbin.ErrNotEnoughData"], apart := false, laid := [("pub-kmsg/pub/kmsg/inner/kbin.ErrNotEnoughData", laid_pub_kmsg_pub_kmsg_inner_kbin_ErrNotEnoughData)] }
def FnAnyCreateDelegationTokenRequestSaid : Prop := fnAnyCreateDelegationTokenRequestRow.holds Tryd.pinned (OpenSpec.ofChange fnAnyCreateDelegationTokenRequestSpec)

/-- ITS FALSE NEIGHBOUR: 'it returns false'. Refute it at one input. -/
def fnAnyCreateDelegationTokenRequestWrong : ChangeSpec := { name := "fnAnyCreateDelegationTokenRequest", fn := fun _ => fun
  | [d1, d2] => { results := [.lit (.bool false)], args := [d1, d2] }
  | _ => none }
def FnAnyCreateDelegationTokenRequestWrongFalsely : Prop := fnAnyCreateDelegationTokenRequestRow.holds Tryd.pinned (OpenSpec.ofChange fnAnyCreateDelegationTokenRequestWrong)

/- THE SECOND FORM. 'bulk': how many values and letters a reading holds, each counted each time it is reached (what is shared counts as often as it is met; a slice's spare places count too). A statement '..UptoSaid' is the law's where the arguments, and the package variables that the reading takes, are together of bulk at most 1048576: NARROWER than '..Said'. Prove '..Said' where nothing that the law and all that it calls make is longer than what came in: it says more and counts as full. Else prove '..UptoSaid'. A law counts once. -/
mutual
def uptoBulk {H : Type} : DataW H → Nat
  | .lit (.string bytes) => bytes.length + 1
  | .lit _ => 1
  | .nil => 1
  | .ptr d => uptoBulk d + 1
  | .slice elems spare => uptoBulkAll elems + uptoBulkAll spare + 1
  | .agg parts => uptoBulkAll parts + 1
  | .iface _ d => uptoBulk d + 1
  | .map entries => uptoBulkEntries entries + 1
  | .held _ => 1
def uptoBulkAll {H : Type} : List (DataW H) → Nat
  | [] => 0
  | d :: r => uptoBulk d + uptoBulkAll r
def uptoBulkEntries {H : Type} : List (Lit × DataW H) → Nat
  | [] => 0
  | x :: r => uptoBulkEntry x + uptoBulkEntries r
def uptoBulkEntry {H : Type} : Lit × DataW H → Nat
  | (.string bytes, d) => bytes.length + uptoBulk d + 1
  | (_, d) => uptoBulk d + 1
 end
def uptoSmall : (H : Type) → List (DataW H) → Bool := fun _ ds => decide (uptoBulkAll ds ≤ 1048576)
def OpenSpec.upto (s : _root_.Go.ChangeSpec) : _root_.Go.OpenSpec := { _root_.Go.OpenSpec.ofChange s with cond := some uptoSmall }

/-- 'laws.FnAnyIncrementalAlterConfigsResponse', WHERE WHAT IT READS IS OF BULK AT MOST 1048576: true; the input reads as it did. -/
def fnAnyIncrementalAlterConfigsResponseUptoRow : OpenClaim := { program := "ytgmhfkgdapljpaadoor", sum := "740c2c484084798750705a2d84175ed55db209c661cee853d435a4dee4027097", func := "pub-kmsg/laws.FnAnyIncrementalAlterConfigsResponse", spec := "fnAnyIncrementalAlterConfigsResponse", inPlace := ["internal/reflectlite.ValueOf", "internal/reflectlite.Swapper", "(internal/reflectlite.Value).Len"], unfollowed := true, recurses := true, named := ["encoding/binary.BigEndian", "pub-kmsg/pub/kmsg/inner/kbin.ErrNotEnoughData"], apart := false, laid := [("pub-kmsg/pub/kmsg/inner/kbin.ErrNotEnoughData", laid_pub_kmsg_pub_kmsg_inner_kbin_ErrNotEnoughData)], narrowed := true }
def FnAnyIncrementalAlterConfigsResponseUptoSaid : Prop := fnAnyIncrementalAlterConfigsResponseUptoRow.holds Tryd.pinned (OpenSpec.upto fnAnyIncrementalAlterConfigsResponseSpec)

/-- 'laws.FnAnyDeleteShareGroupOffsetsResponse', WHERE WHAT IT READS IS OF BULK AT MOST 1048576: true; the input reads as it did. -/
def fnAnyDeleteShareGroupOffsetsResponseUptoRow : OpenClaim := { program := "ytgmhfkgdapljpaadoor", sum := "740c2c484084798750705a2d84175ed55db209c661cee853d435a4dee4027097", func := "pub-kmsg/laws.FnAnyDeleteShareGroupOffsetsResponse", spec := "fnAnyDeleteShareGroupOffsetsResponse", inPlace := ["internal/reflectlite.ValueOf", "internal/reflectlite.Swapper", "(internal/reflectlite.Value).Len"], unfollowed := true, recurses := true, named := ["encoding/binary.BigEndian", "pub-kmsg/pub/kmsg/inner/kbin.ErrNotEnoughData"], apart := false, laid := [("pub-kmsg/pub/kmsg/inner/kbin.ErrNotEnoughData", laid_pub_kmsg_pub_kmsg_inner_kbin_ErrNotEnoughData)], narrowed := true }
def FnAnyDeleteShareGroupOffsetsResponseUptoSaid : Prop := fnAnyDeleteShareGroupOffsetsResponseUptoRow.holds Tryd.pinned (OpenSpec.upto fnAnyDeleteShareGroupOffsetsResponseSpec)

/-- 'laws.FnAnyCreateDelegationTokenRequest', WHERE WHAT IT READS IS OF BULK AT MOST 1048576: true; the input reads as it did. -/
def fnAnyCreateDelegationTokenRequestUptoRow : OpenClaim := { program := "ytgmhfkgdapljpaadoor", sum := "740c2c484084798750705a2d84175ed55db209c661cee853d435a4dee4027097", func := "pub-kmsg/laws.FnAnyCreateDelegationTokenRequest", spec := "fnAnyCreateDelegationTokenRequest", inPlace := ["internal/reflectlite.ValueOf", "internal/reflectlite.Swapper", "(internal/reflectlite.Value).Len"], unfollowed := true, recurses := true, named := ["encoding/binary.BigEndian", "pub-kmsg/pub/kmsg/inner/kbin.ErrNotEnoughData"], apart := false, laid := [("pub-kmsg/pub/kmsg/inner/kbin.ErrNotEnoughData", laid_pub_kmsg_pub_kmsg_inner_kbin_ErrNotEnoughData)], narrowed := true }
def FnAnyCreateDelegationTokenRequestUptoSaid : Prop := fnAnyCreateDelegationTokenRequestUptoRow.holds Tryd.pinned (OpenSpec.upto fnAnyCreateDelegationTokenRequestSpec)

end Rows
end Go.Proofs.YtgmhfkgdapljpaaDoor
