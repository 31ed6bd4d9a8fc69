/-
  NARROWER THAN 'FOR EVERY INPUT', by the rows' own cells (each row's printed sentence says how): FnAgainSASLAuthenticateResponse: loops, laid · FnAgainDescribeACLsRequest: loops, laid · FnCutReadShareGroupStateRequest: loops, laid · FnAgainElectLeadersRequest: loops, laid · FnAgainAlterUserSCRAMCredentialsResponse: loops, laid · FnCutDeleteGroupsResponse: loops, laid · FnCutAssignReplicasToDirsResponse: loops, laid.
  DERIVED. THE GIVEN ROWS OF THIS SEAT. 7 by the template 'for every input the law returns true; each argument reads behind the call as it read before'; 0 by the template 'total and deterministic' (their statements: YtapmfbenmeigpaaGreatDoorTotals.lean).
  GIVEN WITH THE SEED: the statements are not yours to turn. If you find one false, say at which input.
  Laid BY PROGRAM, IN A SANDBOX (cutbox-rows.mjs): the forced cells as the released guide's own fill.sh prints them over the translation 07eb07d2328bc14c… (all of the seat's roots in one cut). By AI agents, Wed Nov 11 2026. No macro, syntax, notation, axiom, sorry.
-/
import Derived.Test.YtapmfbenmeigpaaGreatDoorChecked
import GoSem.Claim
import GoSem.ClaimJoined
import GoSem.ClaimMapViews
import Derived.JoinedTies
import Derived.KernelRfl
namespace Go.Proofs.YtapmfbenmeigpaaGreatDoor
/- THE CELL 'sum', in the pinned program and in every row, IS THE sha256 OF THE DUMP (.gsa) THAT YtapmfbenmeigpaaGreatDoorProg.lean LOADS. Nothing in Lean hashes anything: it is a label: what it is worth is what the hold of that sum in a sandbox is worth. -/
noncomputable def Tryz.pinned : Pinned := { name := "ytapmfbenmeigpaagreatdoor", sum := "07eb07d2328bc14c7261e8879bc3f12eb7309608502c98a00df5107c0b4d0c72", checked := Tryz.checked }
namespace Rows
def none {H : Type} : Left H := { results := [], args := [] }

/- WHAT THE LISTED PACKAGE-LEVEL VARIABLES READ AS WHEN THE CALL BEGINS. Each datum BY PROGRAM (the guide's laid-datum.mjs) off the statement by which the dump's own 'gosem.cut.vars' lays the variable. In a bare row this is a premise. The card (YtapmfbenmeigpaaGreatDoorCards.lean) ties it to the program's text. -/
def laid_pub_kmsg_pub_kmsg_inner_kbin_ErrNotEnoughData {H : Type} : DataW H := .iface "*errors.errorString" (.ptr (.agg [.lit (.string [114, 101, 115, 112, 111, 110, 115, 101, 32, 100, 105, 100, 32, 110, 111, 116, 32, 99, 111, 110, 116, 97, 105, 110, 32, 101, 110, 111, 117, 103, 104, 32, 100, 97, 116, 97, 32, 116, 111, 32, 98, 101, 32, 118, 97, 108, 105, 100])]))

/-- 'laws.FnAgainSASLAuthenticateResponse': WHATEVER THE INPUT: true; the input reads as it did. -/
def fnAgainSASLAuthenticateResponseSpec : ChangeSpec := { name := "fnAgainSASLAuthenticateResponse", fn := fun _ => fun
  | [d1, d2] => { results := [.lit (.bool true)], args := [d1, d2] }
  | _ => none }
def fnAgainSASLAuthenticateResponseRow : OpenClaim := { program := "ytapmfbenmeigpaagreatdoor", sum := "07eb07d2328bc14c7261e8879bc3f12eb7309608502c98a00df5107c0b4d0c72", func := "pub-kmsg/laws.FnAgainSASLAuthenticateResponse", spec := "fnAgainSASLAuthenticateResponse", inPlace := ["internal/reflectlite.ValueOf", "internal/reflectlite.Swapper", "(internal/reflectlite.Value).Len"], unfollowed := true, recurses := true, named := ["encoding/binary.BigEndian", "pub-kmsg/pub/kmsg/inner/kbin.ErrNotEnoughData"], loops := true, apart := false, laid := [("pub-kmsg/pub/kmsg/inner/kbin.ErrNotEnoughData", laid_pub_kmsg_pub_kmsg_inner_kbin_ErrNotEnoughData)] }
def FnAgainSASLAuthenticateResponseSaid : Prop := fnAgainSASLAuthenticateResponseRow.holds Tryz.pinned (OpenSpec.ofChange fnAgainSASLAuthenticateResponseSpec)

/-- ITS FALSE NEIGHBOUR: 'it returns false'. Refute it at one input. -/
def fnAgainSASLAuthenticateResponseWrong : ChangeSpec := { name := "fnAgainSASLAuthenticateResponse", fn := fun _ => fun
  | [d1, d2] => { results := [.lit (.bool false)], args := [d1, d2] }
  | _ => none }
def FnAgainSASLAuthenticateResponseWrongFalsely : Prop := fnAgainSASLAuthenticateResponseRow.holds Tryz.pinned (OpenSpec.ofChange fnAgainSASLAuthenticateResponseWrong)

/-- 'laws.FnAgainDescribeACLsRequest': WHATEVER THE INPUT: true; the input reads as it did. -/
def fnAgainDescribeACLsRequestSpec : ChangeSpec := { name := "fnAgainDescribeACLsRequest", fn := fun _ => fun
  | [d1, d2] => { results := [.lit (.bool true)], args := [d1, d2] }
  | _ => none }
def fnAgainDescribeACLsRequestRow : OpenClaim := { program := "ytapmfbenmeigpaagreatdoor", sum := "07eb07d2328bc14c7261e8879bc3f12eb7309608502c98a00df5107c0b4d0c72", func := "pub-kmsg/laws.FnAgainDescribeACLsRequest", spec := "fnAgainDescribeACLsRequest", inPlace := ["internal/reflectlite.ValueOf", "internal/reflectlite.Swapper", "(internal/reflectlite.Value).Len"], unfollowed := true, recurses := true, named := ["encoding/binary.BigEndian", "pub-kmsg/pub/kmsg/inner/kbin.ErrNotEnoughData"], loops := true, apart := false, laid := [("pub-kmsg/pub/kmsg/inner/kbin.ErrNotEnoughData", laid_pub_kmsg_pub_kmsg_inner_kbin_ErrNotEnoughData)] }
def FnAgainDescribeACLsRequestSaid : Prop := fnAgainDescribeACLsRequestRow.holds Tryz.pinned (OpenSpec.ofChange fnAgainDescribeACLsRequestSpec)

/-- ITS FALSE NEIGHBOUR: 'it returns false'. Refute it at one input. -/
def fnAgainDescribeACLsRequestWrong : ChangeSpec := { name := "fnAgainDescribeACLsRequest", fn := fun _ => fun
  | [d1, d2] => { results := [.lit (.bool false)], args := [d1, d2] }
  | _ => none }
def FnAgainDescribeACLsRequestWrongFalsely : Prop := fnAgainDescribeACLsRequestRow.holds Tryz.pinned (OpenSpec.ofChange fnAgainDescribeACLsRequestWrong)

/-- 'laws.FnCutReadShareGroupStateRequest': WHATEVER THE INPUT: true; the input reads as it did. -/
def fnCutReadShareGroupStateRequestSpec : ChangeSpec := { name := "fnCutReadShareGroupStateRequest", fn := fun _ => fun
  | [d1, d2, d3] => { results := [.lit (.bool true)], args := [d1, d2, d3] }
  | _ => none }
def fnCutReadShareGroupStateRequestRow : OpenClaim := { program := "ytapmfbenmeigpaagreatdoor", sum := "07eb07d2328bc14c7261e8879bc3f12eb7309608502c98a00df5107c0b4d0c72", func := "pub-kmsg/laws.FnCutReadShareGroupStateRequest", spec := "fnCutReadShareGroupStateRequest", inPlace := ["internal/reflectlite.ValueOf", "internal/reflectlite.Swapper", "(internal/reflectlite.Value).Len"], unfollowed := true, recurses := true, named := ["encoding/binary.BigEndian", "pub-kmsg/pub/kmsg/inner/kbin.ErrNotEnoughData"], loops := true, apart := false, laid := [("pub-kmsg/pub/kmsg/inner/kbin.ErrNotEnoughData", laid_pub_kmsg_pub_kmsg_inner_kbin_ErrNotEnoughData)] }
def FnCutReadShareGroupStateRequestSaid : Prop := fnCutReadShareGroupStateRequestRow.holds Tryz.pinned (OpenSpec.ofChange fnCutReadShareGroupStateRequestSpec)

/-- ITS FALSE NEIGHBOUR: 'it returns false'. Refute it at one input. -/
def fnCutReadShareGroupStateRequestWrong : ChangeSpec := { name := "fnCutReadShareGroupStateRequest", fn := fun _ => fun
  | [d1, d2, d3] => { results := [.lit (.bool false)], args := [d1, d2, d3] }
  | _ => none }
def FnCutReadShareGroupStateRequestWrongFalsely : Prop := fnCutReadShareGroupStateRequestRow.holds Tryz.pinned (OpenSpec.ofChange fnCutReadShareGroupStateRequestWrong)

/-- 'laws.FnAgainElectLeadersRequest': WHATEVER THE INPUT: true; the input reads as it did. -/
def fnAgainElectLeadersRequestSpec : ChangeSpec := { name := "fnAgainElectLeadersRequest", fn := fun _ => fun
  | [d1, d2] => { results := [.lit (.bool true)], args := [d1, d2] }
  | _ => none }
def fnAgainElectLeadersRequestRow : OpenClaim := { program := "ytapmfbenmeigpaagreatdoor", sum := "07eb07d2328bc14c7261e8879bc3f12eb7309608502c98a00df5107c0b4d0c72", func := "pub-kmsg/laws.FnAgainElectLeadersRequest", spec := "fnAgainElectLeadersRequest", inPlace := ["internal/reflectlite.ValueOf", "internal/reflectlite.Swapper", "(internal/reflectlite.Value).Len"], unfollowed := true, recurses := true, named := ["encoding/binary.BigEndian", "pub-kmsg/pub/kmsg/inner/kbin.ErrNotEnoughData"], loops := true, apart := false, laid := [("pub-kmsg/pub/kmsg/inner/kbin.ErrNotEnoughData", laid_pub_kmsg_pub_kmsg_inner_kbin_ErrNotEnoughData)] }
def FnAgainElectLeadersRequestSaid : Prop := fnAgainElectLeadersRequestRow.holds Tryz.pinned (OpenSpec.ofChange fnAgainElectLeadersRequestSpec)

/-- ITS FALSE NEIGHBOUR: 'it returns false'. Refute it at one input. -/
def fnAgainElectLeadersRequestWrong : ChangeSpec := { name := "fnAgainElectLeadersRequest", fn := fun _ => fun
  | [d1, d2] => { results := [.lit (.bool false)], args := [d1, d2] }
  | _ => none }
def FnAgainElectLeadersRequestWrongFalsely : Prop := fnAgainElectLeadersRequestRow.holds Tryz.pinned (OpenSpec.ofChange fnAgainElectLeadersRequestWrong)

/-- 'laws.FnAgainAlterUserSCRAMCredentialsResponse': WHATEVER THE INPUT: true; the input reads as it did. -/
def fnAgainAlterUserSCRAMCredentialsResponseSpec : ChangeSpec := { name := "fnAgainAlterUserSCRAMCredentialsResponse", fn := fun _ => fun
  | [d1, d2] => { results := [.lit (.bool true)], args := [d1, d2] }
  | _ => none }
def fnAgainAlterUserSCRAMCredentialsResponseRow : OpenClaim := { program := "ytapmfbenmeigpaagreatdoor", sum := "07eb07d2328bc14c7261e8879bc3f12eb7309608502c98a00df5107c0b4d0c72", func := "pub-kmsg/laws.FnAgainAlterUserSCRAMCredentialsResponse", spec := "fnAgainAlterUserSCRAMCredentialsResponse", inPlace := ["internal/reflectlite.ValueOf", "internal/reflectlite.Swapper", "(internal/reflectlite.Value).Len"], unfollowed := true, recurses := true, named := ["encoding/binary.BigEndian", "pub-kmsg/pub/kmsg/inner/kbin.ErrNotEnoughData"], loops := true, apart := false, laid := [("pub-kmsg/pub/kmsg/inner/kbin.ErrNotEnoughData", laid_pub_kmsg_pub_kmsg_inner_kbin_ErrNotEnoughData)] }
def FnAgainAlterUserSCRAMCredentialsResponseSaid : Prop := fnAgainAlterUserSCRAMCredentialsResponseRow.holds Tryz.pinned (OpenSpec.ofChange fnAgainAlterUserSCRAMCredentialsResponseSpec)

/-- ITS FALSE NEIGHBOUR: 'it returns false'. Refute it at one input. -/
def fnAgainAlterUserSCRAMCredentialsResponseWrong : ChangeSpec := { name := "fnAgainAlterUserSCRAMCredentialsResponse", fn := fun _ => fun
  | [d1, d2] => { results := [.lit (.bool false)], args := [d1, d2] }
  | _ => none }
def FnAgainAlterUserSCRAMCredentialsResponseWrongFalsely : Prop := fnAgainAlterUserSCRAMCredentialsResponseRow.holds Tryz.pinned (OpenSpec.ofChange fnAgainAlterUserSCRAMCredentialsResponseWrong)

/-- 'laws.FnCutDeleteGroupsResponse': WHATEVER THE INPUT: true; the input reads as it did. -/
def fnCutDeleteGroupsResponseSpec : ChangeSpec := { name := "fnCutDeleteGroupsResponse", fn := fun _ => fun
  | [d1, d2, d3] => { results := [.lit (.bool true)], args := [d1, d2, d3] }
  | _ => none }
def fnCutDeleteGroupsResponseRow : OpenClaim := { program := "ytapmfbenmeigpaagreatdoor", sum := "07eb07d2328bc14c7261e8879bc3f12eb7309608502c98a00df5107c0b4d0c72", func := "pub-kmsg/laws.FnCutDeleteGroupsResponse", spec := "fnCutDeleteGroupsResponse", inPlace := ["internal/reflectlite.ValueOf", "internal/reflectlite.Swapper", "(internal/reflectlite.Value).Len"], unfollowed := true, recurses := true, named := ["encoding/binary.BigEndian", "pub-kmsg/pub/kmsg/inner/kbin.ErrNotEnoughData"], loops := true, apart := false, laid := [("pub-kmsg/pub/kmsg/inner/kbin.ErrNotEnoughData", laid_pub_kmsg_pub_kmsg_inner_kbin_ErrNotEnoughData)] }
def FnCutDeleteGroupsResponseSaid : Prop := fnCutDeleteGroupsResponseRow.holds Tryz.pinned (OpenSpec.ofChange fnCutDeleteGroupsResponseSpec)

/-- ITS FALSE NEIGHBOUR: 'it returns false'. Refute it at one input. -/
def fnCutDeleteGroupsResponseWrong : ChangeSpec := { name := "fnCutDeleteGroupsResponse", fn := fun _ => fun
  | [d1, d2, d3] => { results := [.lit (.bool false)], args := [d1, d2, d3] }
  | _ => none }
def FnCutDeleteGroupsResponseWrongFalsely : Prop := fnCutDeleteGroupsResponseRow.holds Tryz.pinned (OpenSpec.ofChange fnCutDeleteGroupsResponseWrong)

/-- 'laws.FnCutAssignReplicasToDirsResponse': WHATEVER THE INPUT: true; the input reads as it did. -/
def fnCutAssignReplicasToDirsResponseSpec : ChangeSpec := { name := "fnCutAssignReplicasToDirsResponse", fn := fun _ => fun
  | [d1, d2, d3] => { results := [.lit (.bool true)], args := [d1, d2, d3] }
  | _ => none }
def fnCutAssignReplicasToDirsResponseRow : OpenClaim := { program := "ytapmfbenmeigpaagreatdoor", sum := "07eb07d2328bc14c7261e8879bc3f12eb7309608502c98a00df5107c0b4d0c72", func := "pub-kmsg/laws.FnCutAssignReplicasToDirsResponse", spec := "fnCutAssignReplicasToDirsResponse", inPlace := ["internal/reflectlite.ValueOf", "internal/reflectlite.Swapper", "(internal/reflectlite.Value).Len"], unfollowed := true, recurses := true, named := ["encoding/binary.BigEndian", "pub-kmsg/pub/kmsg/inner/kbin.ErrNotEnoughData"], loops := true, apart := false, laid := [("pub-kmsg/pub/kmsg/inner/kbin.ErrNotEnoughData", laid_pub_kmsg_pub_kmsg_inner_kbin_ErrNotEnoughData)] }
def FnCutAssignReplicasToDirsResponseSaid : Prop := fnCutAssignReplicasToDirsResponseRow.holds Tryz.pinned (OpenSpec.ofChange fnCutAssignReplicasToDirsResponseSpec)

/-- ITS FALSE NEIGHBOUR: 'it returns false'. Refute it at one input. -/
def fnCutAssignReplicasToDirsResponseWrong : ChangeSpec := { name := "fnCutAssignReplicasToDirsResponse", fn := fun _ => fun
  | [d1, d2, d3] => { results := [.lit (.bool false)], args := [d1, d2, d3] }
  | _ => none }
def FnCutAssignReplicasToDirsResponseWrongFalsely : Prop := fnCutAssignReplicasToDirsResponseRow.holds Tryz.pinned (OpenSpec.ofChange fnCutAssignReplicasToDirsResponseWrong)

/- THE SECOND FORM. 'bulk': how many values and letters a reading holds, each counted each time it is reached (what is shared counts as often as it is met; a slice's spare places count too). A statement '..UptoSaid' is the law's where the arguments, and the package variables that the reading takes, are together of bulk at most 1048576: NARROWER than '..Said'. Prove '..Said' where nothing that the law and all that it calls make is longer than what came in: it says more and counts as full. Else prove '..UptoSaid'. A law counts once. -/
mutual
def uptoBulk {H : Type} : DataW H → Nat
  | .lit (.string bytes) => bytes.length + 1
  | .lit _ => 1
  | .nil => 1
  | .ptr d => uptoBulk d + 1
  | .slice elems spare => uptoBulkAll elems + uptoBulkAll spare + 1
  | .agg parts => uptoBulkAll parts + 1
  | .iface _ d => uptoBulk d + 1
  | .map entries => uptoBulkEntries entries + 1
  | .held _ => 1
def uptoBulkAll {H : Type} : List (DataW H) → Nat
  | [] => 0
  | d :: r => uptoBulk d + uptoBulkAll r
def uptoBulkEntries {H : Type} : List (Lit × DataW H) → Nat
  | [] => 0
  | x :: r => uptoBulkEntry x + uptoBulkEntries r
def uptoBulkEntry {H : Type} : Lit × DataW H → Nat
  | (.string bytes, d) => bytes.length + uptoBulk d + 1
  | (_, d) => uptoBulk d + 1
 end
def uptoSmall : (H : Type) → List (DataW H) → Bool := fun _ ds => decide (uptoBulkAll ds ≤ 1048576)
def OpenSpec.upto (s : _root_.Go.ChangeSpec) : _root_.Go.OpenSpec := { _root_.Go.OpenSpec.ofChange s with cond := some uptoSmall }

/-- 'laws.FnAgainSASLAuthenticateResponse', WHERE WHAT IT READS IS OF BULK AT MOST 1048576: true; the input reads as it did. -/
def fnAgainSASLAuthenticateResponseUptoRow : OpenClaim := { program := "ytapmfbenmeigpaagreatdoor", sum := "07eb07d2328bc14c7261e8879bc3f12eb7309608502c98a00df5107c0b4d0c72", func := "pub-kmsg/laws.FnAgainSASLAuthenticateResponse", spec := "fnAgainSASLAuthenticateResponse", inPlace := ["internal/reflectlite.ValueOf", "internal/reflectlite.Swapper", "(internal/reflectlite.Value).Len"], unfollowed := true, recurses := true, named := ["encoding/binary.BigEndian", "pub-kmsg/pub/kmsg/inner/kbin.ErrNotEnoughData"], loops := true, apart := false, laid := [("pub-kmsg/pub/kmsg/inner/kbin.ErrNotEnoughData", laid_pub_kmsg_pub_kmsg_inner_kbin_ErrNotEnoughData)], narrowed := true }
def FnAgainSASLAuthenticateResponseUptoSaid : Prop := fnAgainSASLAuthenticateResponseUptoRow.holds Tryz.pinned (OpenSpec.upto fnAgainSASLAuthenticateResponseSpec)

/-- 'laws.FnAgainDescribeACLsRequest', WHERE WHAT IT READS IS OF BULK AT MOST 1048576: true; the input reads as it did. -/
def fnAgainDescribeACLsRequestUptoRow : OpenClaim := { program := "ytapmfbenmeigpaagreatdoor", sum := "07eb07d2328bc14c7261e8879bc3f12eb7309608502c98a00df5107c0b4d0c72", func := "pub-kmsg/laws.FnAgainDescribeACLsRequest", spec := "fnAgainDescribeACLsRequest", inPlace := ["internal/reflectlite.ValueOf", "internal/reflectlite.Swapper", "(internal/reflectlite.Value).Len"], unfollowed := true, recurses := true, named := ["encoding/binary.BigEndian", "pub-kmsg/pub/kmsg/inner/kbin.ErrNotEnoughData"], loops := true, apart := false, laid := [("pub-kmsg/pub/kmsg/inner/kbin.ErrNotEnoughData", laid_pub_kmsg_pub_kmsg_inner_kbin_ErrNotEnoughData)], narrowed := true }
def FnAgainDescribeACLsRequestUptoSaid : Prop := fnAgainDescribeACLsRequestUptoRow.holds Tryz.pinned (OpenSpec.upto fnAgainDescribeACLsRequestSpec)

/-- 'laws.FnCutReadShareGroupStateRequest', WHERE WHAT IT READS IS OF BULK AT MOST 1048576: true; the input reads as it did. -/
def fnCutReadShareGroupStateRequestUptoRow : OpenClaim := { program := "ytapmfbenmeigpaagreatdoor", sum := "07eb07d2328bc14c7261e8879bc3f12eb7309608502c98a00df5107c0b4d0c72", func := "pub-kmsg/laws.FnCutReadShareGroupStateRequest", spec := "fnCutReadShareGroupStateRequest", inPlace := ["internal/reflectlite.ValueOf", "internal/reflectlite.Swapper", "(internal/reflectlite.Value).Len"], unfollowed := true, recurses := true, named := ["encoding/binary.BigEndian", "pub-kmsg/pub/kmsg/inner/kbin.ErrNotEnoughData"], loops := true, apart := false, laid := [("pub-kmsg/pub/kmsg/inner/kbin.ErrNotEnoughData", laid_pub_kmsg_pub_kmsg_inner_kbin_ErrNotEnoughData)], narrowed := true }
def FnCutReadShareGroupStateRequestUptoSaid : Prop := fnCutReadShareGroupStateRequestUptoRow.holds Tryz.pinned (OpenSpec.upto fnCutReadShareGroupStateRequestSpec)

/-- 'laws.FnAgainElectLeadersRequest', WHERE WHAT IT READS IS OF BULK AT MOST 1048576: true; the input reads as it did. -/
def fnAgainElectLeadersRequestUptoRow : OpenClaim := { program := "ytapmfbenmeigpaagreatdoor", sum := "07eb07d2328bc14c7261e8879bc3f12eb7309608502c98a00df5107c0b4d0c72", func := "pub-kmsg/laws.FnAgainElectLeadersRequest", spec := "fnAgainElectLeadersRequest", inPlace := ["internal/reflectlite.ValueOf", "internal/reflectlite.Swapper", "(internal/reflectlite.Value).Len"], unfollowed := true, recurses := true, named := ["encoding/binary.BigEndian", "pub-kmsg/pub/kmsg/inner/kbin.ErrNotEnoughData"], loops := true, apart := false, laid := [("pub-kmsg/pub/kmsg/inner/kbin.ErrNotEnoughData", laid_pub_kmsg_pub_kmsg_inner_kbin_ErrNotEnoughData)], narrowed := true }
def FnAgainElectLeadersRequestUptoSaid : Prop := fnAgainElectLeadersRequestUptoRow.holds Tryz.pinned (OpenSpec.upto fnAgainElectLeadersRequestSpec)

/-- 'laws.FnAgainAlterUserSCRAMCredentialsResponse', WHERE WHAT IT READS IS OF BULK AT MOST 1048576: true; the input reads as it did. -/
def fnAgainAlterUserSCRAMCredentialsResponseUptoRow : OpenClaim := { program := "ytapmfbenmeigpaagreatdoor", sum := "07eb07d2328bc14c7261e8879bc3f12eb7309608502c98a00df5107c0b4d0c72", func := "pub-kmsg/laws.FnAgainAlterUserSCRAMCredentialsResponse", spec := "fnAgainAlterUserSCRAMCredentialsResponse", inPlace := ["internal/reflectlite.ValueOf", "internal/reflectlite.Swapper", "(internal/reflectlite.Value).Len"], unfollowed := true, recurses := true, named := ["encoding/binary.BigEndian", "pub-kmsg/pub/kmsg/inner/kbin.ErrNotEnoughData"], loops := true, apart := false, laid := [("pub-kmsg/pub/kmsg/inner/kbin.ErrNotEnoughData", laid_pub_kmsg_pub_kmsg_inner_kbin_ErrNotEnoughData)], narrowed := true }
def FnAgainAlterUserSCRAMCredentialsResponseUptoSaid : Prop := fnAgainAlterUserSCRAMCredentialsResponseUptoRow.holds Tryz.pinned (OpenSpec.upto fnAgainAlterUserSCRAMCredentialsResponseSpec)

/-- 'laws.FnCutDeleteGroupsResponse', WHERE WHAT IT READS IS OF BULK AT MOST 1048576: true; the input reads as it did. -/
def fnCutDeleteGroupsResponseUptoRow : OpenClaim := { program := "ytapmfbenmeigpaagreatdoor", sum := "07eb07d2328bc14c7261e8879bc3f12eb7309608502c98a00df5107c0b4d0c72", func := "pub-kmsg/laws.FnCutDeleteGroupsResponse", spec := "fnCutDeleteGroupsResponse", inPlace := ["internal/reflectlite.ValueOf", "internal/reflectlite.Swapper", "(internal/reflectlite.Value).Len"], unfollowed := true, recurses := true, named := ["encoding/binary.BigEndian", "pub-kmsg/pub/kmsg/inner/kbin.ErrNotEnoughData"], loops := true, apart := false, laid := [("pub-kmsg/pub/kmsg/inner/kbin.ErrNotEnoughData", laid_pub_kmsg_pub_kmsg_inner_kbin_ErrNotEnoughData)], narrowed := true }
def FnCutDeleteGroupsResponseUptoSaid : Prop := fnCutDeleteGroupsResponseUptoRow.holds Tryz.pinned (OpenSpec.upto fnCutDeleteGroupsResponseSpec)

/-- 'laws.FnCutAssignReplicasToDirsResponse', WHERE WHAT IT READS IS OF BULK AT MOST 1048576: true; the input reads as it did. -/
def fnCutAssignReplicasToDirsResponseUptoRow : OpenClaim := { program := "ytapmfbenmeigpaagreatdoor", sum := "07eb07d2328bc14c7261e8879bc3f12eb7309608502c98a00df5107c0b4d0c72", func := "pub-kmsg/laws.FnCutAssignReplicasToDirsResponse", spec := "fnCutAssignReplicasToDirsResponse", inPlace := ["internal/reflectlite.ValueOf", "internal/reflectlite.Swapper", "(internal/reflectlite.Value).Len"], unfollowed := true, recurses := true, named := ["encoding/binary.BigEndian", "pub-kmsg/pub/kmsg/inner/kbin.ErrNotEnoughData"], loops := true, apart := false, laid := [("pub-kmsg/pub/kmsg/inner/kbin.ErrNotEnoughData", laid_pub_kmsg_pub_kmsg_inner_kbin_ErrNotEnoughData)], narrowed := true }
def FnCutAssignReplicasToDirsResponseUptoSaid : Prop := fnCutAssignReplicasToDirsResponseUptoRow.holds Tryz.pinned (OpenSpec.upto fnCutAssignReplicasToDirsResponseSpec)

end Rows
end Go.Proofs.YtapmfbenmeigpaaGreatDoor
