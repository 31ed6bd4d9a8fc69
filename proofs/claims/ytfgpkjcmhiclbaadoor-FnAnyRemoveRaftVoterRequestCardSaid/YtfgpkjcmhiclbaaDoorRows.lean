/-
  NARROWER THAN 'FOR EVERY INPUT', by the rows' own cells (each row's printed sentence says how): FnAnyShareGroupDescribeResponse: laid · FnCutUpdateMetadataResponse: loops, laid · FnCutDescribeClusterRequest: loops, laid · FnAnyBrokerHeartbeatResponse: laid · FnAnyExpireDelegationTokenRequest: laid · FnAnyRemoveRaftVoterRequest: laid.
  DERIVED. THE GIVEN ROWS OF THIS SEAT. 6 by the template 'for every input the law returns true; each argument reads behind the call as it read before'; 0 by the template 'total and deterministic' (their statements: YtfgpkjcmhiclbaaDoorTotals.lean).
  GIVEN WITH THE SEED: the statements are not yours to turn. If you find one false, say at which input.
  Laid BY PROGRAM, IN A SANDBOX (cutbox-rows.mjs): the forced cells as the released guide's own fill.sh prints them over the translation e470b76ccb59a1af… (all of the seat's roots in one cut). By AI agents, Wed Nov 11 2026. No macro, syntax, notation, axiom, sorry.
-/
import Derived.Test.YtfgpkjcmhiclbaaDoorChecked
import GoSem.Claim
import GoSem.ClaimJoined
import GoSem.ClaimMapViews
import Derived.JoinedTies
import Derived.KernelRfl
namespace Go.Proofs.YtfgpkjcmhiclbaaDoor
/- THE CELL 'sum', in the pinned program and in every row, IS THE sha256 OF THE DUMP (.gsa) THAT YtfgpkjcmhiclbaaDoorProg.lean LOADS. Nothing in Lean hashes anything: it is a label: what it is worth is what the hold of that sum in a sandbox is worth. -/
noncomputable def Tryd.pinned : Pinned := { name := "ytfgpkjcmhiclbaadoor", sum := "e470b76ccb59a1af12436d46ded5d5beb69e641f44d14957199803ded67f3e72", checked := Tryd.checked }
namespace Rows
def none {H : Type} : Left H := { results := [], args := [] }

/- WHAT THE LISTED PACKAGE-LEVEL VARIABLES READ AS WHEN THE CALL BEGINS. Each datum BY PROGRAM (the guide's laid-datum.mjs) off the statement by which the dump's own 'gosem.cut.vars' lays the variable. In a bare row this is a premise. The card (YtfgpkjcmhiclbaaDoorCards.lean) ties it to the program's text. -/
def laid_pub_kmsg_pub_kmsg_inner_kbin_ErrNotEnoughData {H : Type} : DataW H := .iface "*errors.errorString" (.ptr (.agg [.lit (.string [114, 101, 115, 112, 111, 110, 115, 101, 32, 100, 105, 100, 32, 110, 111, 116, 32, 99, 111, 110, 116, 97, 105, 110, 32, 101, 110, 111, 117, 103, 104, 32, 100, 97, 116, 97, 32, 116, 111, 32, 98, 101, 32, 118, 97, 108, 105, 100])]))

/-- 'laws.FnAnyShareGroupDescribeResponse': WHATEVER THE INPUT: true; the input reads as it did. -/
def fnAnyShareGroupDescribeResponseSpec : ChangeSpec := { name := "fnAnyShareGroupDescribeResponse", fn := fun _ => fun
  | [d1, d2] => { results := [.lit (.bool true)], args := [d1, d2] }
  | _ => none }
def fnAnyShareGroupDescribeResponseRow : OpenClaim := { program := "ytfgpkjcmhiclbaadoor", sum := "e470b76ccb59a1af12436d46ded5d5beb69e641f44d14957199803ded67f3e72", func := "pub-kmsg/laws.FnAnyShareGroupDescribeResponse", spec := "fnAnyShareGroupDescribeResponse", inPlace := ["internal/reflectlite.ValueOf", "internal/reflectlite.Swapper", "(internal/reflectlite.Value).Len"], unfollowed := true, recurses := true, named := ["encoding/binary.BigEndian", "pub-kmsg/pub/kmsg/inner/kbin.ErrNotEnoughData"], apart := false, laid := [("pub-kmsg/pub/kmsg/inner/kbin.ErrNotEnoughData", laid_pub_kmsg_pub_kmsg_inner_kbin_ErrNotEnoughData)] }
def FnAnyShareGroupDescribeResponseSaid : Prop := fnAnyShareGroupDescribeResponseRow.holds Tryd.pinned (OpenSpec.ofChange fnAnyShareGroupDescribeResponseSpec)

/-- ITS FALSE NEIGHBOUR: 'it returns false'. Refute it at one input. -/
def fnAnyShareGroupDescribeResponseWrong : ChangeSpec := { name := "fnAnyShareGroupDescribeResponse", fn := fun _ => fun
  | [d1, d2] => { results := [.lit (.bool false)], args := [d1, d2] }
  | _ => none }
def FnAnyShareGroupDescribeResponseWrongFalsely : Prop := fnAnyShareGroupDescribeResponseRow.holds Tryd.pinned (OpenSpec.ofChange fnAnyShareGroupDescribeResponseWrong)

/-- 'laws.FnCutUpdateMetadataResponse': WHATEVER THE INPUT: true; the input reads as it did. -/
def fnCutUpdateMetadataResponseSpec : ChangeSpec := { name := "fnCutUpdateMetadataResponse", fn := fun _ => fun
  | [d1, d2, d3] => { results := [.lit (.bool true)], args := [d1, d2, d3] }
  | _ => none }
def fnCutUpdateMetadataResponseRow : OpenClaim := { program := "ytfgpkjcmhiclbaadoor", sum := "e470b76ccb59a1af12436d46ded5d5beb69e641f44d14957199803ded67f3e72", func := "pub-kmsg/laws.FnCutUpdateMetadataResponse", spec := "fnCutUpdateMetadataResponse", inPlace := ["internal/reflectlite.ValueOf", "internal/reflectlite.Swapper", "(internal/reflectlite.Value).Len"], unfollowed := true, recurses := true, named := ["encoding/binary.BigEndian", "pub-kmsg/pub/kmsg/inner/kbin.ErrNotEnoughData"], loops := true, apart := false, laid := [("pub-kmsg/pub/kmsg/inner/kbin.ErrNotEnoughData", laid_pub_kmsg_pub_kmsg_inner_kbin_ErrNotEnoughData)] }
def FnCutUpdateMetadataResponseSaid : Prop := fnCutUpdateMetadataResponseRow.holds Tryd.pinned (OpenSpec.ofChange fnCutUpdateMetadataResponseSpec)

/-- ITS FALSE NEIGHBOUR: 'it returns false'. Refute it at one input. -/
def fnCutUpdateMetadataResponseWrong : ChangeSpec := { name := "fnCutUpdateMetadataResponse", fn := fun _ => fun
  | [d1, d2, d3] => { results := [.lit (.bool false)], args := [d1, d2, d3] }
  | _ => none }
def FnCutUpdateMetadataResponseWrongFalsely : Prop := fnCutUpdateMetadataResponseRow.holds Tryd.pinned (OpenSpec.ofChange fnCutUpdateMetadataResponseWrong)

/-- 'laws.FnCutDescribeClusterRequest': WHATEVER THE INPUT: true; the input reads as it did. -/
def fnCutDescribeClusterRequestSpec : ChangeSpec := { name := "fnCutDescribeClusterRequest", fn := fun _ => fun
  | [d1, d2, d3] => { results := [.lit (.bool true)], args := [d1, d2, d3] }
  | _ => none }
def fnCutDescribeClusterRequestRow : OpenClaim := { program := "ytfgpkjcmhiclbaadoor", sum := "e470b76ccb59a1af12436d46ded5d5beb69e641f44d14957199803ded67f3e72", func := "pub-kmsg/laws.FnCutDescribeClusterRequest", spec := "fnCutDescribeClusterRequest", inPlace := ["internal/reflectlite.ValueOf", "internal/reflectlite.Swapper", "(internal/reflectlite.Value).Len"], unfollowed := true, recurses := true, named := ["pub-kmsg/pub/kmsg/inner/kbin.ErrNotEnoughData"], loops := true, apart := false, laid := [("pub-kmsg/pub/kmsg/inner/kbin.ErrNotEnoughData", laid_pub_kmsg_pub_kmsg_inner_kbin_ErrNotEnoughData)] }
def FnCutDescribeClusterRequestSaid : Prop := fnCutDescribeClusterRequestRow.holds Tryd.pinned (OpenSpec.ofChange fnCutDescribeClusterRequestSpec)

/-- ITS FALSE NEIGHBOUR: 'it returns false'. Refute it at one input. -/
def fnCutDescribeClusterRequestWrong : ChangeSpec := { name := "fnCutDescribeClusterRequest", fn := fun _ => fun
  | [d1, d2, d3] => { results := [.lit (.bool false)], args := [d1, d2, d3] }
  | _ => none }
def FnCutDescribeClusterRequestWrongFalsely : Prop := fnCutDescribeClusterRequestRow.holds Tryd.pinned (OpenSpec.ofChange fnCutDescribeClusterRequestWrong)

/-- 'laws.FnAnyBrokerHeartbeatResponse': WHATEVER THE INPUT: true; the input reads as it did. -/
def fnAnyBrokerHeartbeatResponseSpec : ChangeSpec := { name := "fnAnyBrokerHeartbeatResponse", fn := fun _ => fun
  | [d1, d2] => { results := [.lit (.bool true)], args := [d1, d2] }
  | _ => none }
def fnAnyBrokerHeartbeatResponseRow : OpenClaim := { program := "ytfgpkjcmhiclbaadoor", sum := "e470b76ccb59a1af12436d46ded5d5beb69e641f44d14957199803ded67f3e72", func := "pub-kmsg/laws.FnAnyBrokerHeartbeatResponse", spec := "fnAnyBrokerHeartbeatResponse", inPlace := ["internal/reflectlite.ValueOf", "internal/reflectlite.Swapper", "(internal/reflectlite.Value).Len"], unfollowed := true, recurses := true, named := ["encoding/binary.BigEndian", "pub-kmsg/pub/kmsg/inner/kbin.ErrNotEnoughData"], apart := false, laid := [("pub-kmsg/pub/kmsg/inner/kbin.ErrNotEnoughData", laid_pub_kmsg_pub_kmsg_inner_kbin_ErrNotEnoughData)] }
def FnAnyBrokerHeartbeatResponseSaid : Prop := fnAnyBrokerHeartbeatResponseRow.holds Tryd.pinned (OpenSpec.ofChange fnAnyBrokerHeartbeatResponseSpec)

/-- ITS FALSE NEIGHBOUR: 'it returns false'. Refute it at one input. -/
def fnAnyBrokerHeartbeatResponseWrong : ChangeSpec := { name := "fnAnyBrokerHeartbeatResponse", fn := fun _ => fun
  | [d1, d2] => { results := [.lit (.bool false)], args := [d1, d2] }
  | _ => none }
def FnAnyBrokerHeartbeatResponseWrongFalsely : Prop := fnAnyBrokerHeartbeatResponseRow.holds Tryd.pinned (OpenSpec.ofChange fnAnyBrokerHeartbeatResponseWrong)

/-- 'laws.FnAnyExpireDelegationTokenRequest': WHATEVER THE INPUT: true; the input reads as it did. -/
def fnAnyExpireDelegationTokenRequestSpec : ChangeSpec := { name := "fnAnyExpireDelegationTokenRequest", fn := fun _ => fun
  | [d1, d2] => { results := [.lit (.bool true)], args := [d1, d2] }
  | _ => none }
def fnAnyExpireDelegationTokenRequestRow : OpenClaim := { program := "ytfgpkjcmhiclbaadoor", sum := "e470b76ccb59a1af12436d46ded5d5beb69e641f44d14957199803ded67f3e72", func := "pub-kmsg/laws.FnAnyExpireDelegationTokenRequest", spec := "fnAnyExpireDelegationTokenRequest", inPlace := ["internal/reflectlite.ValueOf", "internal/reflectlite.Swapper", "(internal/reflectlite.Value).Len"], unfollowed := true, recurses := true, named := ["encoding/binary.BigEndian", "pub-kmsg/pub/kmsg/inner/kbin.ErrNotEnoughData"], apart := false, laid := [("pub-kmsg/pub/kmsg/inner/kbin.ErrNotEnoughData", laid_pub_kmsg_pub_kmsg_inner_kbin_ErrNotEnoughData)] }
def FnAnyExpireDelegationTokenRequestSaid : Prop := fnAnyExpireDelegationTokenRequestRow.holds Tryd.pinned (OpenSpec.ofChange fnAnyExpireDelegationTokenRequestSpec)

/-- ITS FALSE NEIGHBOUR: 'it returns false'. Refute it at one input. -/
def fnAnyExpireDelegationTokenRequestWrong : ChangeSpec := { name := "fnAnyExpireDelegationTokenRequest", fn := fun _ => fun
  | [d1, d2] => { results := [.lit (.bool false)], args := [d1, d2] }
  | _ => none }
def FnAnyExpireDelegationTokenRequestWrongFalsely : Prop := fnAnyExpireDelegationTokenRequestRow.holds Tryd.pinned (OpenSpec.ofChange fnAnyExpireDelegationTokenRequestWrong)

/-- 'laws.FnAnyRemoveRaftVoterRequest': WHATEVER THE INPUT: true; the input reads as it did. -/
def fnAnyRemoveRaftVoterRequestSpec : ChangeSpec := { name := "fnAnyRemoveRaftVoterRequest", fn := fun _ => fun
  | [d1, d2] => { results := [.lit (.bool true)], args := [d1, d2] }
  | _ => none }
def fnAnyRemoveRaftVoterRequestRow : OpenClaim := { program := "ytfgpkjcmhiclbaadoor", sum := "e470b76ccb59a1af12436d46ded5d5beb69e641f44d14957199803ded67f3e72", func := "pub-kmsg/laws.FnAnyRemoveRaftVoterRequest", spec := "fnAnyRemoveRaftVoterRequest", inPlace := ["internal/reflectlite.ValueOf", "internal/reflectlite.Swapper", "(internal/reflectlite.Value).Len"], unfollowed := true, recurses := true, named := ["encoding/binary.BigEndian", "pub-kmsg/pub/kmsg/inner/kbin.ErrNotEnoughData"], apart := false, laid := [("pub-kmsg/pub/kmsg/inner/kbin.ErrNotEnoughData", laid_pub_kmsg_pub_kmsg_inner_kbin_ErrNotEnoughData)] }
def FnAnyRemoveRaftVoterRequestSaid : Prop := fnAnyRemoveRaftVoterRequestRow.holds Tryd.pinned (OpenSpec.ofChange fnAnyRemoveRaftVoterRequestSpec)

/-- ITS FALSE NEIGHBOUR: 'it returns false'. Refute it at one input. -/
def fnAnyRemoveRaftVoterRequestWrong : ChangeSpec := { name := "fnAnyRemoveRaftVoterRequest", fn := fun _ => fun
  | [d1, d2] => { results := [.lit (.bool false)], args := [d1, d2] }
  | _ => none }
def FnAnyRemoveRaftVoterRequestWrongFalsely : Prop := fnAnyRemoveRaftVoterRequestRow.holds Tryd.pinned (OpenSpec.ofChange fnAnyRemoveRaftVoterRequestWrong)

/- THE SECOND FORM. 'bulk': how many values and letters a reading holds, each counted each time it is reached (what is shared counts as often as it is met; a slice's spare places count too). A statement '..UptoSaid' is the law's where the arguments, and the package variables that the reading takes, are together of bulk at most 1048576: NARROWER than '..Said'. Prove '..Said' where nothing that the law and all that it calls make is longer than what came in: it says more and counts as full. Else prove '..UptoSaid'. A law counts once. -/
mutual
def uptoBulk {H : Type} : DataW H → Nat
  | .lit (.string bytes) => bytes.length + 1
  | .lit _ => 1
  | .nil => 1
  | .ptr d => uptoBulk d + 1
  | .slice elems spare => uptoBulkAll elems + uptoBulkAll spare + 1
  | .agg parts => uptoBulkAll parts + 1
  | .iface _ d => uptoBulk d + 1
  | .map entries => uptoBulkEntries entries + 1
  | .held _ => 1
def uptoBulkAll {H : Type} : List (DataW H) → Nat
  | [] => 0
  | d :: r => uptoBulk d + uptoBulkAll r
def uptoBulkEntries {H : Type} : List (Lit × DataW H) → Nat
  | [] => 0
  | x :: r => uptoBulkEntry x + uptoBulkEntries r
def uptoBulkEntry {H : Type} : Lit × DataW H → Nat
  | (.string bytes, d) => bytes.length + uptoBulk d + 1
  | (_, d) => uptoBulk d + 1
 end
def uptoSmall : (H : Type) → List (DataW H) → Bool := fun _ ds => decide (uptoBulkAll ds ≤ 1048576)
def OpenSpec.upto (s : _root_.Go.ChangeSpec) : _root_.Go.OpenSpec := { _root_.Go.OpenSpec.ofChange s with cond := some uptoSmall }

/-- 'laws.FnAnyShareGroupDescribeResponse', WHERE WHAT IT READS IS OF BULK AT MOST 1048576: true; the input reads as it did. -/
def fnAnyShareGroupDescribeResponseUptoRow : OpenClaim := { program := "ytfgpkjcmhiclbaadoor", sum := "e470b76ccb59a1af12436d46ded5d5beb69e641f44d14957199803ded67f3e72", func := "pub-kmsg/laws.FnAnyShareGroupDescribeResponse", spec := "fnAnyShareGroupDescribeResponse", inPlace := ["internal/reflectlite.ValueOf", "internal/reflectlite.Swapper", "(internal/reflectlite.Value).Len"], unfollowed := true, recurses := true, named := ["encoding/binary.BigEndian", "pub-kmsg/pub/kmsg/inner/kbin.ErrNotEnoughData"], apart := false, laid := [("pub-kmsg/pub/kmsg/inner/kbin.ErrNotEnoughData", laid_pub_kmsg_pub_kmsg_inner_kbin_ErrNotEnoughData)], narrowed := true }
def FnAnyShareGroupDescribeResponseUptoSaid : Prop := fnAnyShareGroupDescribeResponseUptoRow.holds Tryd.pinned (OpenSpec.upto fnAnyShareGroupDescribeResponseSpec)

/-- 'laws.FnCutUpdateMetadataResponse', WHERE WHAT IT READS IS OF BULK AT MOST 1048576: true; the input reads as it did. -/
def fnCutUpdateMetadataResponseUptoRow : OpenClaim := { program := "ytfgpkjcmhiclbaadoor", sum := "e470b76ccb59a1af12436d46ded5d5beb69e641f44d14957199803ded67f3e72", func := "pub-kmsg/laws.FnCutUpdateMetadataResponse", spec := "fnCutUpdateMetadataResponse", inPlace := ["internal/reflectlite.ValueOf", "internal/reflectlite.Swapper", "(internal/reflectlite.Value).Len"], unfollowed := true, recurses := true, named := ["encoding/binary.BigEndian", "pub-kmsg/pub/kmsg/inner/kbin.ErrNotEnoughData"], loops := true, apart := false, laid := [("pub-kmsg/pub/kmsg/inner/kbin.ErrNotEnoughData", laid_pub_kmsg_pub_kmsg_inner_kbin_ErrNotEnoughData)], narrowed := true }
def FnCutUpdateMetadataResponseUptoSaid : Prop := fnCutUpdateMetadataResponseUptoRow.holds Tryd.pinned (OpenSpec.upto fnCutUpdateMetadataResponseSpec)

/-- 'laws.FnCutDescribeClusterRequest', WHERE WHAT IT READS IS OF BULK AT MOST 1048576: true; the input reads as it did. -/
def fnCutDescribeClusterRequestUptoRow : OpenClaim := { program := "ytfgpkjcmhiclbaadoor", sum := "e470b76ccb59a1af12436d46ded5d5beb69e641f44d14957199803ded67f3e72", func := "pub-kmsg/laws.FnCutDescribeClusterRequest", spec := "fnCutDescribeClusterRequest", inPlace := ["internal/reflectlite.ValueOf", "internal/reflectlite.Swapper", "(internal/reflectlite.Value).Len"], unfollowed := true, recurses := true, named := ["pub-kmsg/pub/kmsg/inner/kbin.ErrNotEnoughData"], loops := true, apart := false, laid := [("pub-kmsg/pub/kmsg/inner/kbin.ErrNotEnoughData", laid_pub_kmsg_pub_kmsg_inner_kbin_ErrNotEnoughData)], narrowed := true }
def FnCutDescribeClusterRequestUptoSaid : Prop := fnCutDescribeClusterRequestUptoRow.holds Tryd.pinned (OpenSpec.upto fnCutDescribeClusterRequestSpec)

/-- 'laws.FnAnyBrokerHeartbeatResponse', WHERE WHAT IT READS IS OF BULK AT MOST 1048576: true; the input reads as it did. -/
def fnAnyBrokerHeartbeatResponseUptoRow : OpenClaim := { program := "ytfgpkjcmhiclbaadoor", sum := "e470b76ccb59a1af12436d46ded5d5beb69e641f44d14957199803ded67f3e72", func := "pub-kmsg/laws.FnAnyBrokerHeartbeatResponse", spec := "fnAnyBrokerHeartbeatResponse", inPlace := ["internal/reflectlite.ValueOf", "internal/reflectlite.Swapper", "(internal/reflectlite.Value).Len"], unfollowed := true, recurses := true, named := ["encoding/binary.BigEndian", "pub-kmsg/pub/kmsg/inner/kbin.ErrNotEnoughData"], apart := false, laid := [("pub-kmsg/pub/kmsg/inner/kbin.ErrNotEnoughData", laid_pub_kmsg_pub_kmsg_inner_kbin_ErrNotEnoughData)], narrowed := true }
def FnAnyBrokerHeartbeatResponseUptoSaid : Prop := fnAnyBrokerHeartbeatResponseUptoRow.holds Tryd.pinned (OpenSpec.upto fnAnyBrokerHeartbeatResponseSpec)

/-- 'laws.FnAnyExpireDelegationTokenRequest', WHERE WHAT IT READS IS OF BULK AT MOST 1048576: true; the input reads as it did. -/
def fnAnyExpireDelegationTokenRequestUptoRow : OpenClaim := { program := "ytfgpkjcmhiclbaadoor", sum := "e470b76ccb59a1af12436d46ded5d5beb69e641f44d14957199803ded67f3e72", func := "pub-kmsg/laws.FnAnyExpireDelegationTokenRequest", spec := "fnAnyExpireDelegationTokenRequest", inPlace := ["internal/reflectlite.ValueOf", "internal/reflectlite.Swapper", "(internal/reflectlite.Value).Len"], unfollowed := true, recurses := true, named := ["encoding/binary.BigEndian", "pub-kmsg/pub/kmsg/inner/kbin.ErrNotEnoughData"], apart := false, laid := [("pub-kmsg/pub/kmsg/inner/kbin.ErrNotEnoughData", laid_pub_kmsg_pub_kmsg_inner_kbin_ErrNotEnoughData)], narrowed := true }
def FnAnyExpireDelegationTokenRequestUptoSaid : Prop := fnAnyExpireDelegationTokenRequestUptoRow.holds Tryd.pinned (OpenSpec.upto fnAnyExpireDelegationTokenRequestSpec)

/-- 'laws.FnAnyRemoveRaftVoterRequest', WHERE WHAT IT READS IS OF BULK AT MOST 1048576: true; the input reads as it did. -/
def fnAnyRemoveRaftVoterRequestUptoRow : OpenClaim := { program := "ytfgpkjcmhiclbaadoor", sum := "e470b76ccb59a1af12436d46ded5d5beb69e641f44d14957199803ded67f3e72", func := "pub-kmsg/laws.FnAnyRemoveRaftVoterRequest", spec := "fnAnyRemoveRaftVoterRequest", inPlace := ["internal/reflectlite.ValueOf", "internal/reflectlite.Swapper", "(internal/reflectlite.Value).Len"], unfollowed := true, recurses := true, named := ["encoding/binary.BigEndian", "pub-kmsg/pub/kmsg/inner/kbin.ErrNotEnoughData"], apart := false, laid := [("pub-kmsg/pub/kmsg/inner/kbin.ErrNotEnoughData", laid_pub_kmsg_pub_kmsg_inner_kbin_ErrNotEnoughData)], narrowed := true }
def FnAnyRemoveRaftVoterRequestUptoSaid : Prop := fnAnyRemoveRaftVoterRequestUptoRow.holds Tryd.pinned (OpenSpec.upto fnAnyRemoveRaftVoterRequestSpec)

end Rows
end Go.Proofs.YtfgpkjcmhiclbaaDoor
