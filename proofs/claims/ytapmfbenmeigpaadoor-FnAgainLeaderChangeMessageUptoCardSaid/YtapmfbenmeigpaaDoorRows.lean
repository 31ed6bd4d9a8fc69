/-
  NARROWER THAN 'FOR EVERY INPUT', by the rows' own cells (each row's printed sentence says how): FnAnyDescribeDelegationTokenRequest: laid · FnAnyListGroupsRequest: laid · FnAgainLeaderChangeMessage: loops, laid · FnAnyAlterReplicaLogDirsRequest: laid · FnAnyBrokerHeartbeatResponse: laid.
  DERIVED. THE GIVEN ROWS OF THIS SEAT. 5 by the template 'for every input the law returns true; each argument reads behind the call as it read before'; 0 by the template 'total and deterministic' (their statements: YtapmfbenmeigpaaDoorTotals.lean).
  GIVEN WITH THE SEED: the statements are not yours to turn. If you find one false, say at which input.
  Laid BY PROGRAM, IN A SANDBOX (cutbox-rows.mjs): the forced cells as the released guide's own fill.sh prints them over the translation 6831ef2ef978f451… (all of the seat's roots in one cut). By AI agents, Wed Nov 11 2026. No macro, syntax, notation, axiom, sorry.
-/
import Derived.Test.YtapmfbenmeigpaaDoorChecked
import GoSem.Claim
import GoSem.ClaimJoined
import GoSem.ClaimMapViews
import Derived.JoinedTies
import Derived.KernelRfl
namespace Go.Proofs.YtapmfbenmeigpaaDoor
/- THE CELL 'sum', in the pinned program and in every row, IS THE sha256 OF THE DUMP (.gsa) THAT YtapmfbenmeigpaaDoorProg.lean LOADS. Nothing in Lean hashes anything: it is a label: what it is worth is what the hold of that sum in a sandbox is worth. -/
noncomputable def Tryd.pinned : Pinned := { name := "ytapmfbenmeigpaadoor", sum := "6831ef2ef978f451182390ac47287ddd8597c7f8b7137fa1334a5036fa312d79", checked := Tryd.checked }
namespace Rows
def none {H : Type} : Left H := { results := [], args := [] }

/- WHAT THE LISTED PACKAGE-LEVEL VARIABLES READ AS WHEN THE CALL BEGINS. Each datum BY PROGRAM (the guide's laid-datum.mjs) off the statement by which the dump's own 'gosem.cut.vars' lays the variable. In a bare row this is a premise. The card (YtapmfbenmeigpaaDoorCards.lean) ties it to the program's text. -/
def laid_pub_kmsg_pub_kmsg_inner_kbin_ErrNotEnoughData {H : Type} : DataW H := .iface "*errors.errorString" (.ptr (.agg [.lit (.string [114, 101, 115, 112, 111, 110, 115, 101, 32, 100, 105, 100, 32, 110, 111, 116, 32, 99, 111, 110, 116, 97, 105, 110, 32, 101, 110, 111, 117, 103, 104, 32, 100, 97, 116, 97, 32, 116, 111, 32, 98, 101, 32, 118, 97, 108, 105, 100])]))

/-- 'laws.FnAnyDescribeDelegationTokenRequest': WHATEVER THE INPUT: true; the input reads as it did. -/
def fnAnyDescribeDelegationTokenRequestSpec : ChangeSpec := { name := "fnAnyDescribeDelegationTokenRequest", fn := fun _ => fun
  | [d1, d2] => { results := [.lit (.bool true)], args := [d1, d2] }
  | _ => none }
def fnAnyDescribeDelegationTokenRequestRow : OpenClaim := { program := "ytapmfbenmeigpaadoor", sum := "6831ef2ef978f451182390ac47287ddd8597c7f8b7137fa1334a5036fa312d79", func := "pub-kmsg/laws.FnAnyDescribeDelegationTokenRequest", spec := "fnAnyDescribeDelegationTokenRequest", inPlace := ["internal/reflectlite.ValueOf", "internal/reflectlite.Swapper", "(internal/reflectlite.Value).Len"], unfollowed := true, recurses := true, named := ["encoding/binary.BigEndian", "pub-kmsg/pub/kmsg/inner/kbin.ErrNotEnoughData"], apart := false, laid := [("pub-kmsg/pub/kmsg/inner/kbin.ErrNotEnoughData", laid_pub_kmsg_pub_kmsg_inner_kbin_ErrNotEnoughData)] }
def FnAnyDescribeDelegationTokenRequestSaid : Prop := fnAnyDescribeDelegationTokenRequestRow.holds Tryd.pinned (OpenSpec.ofChange fnAnyDescribeDelegationTokenRequestSpec)

/-- ITS FALSE NEIGHBOUR: 'it returns false'. Refute it at one input. -/
def fnAnyDescribeDelegationTokenRequestWrong : ChangeSpec := { name := "fnAnyDescribeDelegationTokenRequest", fn := fun _ => fun
  | [d1, d2] => { results := [.lit (.bool false)], args := [d1, d2] }
  | _ => none }
def FnAnyDescribeDelegationTokenRequestWrongFalsely : Prop := fnAnyDescribeDelegationTokenRequestRow.holds Tryd.pinned (OpenSpec.ofChange fnAnyDescribeDelegationTokenRequestWrong)

/-- 'laws.FnAnyListGroupsRequest': WHATEVER THE INPUT: true; the input reads as it did. -/
def fnAnyListGroupsRequestSpec : ChangeSpec := { name := "fnAnyListGroupsRequest", fn := fun _ => fun
  | [d1, d2] => { results := [.lit (.bool true)], args := [d1, d2] }
  | _ => none }
def fnAnyListGroupsRequestRow : OpenClaim := { program := "ytapmfbenmeigpaadoor", sum := "6831ef2ef978f451182390ac47287ddd8597c7f8b7137fa1334a5036fa312d79", func := "pub-kmsg/laws.FnAnyListGroupsRequest", spec := "fnAnyListGroupsRequest", inPlace := ["internal/reflectlite.ValueOf", "internal/reflectlite.Swapper", "(internal/reflectlite.Value).Len"], unfollowed := true, recurses := true, named := ["encoding/binary.BigEndian", "pub-kmsg/pub/kmsg/inner/kbin.ErrNotEnoughData"], apart := false, laid := [("pub-kmsg/pub/kmsg/inner/kbin.ErrNotEnoughData", laid_pub_kmsg_pub_kmsg_inner_kbin_ErrNotEnoughData)] }
def FnAnyListGroupsRequestSaid : Prop := fnAnyListGroupsRequestRow.holds Tryd.pinned (OpenSpec.ofChange fnAnyListGroupsRequestSpec)

/-- ITS FALSE NEIGHBOUR: 'it returns false'. Refute it at one input. -/
def fnAnyListGroupsRequestWrong : ChangeSpec := { name := "fnAnyListGroupsRequest", fn := fun _ => fun
  | [d1, d2] => { results := [.lit (.bool false)], args := [d1, d2] }
  | _ => none }
def FnAnyListGroupsRequestWrongFalsely : Prop := fnAnyListGroupsRequestRow.holds Tryd.pinned (OpenSpec.ofChange fnAnyListGroupsRequestWrong)

/-- 'laws.FnAgainLeaderChangeMessage': WHATEVER THE INPUT: true; the input reads as it did. -/
def fnAgainLeaderChangeMessageSpec : ChangeSpec := { name := "fnAgainLeaderChangeMessage", fn := fun _ => fun
  | [d1, d2] => { results := [.lit (.bool true)], args := [d1, d2] }
  | _ => none }
def fnAgainLeaderChangeMessageRow : OpenClaim := { program := "ytapmfbenmeigpaadoor", sum := "6831ef2ef978f451182390ac47287ddd8597c7f8b7137fa1334a5036fa312d79", func := "pub-kmsg/laws.FnAgainLeaderChangeMessage", spec := "fnAgainLeaderChangeMessage", inPlace := ["internal/reflectlite.ValueOf", "internal/reflectlite.Swapper", "(internal/reflectlite.Value).Len"], unfollowed := true, recurses := true, named := ["encoding/binary.BigEndian", "pub-kmsg/pub/kmsg/inner/kbin.ErrNotEnoughData"], loops := true, apart := false, laid := [("pub-kmsg/pub/kmsg/inner/kbin.ErrNotEnoughData", laid_pub_kmsg_pub_kmsg_inner_kbin_ErrNotEnoughData)] }
def FnAgainLeaderChangeMessageSaid : Prop := fnAgainLeaderChangeMessageRow.holds Tryd.pinned (OpenSpec.ofChange fnAgainLeaderChangeMessageSpec)

/-- ITS FALSE NEIGHBOUR: 'it returns false'. Refute it at one input. -/
def fnAgainLeaderChangeMessageWrong : ChangeSpec := { name := "fnAgainLeaderChangeMessage", fn := fun _ => fun
  | [d1, d2] => { results := [.lit (.bool false)], args := [d1, d2] }
  | _ => none }
def FnAgainLeaderChangeMessageWrongFalsely : Prop := fnAgainLeaderChangeMessageRow.holds Tryd.pinned (OpenSpec.ofChange fnAgainLeaderChangeMessageWrong)

/-- 'laws.FnAnyAlterReplicaLogDirsRequest': WHATEVER THE INPUT: true; the input reads as it did. -/
def fnAnyAlterReplicaLogDirsRequestSpec : ChangeSpec := { name := "fnAnyAlterReplicaLogDirsRequest", fn := fun _ => fun
  | [d1, d2] => { results := [.lit (.bool true)], args := [d1, d2] }
  | _ => none }
def fnAnyAlterReplicaLogDirsRequestRow : OpenClaim := { program := "ytapmfbenmeigpaadoor", sum := "6831ef2ef978f451182390ac47287ddd8597c7f8b7137fa1334a5036fa312d79", func := "pub-kmsg/laws.FnAnyAlterReplicaLogDirsRequest", spec := "fnAnyAlterReplicaLogDirsRequest", inPlace := ["internal/reflectlite.ValueOf", "internal/reflectlite.Swapper", "(internal/reflectlite.Value).Len"], unfollowed := true, recurses := true, named := ["encoding/binary.BigEndian", "pub-kmsg/pub/kmsg/inner/kbin.ErrNotEnoughData"], apart := false, laid := [("pub-kmsg/pub/kmsg/inner/kbin.ErrNotEnoughData", laid_pub_kmsg_pub_kmsg_inner_kbin_ErrNotEnoughData)] }
def FnAnyAlterReplicaLogDirsRequestSaid : Prop := fnAnyAlterReplicaLogDirsRequestRow.holds Tryd.pinned (OpenSpec.ofChange fnAnyAlterReplicaLogDirsRequestSpec)

/-- ITS FALSE NEIGHBOUR: 'it returns false'. Refute it at one input. -/
def fnAnyAlterReplicaLogDirsRequestWrong : ChangeSpec := { name := "fnAnyAlterReplicaLogDirsRequest", fn := fun _ => fun
  | [d1, d2] => { results := [.lit (.bool false)], args := [d1, d2] }
  | _ => none }
def FnAnyAlterReplicaLogDirsRequestWrongFalsely : Prop := fnAnyAlterReplicaLogDirsRequestRow.holds Tryd.pinned (OpenSpec.ofChange fnAnyAlterReplicaLogDirsRequestWrong)

/-- 'laws.FnAnyBrokerHeartbeatResponse': WHATEVER THE INPUT: true; the input reads as it did. -/
def fnAnyBrokerHeartbeatResponseSpec : ChangeSpec := { name := "fnAnyBrokerHeartbeatResponse", fn := fun _ => fun
  | [d1, d2] => { results := [.lit (.bool true)], args := [d1, d2] }
  | _ => none }
def fnAnyBrokerHeartbeatResponseRow : OpenClaim := { program := "ytapmfbenmeigpaadoor", sum := "6831ef2ef978f451182390ac47287ddd8597c7f8b7137fa1334a5036fa312d79", func := "pub-kmsg/laws.FnAnyBrokerHeartbeatResponse", spec := "fnAnyBrokerHeartbeatResponse", inPlace := ["internal/reflectlite.ValueOf", "internal/reflectlite.Swapper", "(internal/reflectlite.Value).Len"], unfollowed := true, recurses := true, named := ["encoding/binary.BigEndian", "pub-kmsg/pub/kmsg/inner/kbin.ErrNotEnoughData"], apart := false, laid := [("pub-kmsg/pub/kmsg/inner/kbin.ErrNotEnoughData", laid_pub_kmsg_pub_kmsg_inner_kbin_ErrNotEnoughData)] }
def FnAnyBrokerHeartbeatResponseSaid : Prop := fnAnyBrokerHeartbeatResponseRow.holds Tryd.pinned (OpenSpec.ofChange fnAnyBrokerHeartbeatResponseSpec)

/-- ITS FALSE NEIGHBOUR: 'it returns false'. Refute it at one input. -/
def fnAnyBrokerHeartbeatResponseWrong : ChangeSpec := { name := "fnAnyBrokerHeartbeatResponse", fn := fun _ => fun
  | [d1, d2] => { results := [.lit (.bool false)], args := [d1, d2] }
  | _ => none }
def FnAnyBrokerHeartbeatResponseWrongFalsely : Prop := fnAnyBrokerHeartbeatResponseRow.holds Tryd.pinned (OpenSpec.ofChange fnAnyBrokerHeartbeatResponseWrong)

/- THE SECOND FORM. 'bulk': how many values and letters a reading holds, each counted each time it is reached (what is shared counts as often as it is met; a slice's spare places count too). A statement '..UptoSaid' is the law's where the arguments, and the package variables that the reading takes, are together of bulk at most 1048576: NARROWER than '..Said'. Prove '..Said' where nothing that the law and all that it calls make is longer than what came in: it says more and counts as full. Else prove '..UptoSaid'. A law counts once. -/
mutual
def uptoBulk {H : Type} : DataW H → Nat
  | .lit (.string bytes) => bytes.length + 1
  | .lit _ => 1
  | .nil => 1
  | .ptr d => uptoBulk d + 1
  | .slice elems spare => uptoBulkAll elems + uptoBulkAll spare + 1
  | .agg parts => uptoBulkAll parts + 1
  | .iface _ d => uptoBulk d + 1
  | .map entries => uptoBulkEntries entries + 1
  | .held _ => 1
def uptoBulkAll {H : Type} : List (DataW H) → Nat
  | [] => 0
  | d :: r => uptoBulk d + uptoBulkAll r
def uptoBulkEntries {H : Type} : List (Lit × DataW H) → Nat
  | [] => 0
  | x :: r => uptoBulkEntry x + uptoBulkEntries r
def uptoBulkEntry {H : Type} : Lit × DataW H → Nat
  | (.string bytes, d) => bytes.length + uptoBulk d + 1
  | (_, d) => uptoBulk d + 1
 end
def uptoSmall : (H : Type) → List (DataW H) → Bool := fun _ ds => decide (uptoBulkAll ds ≤ 1048576)
def OpenSpec.upto (s : _root_.Go.ChangeSpec) : _root_.Go.OpenSpec := { _root_.Go.OpenSpec.ofChange s with cond := some uptoSmall }

/-- 'laws.FnAnyDescribeDelegationTokenRequest', WHERE WHAT IT READS IS OF BULK AT MOST 1048576: true; the input reads as it did. -/
def fnAnyDescribeDelegationTokenRequestUptoRow : OpenClaim := { program := "ytapmfbenmeigpaadoor", sum := "6831ef2ef978f451182390ac47287ddd8597c7f8b7137fa1334a5036fa312d79", func := "pub-kmsg/laws.FnAnyDescribeDelegationTokenRequest", spec := "fnAnyDescribeDelegationTokenRequest", inPlace := ["internal/reflectlite.ValueOf", "internal/reflectlite.Swapper", "(internal/reflectlite.Value).Len"], unfollowed := true, recurses := true, named := ["encoding/binary.BigEndian", "pub-kmsg/pub/kmsg/inner/kbin.ErrNotEnoughData"], apart := false, laid := [("pub-kmsg/pub/kmsg/inner/kbin.ErrNotEnoughData", laid_pub_kmsg_pub_kmsg_inner_kbin_ErrNotEnoughData)], narrowed := true }
def FnAnyDescribeDelegationTokenRequestUptoSaid : Prop := fnAnyDescribeDelegationTokenRequestUptoRow.holds Tryd.pinned (OpenSpec.upto fnAnyDescribeDelegationTokenRequestSpec)

/-- 'laws.FnAnyListGroupsRequest', WHERE WHAT IT READS IS OF BULK AT MOST 1048576: true; the input reads as it did. -/
def fnAnyListGroupsRequestUptoRow : OpenClaim := { program := "ytapmfbenmeigpaadoor", sum := "6831ef2ef978f451182390ac47287ddd8597c7f8b7137fa1334a5036fa312d79", func := "pub-kmsg/laws.FnAnyListGroupsRequest", spec := "fnAnyListGroupsRequest", inPlace := ["internal/reflectlite.ValueOf", "internal/reflectlite.Swapper", "(internal/reflectlite.Value).Len"], unfollowed := true, recurses := true, named := ["encoding/binary.BigEndian", "pub-kmsg/pub/kmsg/inner/kbin.ErrNotEnoughData"], apart := false, laid := [("pub-kmsg/pub/kmsg/inner/kbin.ErrNotEnoughData", laid_pub_kmsg_pub_kmsg_inner_kbin_ErrNotEnoughData)], narrowed := true }
def FnAnyListGroupsRequestUptoSaid : Prop := fnAnyListGroupsRequestUptoRow.holds Tryd.pinned (OpenSpec.upto fnAnyListGroupsRequestSpec)

/-- 'laws.FnAgainLeaderChangeMessage', WHERE WHAT IT READS IS OF BULK AT MOST 1048576: true; the input reads as it did. -/
def fnAgainLeaderChangeMessageUptoRow : OpenClaim := { program := "ytapmfbenmeigpaadoor", sum := "6831ef2ef978f451182390ac47287ddd8597c7f8b7137fa1334a5036fa312d79", func := "pub-kmsg/laws.FnAgainLeaderChangeMessage", spec := "fnAgainLeaderChangeMessage", inPlace := ["internal/reflectlite.ValueOf", "internal/reflectlite.Swapper", "(internal/reflectlite.Value).Len"], unfollowed := true, recurses := true, named := ["encoding/binary.BigEndian", "pub-kmsg/pub/kmsg/inner/kbin.ErrNotEnoughData"], loops := true, apart := false, laid := [("pub-kmsg/pub/kmsg/inner/kbin.ErrNotEnoughData", laid_pub_kmsg_pub_kmsg_inner_kbin_ErrNotEnoughData)], narrowed := true }
def FnAgainLeaderChangeMessageUptoSaid : Prop := fnAgainLeaderChangeMessageUptoRow.holds Tryd.pinned (OpenSpec.upto fnAgainLeaderChangeMessageSpec)

/-- 'laws.FnAnyAlterReplicaLogDirsRequest', WHERE WHAT IT READS IS OF BULK AT MOST 1048576: true; the input reads as it did. -/
def fnAnyAlterReplicaLogDirsRequestUptoRow : OpenClaim := { program := "ytapmfbenmeigpaadoor", sum := "6831ef2ef978f451182390ac47287ddd8597c7f8b7137fa1334a5036fa312d79", func := "pub-kmsg/laws.FnAnyAlterReplicaLogDirsRequest", spec := "fnAnyAlterReplicaLogDirsRequest", inPlace := ["internal/reflectlite.ValueOf", "internal/reflectlite.Swapper", "(internal/reflectlite.Value).Len"], unfollowed := true, recurses := true, named := ["encoding/binary.BigEndian", "pub-kmsg/pub/kmsg/inner/kbin.ErrNotEnoughData"], apart := false, laid := [("pub-kmsg/pub/kmsg/inner/kbin.ErrNotEnoughData", laid_pub_kmsg_pub_kmsg_inner_kbin_ErrNotEnoughData)], narrowed := true }
def FnAnyAlterReplicaLogDirsRequestUptoSaid : Prop := fnAnyAlterReplicaLogDirsRequestUptoRow.holds Tryd.pinned (OpenSpec.upto fnAnyAlterReplicaLogDirsRequestSpec)

/-- 'laws.FnAnyBrokerHeartbeatResponse', WHERE WHAT IT READS IS OF BULK AT MOST 1048576: true; the input reads as it did. -/
def fnAnyBrokerHeartbeatResponseUptoRow : OpenClaim := { program := "ytapmfbenmeigpaadoor", sum := "6831ef2ef978f451182390ac47287ddd8597c7f8b7137fa1334a5036fa312d79", func := "pub-kmsg/laws.FnAnyBrokerHeartbeatResponse", spec := "fnAnyBrokerHeartbeatResponse", inPlace := ["internal/reflectlite.ValueOf", "internal/reflectlite.Swapper", "(internal/reflectlite.Value).Len"], unfollowed := true, recurses := true, named := ["encoding/binary.BigEndian", "pub-kmsg/pub/kmsg/inner/kbin.ErrNotEnoughData"], apart := false, laid := [("pub-kmsg/pub/kmsg/inner/kbin.ErrNotEnoughData", laid_pub_kmsg_pub_kmsg_inner_kbin_ErrNotEnoughData)], narrowed := true }
def FnAnyBrokerHeartbeatResponseUptoSaid : Prop := fnAnyBrokerHeartbeatResponseUptoRow.holds Tryd.pinned (OpenSpec.upto fnAnyBrokerHeartbeatResponseSpec)

end Rows
end Go.Proofs.YtapmfbenmeigpaaDoor
