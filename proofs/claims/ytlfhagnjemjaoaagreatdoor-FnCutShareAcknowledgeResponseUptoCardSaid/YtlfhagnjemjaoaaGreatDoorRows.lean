/-
  NARROWER THAN 'FOR EVERY INPUT', by the rows' own cells (each row's printed sentence says how): FnAgainDescribeLogDirsResponse: loops, laid · FnAgainListPartitionReassignmentsResponse: loops, laid · FnAgainConsumerGroupHeartbeatRequest: loops, laid · FnCutShareAcknowledgeResponse: loops, laid · FnAgainAlterClientQuotasRequest: loops, laid · FnCutMetadataResponse: loops, laid.
  DERIVED. THE GIVEN ROWS OF THIS SEAT. 6 by the template 'for every input the law returns true; each argument reads behind the call as it read before'; 0 by the template 'total and deterministic' (their statements: YtlfhagnjemjaoaaGreatDoorTotals.lean).
  GIVEN WITH THE SEED: the statements are not yours to turn. If you find one false, say at which input.
  Laid BY PROGRAM, IN A SANDBOX (cutbox-rows.mjs): the forced cells as the released guide's own fill.sh prints them over the translation 89229dc9158fc930… (all of the seat's roots in one cut). By AI agents, Wed Nov 11 2026. No macro, syntax, notation, axiom, sorry.
-/
import Derived.Test.YtlfhagnjemjaoaaGreatDoorChecked
import GoSem.Claim
import GoSem.ClaimJoined
import GoSem.ClaimMapViews
import Derived.JoinedTies
import Derived.KernelRfl
namespace Go.Proofs.YtlfhagnjemjaoaaGreatDoor
/- THE CELL 'sum', in the pinned program and in every row, IS THE sha256 OF THE DUMP (.gsa) THAT YtlfhagnjemjaoaaGreatDoorProg.lean LOADS. Nothing in Lean hashes anything: it is a label: what it is worth is what the hold of that sum in a sandbox is worth. -/
noncomputable def Tryz.pinned : Pinned := { name := "ytlfhagnjemjaoaagreatdoor", sum := "89229dc9158fc9302fb4570d433c47bdaec598e363f03cf4d5a793ceb1cf851a", checked := Tryz.checked }
namespace Rows
def none {H : Type} : Left H := { results := [], args := [] }

/- WHAT THE LISTED PACKAGE-LEVEL VARIABLES READ AS WHEN THE CALL BEGINS. Each datum BY PROGRAM (the guide's laid-datum.mjs) off the statement by which the dump's own 'gosem.cut.vars' lays the variable. In a bare row this is a premise. The card (YtlfhagnjemjaoaaGreatDoorCards.lean) ties it to the program's text. -/
def laid_pub_kmsg_pub_kmsg_inner_kbin_ErrNotEnoughData {H : Type} : DataW H := .iface "*errors.errorString" (.ptr (.agg [.lit (.string [114, 101, 115, 112, 111, 110, 115, 101, 32, 100, 105, 100, 32, 110, 111, 116, 32, 99, 111, 110, 116, 97, 105, 110, 32, 101, 110, 111, 117, 103, 104, 32, 100, 97, 116, 97, 32, 116, 111, 32, 98, 101, 32, 118, 97, 108, 105, 100])]))

/-- 'laws.FnAgainDescribeLogDirsResponse': WHATEVER THE INPUT: true; the input reads as it did. -/
def fnAgainDescribeLogDirsResponseSpec : ChangeSpec := { name := "fnAgainDescribeLogDirsResponse", fn := fun _ => fun
  | [d1, d2] => { results := [.lit (.bool true)], args := [d1, d2] }
  | _ => none }
def fnAgainDescribeLogDirsResponseRow : OpenClaim := { program := "ytlfhagnjemjaoaagreatdoor", sum := "89229dc9158fc9302fb4570d433c47bdaec598e363f03cf4d5a793ceb1cf851a", func := "pub-kmsg/laws.FnAgainDescribeLogDirsResponse", spec := "fnAgainDescribeLogDirsResponse", inPlace := ["internal/reflectlite.ValueOf", "internal/reflectlite.Swapper", "(internal/reflectlite.Value).Len"], unfollowed := true, recurses := true, named := ["encoding/binary.BigEndian", "pub-kmsg/pub/kmsg/inner/kbin.ErrNotEnoughData"], loops := true, apart := false, laid := [("pub-kmsg/pub/kmsg/inner/kbin.ErrNotEnoughData", laid_pub_kmsg_pub_kmsg_inner_kbin_ErrNotEnoughData)] }
def FnAgainDescribeLogDirsResponseSaid : Prop := fnAgainDescribeLogDirsResponseRow.holds Tryz.pinned (OpenSpec.ofChange fnAgainDescribeLogDirsResponseSpec)

/-- ITS FALSE NEIGHBOUR: 'it returns false'. Refute it at one input. -/
def fnAgainDescribeLogDirsResponseWrong : ChangeSpec := { name := "fnAgainDescribeLogDirsResponse", fn := fun _ => fun
  | [d1, d2] => { results := [.lit (.bool false)], args := [d1, d2] }
  | _ => none }
def FnAgainDescribeLogDirsResponseWrongFalsely : Prop := fnAgainDescribeLogDirsResponseRow.holds Tryz.pinned (OpenSpec.ofChange fnAgainDescribeLogDirsResponseWrong)

/-- 'laws.FnAgainListPartitionReassignmentsResponse': WHATEVER THE INPUT: true; the input reads as it did. -/
def fnAgainListPartitionReassignmentsResponseSpec : ChangeSpec := { name := "fnAgainListPartitionReassignmentsResponse", fn := fun _ => fun
  | [d1, d2] => { results := [.lit (.bool true)], args := [d1, d2] }
  | _ => none }
def fnAgainListPartitionReassignmentsResponseRow : OpenClaim := { program := "ytlfhagnjemjaoaagreatdoor", sum := "89229dc9158fc9302fb4570d433c47bdaec598e363f03cf4d5a793ceb1cf851a", func := "pub-kmsg/laws.FnAgainListPartitionReassignmentsResponse", spec := "fnAgainListPartitionReassignmentsResponse", inPlace := ["internal/reflectlite.ValueOf", "internal/reflectlite.Swapper", "(internal/reflectlite.Value).Len"], unfollowed := true, recurses := true, named := ["encoding/binary.BigEndian", "pub-kmsg/pub/kmsg/inner/kbin.ErrNotEnoughData"], loops := true, apart := false, laid := [("pub-kmsg/pub/kmsg/inner/kbin.ErrNotEnoughData", laid_pub_kmsg_pub_kmsg_inner_kbin_ErrNotEnoughData)] }
def FnAgainListPartitionReassignmentsResponseSaid : Prop := fnAgainListPartitionReassignmentsResponseRow.holds Tryz.pinned (OpenSpec.ofChange fnAgainListPartitionReassignmentsResponseSpec)

/-- ITS FALSE NEIGHBOUR: 'it returns false'. Refute it at one input. -/
def fnAgainListPartitionReassignmentsResponseWrong : ChangeSpec := { name := "fnAgainListPartitionReassignmentsResponse", fn := fun _ => fun
  | [d1, d2] => { results := [.lit (.bool false)], args := [d1, d2] }
  | _ => none }
def FnAgainListPartitionReassignmentsResponseWrongFalsely : Prop := fnAgainListPartitionReassignmentsResponseRow.holds Tryz.pinned (OpenSpec.ofChange fnAgainListPartitionReassignmentsResponseWrong)

/-- 'laws.FnAgainConsumerGroupHeartbeatRequest': WHATEVER THE INPUT: true; the input reads as it did. -/
def fnAgainConsumerGroupHeartbeatRequestSpec : ChangeSpec := { name := "fnAgainConsumerGroupHeartbeatRequest", fn := fun _ => fun
  | [d1, d2] => { results := [.lit (.bool true)], args := [d1, d2] }
  | _ => none }
def fnAgainConsumerGroupHeartbeatRequestRow : OpenClaim := { program := "ytlfhagnjemjaoaagreatdoor", sum := "89229dc9158fc9302fb4570d433c47bdaec598e363f03cf4d5a793ceb1cf851a", func := "pub-kmsg/laws.FnAgainConsumerGroupHeartbeatRequest", spec := "fnAgainConsumerGroupHeartbeatRequest", inPlace := ["internal/reflectlite.ValueOf", "internal/reflectlite.Swapper", "(internal/reflectlite.Value).Len"], unfollowed := true, recurses := true, named := ["encoding/binary.BigEndian", "pub-kmsg/pub/kmsg/inner/kbin.ErrNotEnoughData"], loops := true, apart := false, laid := [("pub-kmsg/pub/kmsg/inner/kbin.ErrNotEnoughData", laid_pub_kmsg_pub_kmsg_inner_kbin_ErrNotEnoughData)] }
def FnAgainConsumerGroupHeartbeatRequestSaid : Prop := fnAgainConsumerGroupHeartbeatRequestRow.holds Tryz.pinned (OpenSpec.ofChange fnAgainConsumerGroupHeartbeatRequestSpec)

/-- ITS FALSE NEIGHBOUR: 'it returns false'. Refute it at one input. -/
def fnAgainConsumerGroupHeartbeatRequestWrong : ChangeSpec := { name := "fnAgainConsumerGroupHeartbeatRequest", fn := fun _ => fun
  | [d1, d2] => { results := [.lit (.bool false)], args := [d1, d2] }
  | _ => none }
def FnAgainConsumerGroupHeartbeatRequestWrongFalsely : Prop := fnAgainConsumerGroupHeartbeatRequestRow.holds Tryz.pinned (OpenSpec.ofChange fnAgainConsumerGroupHeartbeatRequestWrong)

/-- 'laws.FnCutShareAcknowledgeResponse': WHATEVER THE INPUT: true; the input reads as it did. -/
def fnCutShareAcknowledgeResponseSpec : ChangeSpec := { name := "fnCutShareAcknowledgeResponse", fn := fun _ => fun
  | [d1, d2, d3] => { results := [.lit (.bool true)], args := [d1, d2, d3] }
  | _ => none }
def fnCutShareAcknowledgeResponseRow : OpenClaim := { program := "ytlfhagnjemjaoaagreatdoor", sum := "89229dc9158fc9302fb4570d433c47bdaec598e363f03cf4d5a793ceb1cf851a", func := "pub-kmsg/laws.FnCutShareAcknowledgeResponse", spec := "fnCutShareAcknowledgeResponse", inPlace := ["internal/reflectlite.ValueOf", "internal/reflectlite.Swapper", "(internal/reflectlite.Value).Len"], unfollowed := true, recurses := true, named := ["encoding/binary.BigEndian", "pub-kmsg/pub/kmsg/inner/kbin.ErrNotEnoughData"], loops := true, apart := false, laid := [("pub-kmsg/pub/kmsg/inner/kbin.ErrNotEnoughData", laid_pub_kmsg_pub_kmsg_inner_kbin_ErrNotEnoughData)] }
def FnCutShareAcknowledgeResponseSaid : Prop := fnCutShareAcknowledgeResponseRow.holds Tryz.pinned (OpenSpec.ofChange fnCutShareAcknowledgeResponseSpec)

/-- ITS FALSE NEIGHBOUR: 'it returns false'. Refute it at one input. -/
def fnCutShareAcknowledgeResponseWrong : ChangeSpec := { name := "fnCutShareAcknowledgeResponse", fn := fun _ => fun
  | [d1, d2, d3] => { results := [.lit (.bool false)], args := [d1, d2, d3] }
  | _ => none }
def FnCutShareAcknowledgeResponseWrongFalsely : Prop := fnCutShareAcknowledgeResponseRow.holds Tryz.pinned (OpenSpec.ofChange fnCutShareAcknowledgeResponseWrong)

/-- 'laws.FnAgainAlterClientQuotasRequest': WHATEVER THE INPUT: true; the input reads as it did. -/
def fnAgainAlterClientQuotasRequestSpec : ChangeSpec := { name := "fnAgainAlterClientQuotasRequest", fn := fun _ => fun
  | [d1, d2] => { results := [.lit (.bool true)], args := [d1, d2] }
  | _ => none }
def fnAgainAlterClientQuotasRequestRow : OpenClaim := { program := "ytlfhagnjemjaoaagreatdoor", sum := "89229dc9158fc9302fb4570d433c47bdaec598e363f03cf4d5a793ceb1cf851a", func := "pub-kmsg/laws.FnAgainAlterClientQuotasRequest", spec := "fnAgainAlterClientQuotasRequest", inPlace := ["math.Float64frombits", "internal/reflectlite.ValueOf", "internal/reflectlite.Swapper", "(internal/reflectlite.Value).Len", "math.Float64bits"], unfollowed := true, recurses := true, named := ["encoding/binary.BigEndian", "pub-kmsg/pub/kmsg/inner/kbin.ErrNotEnoughData"], loops := true, apart := false, laid := [("pub-kmsg/pub/kmsg/inner/kbin.ErrNotEnoughData", laid_pub_kmsg_pub_kmsg_inner_kbin_ErrNotEnoughData)] }
def FnAgainAlterClientQuotasRequestSaid : Prop := fnAgainAlterClientQuotasRequestRow.holds Tryz.pinned (OpenSpec.ofChange fnAgainAlterClientQuotasRequestSpec)

/-- ITS FALSE NEIGHBOUR: 'it returns false'. Refute it at one input. -/
def fnAgainAlterClientQuotasRequestWrong : ChangeSpec := { name := "fnAgainAlterClientQuotasRequest", fn := fun _ => fun
  | [d1, d2] => { results := [.lit (.bool false)], args := [d1, d2] }
  | _ => none }
def FnAgainAlterClientQuotasRequestWrongFalsely : Prop := fnAgainAlterClientQuotasRequestRow.holds Tryz.pinned (OpenSpec.ofChange fnAgainAlterClientQuotasRequestWrong)

/-- 'laws.FnCutMetadataResponse': WHATEVER THE INPUT: true; the input reads as it did. -/
def fnCutMetadataResponseSpec : ChangeSpec := { name := "fnCutMetadataResponse", fn := fun _ => fun
  | [d1, d2, d3] => { results := [.lit (.bool true)], args := [d1, d2, d3] }
  | _ => none }
def fnCutMetadataResponseRow : OpenClaim := { program := "ytlfhagnjemjaoaagreatdoor", sum := "89229dc9158fc9302fb4570d433c47bdaec598e363f03cf4d5a793ceb1cf851a", func := "pub-kmsg/laws.FnCutMetadataResponse", spec := "fnCutMetadataResponse", inPlace := ["internal/reflectlite.ValueOf", "internal/reflectlite.Swapper", "(internal/reflectlite.Value).Len"], unfollowed := true, recurses := true, named := ["encoding/binary.BigEndian", "pub-kmsg/pub/kmsg/inner/kbin.ErrNotEnoughData"], loops := true, apart := false, laid := [("pub-kmsg/pub/kmsg/inner/kbin.ErrNotEnoughData", laid_pub_kmsg_pub_kmsg_inner_kbin_ErrNotEnoughData)] }
def FnCutMetadataResponseSaid : Prop := fnCutMetadataResponseRow.holds Tryz.pinned (OpenSpec.ofChange fnCutMetadataResponseSpec)

/-- ITS FALSE NEIGHBOUR: 'it returns false'. Refute it at one input. -/
def fnCutMetadataResponseWrong : ChangeSpec := { name := "fnCutMetadataResponse", fn := fun _ => fun
  | [d1, d2, d3] => { results := [.lit (.bool false)], args := [d1, d2, d3] }
  | _ => none }
def FnCutMetadataResponseWrongFalsely : Prop := fnCutMetadataResponseRow.holds Tryz.pinned (OpenSpec.ofChange fnCutMetadataResponseWrong)

/- THE SECOND FORM. 'bulk': how many values and letters a reading holds, each counted each time it is reached (what is shared counts as often as it is met; a slice's spare places count too). A statement '..UptoSaid' is the law's where the arguments, and the package variables that the reading takes, are together of bulk at most 1048576: NARROWER than '..Said'. Prove '..Said' where nothing that the law and all that it calls make is longer than what came in: it says more and counts as full. Else prove '..UptoSaid'. A law counts once. -/
mutual
def uptoBulk {H : Type} : DataW H → Nat
  | .lit (.string bytes) => bytes.length + 1
  | .lit _ => 1
  | .nil => 1
  | .ptr d => uptoBulk d + 1
  | .slice elems spare => uptoBulkAll elems + uptoBulkAll spare + 1
  | .agg parts => uptoBulkAll parts + 1
  | .iface _ d => uptoBulk d + 1
  | .map entries => uptoBulkEntries entries + 1
  | .held _ => 1
def uptoBulkAll {H : Type} : List (DataW H) → Nat
  | [] => 0
  | d :: r => uptoBulk d + uptoBulkAll r
def uptoBulkEntries {H : Type} : List (Lit × DataW H) → Nat
  | [] => 0
  | x :: r => uptoBulkEntry x + uptoBulkEntries r
def uptoBulkEntry {H : Type} : Lit × DataW H → Nat
  | (.string bytes, d) => bytes.length + uptoBulk d + 1
  | (_, d) => uptoBulk d + 1
 end
def uptoSmall : (H : Type) → List (DataW H) → Bool := fun _ ds => decide (uptoBulkAll ds ≤ 1048576)
def OpenSpec.upto (s : _root_.Go.ChangeSpec) : _root_.Go.OpenSpec := { _root_.Go.OpenSpec.ofChange s with cond := some uptoSmall }

/-- 'laws.FnAgainDescribeLogDirsResponse', WHERE WHAT IT READS IS OF BULK AT MOST 1048576: true; the input reads as it did. -/
def fnAgainDescribeLogDirsResponseUptoRow : OpenClaim := { program := "ytlfhagnjemjaoaagreatdoor", sum := "89229dc9158fc9302fb4570d433c47bdaec598e363f03cf4d5a793ceb1cf851a", func := "pub-kmsg/laws.FnAgainDescribeLogDirsResponse", spec := "fnAgainDescribeLogDirsResponse", inPlace := ["internal/reflectlite.ValueOf", "internal/reflectlite.Swapper", "(internal/reflectlite.Value).Len"], unfollowed := true, recurses := true, named := ["encoding/binary.BigEndian", "pub-kmsg/pub/kmsg/inner/kbin.ErrNotEnoughData"], loops := true, apart := false, laid := [("pub-kmsg/pub/kmsg/inner/kbin.ErrNotEnoughData", laid_pub_kmsg_pub_kmsg_inner_kbin_ErrNotEnoughData)], narrowed := true }
def FnAgainDescribeLogDirsResponseUptoSaid : Prop := fnAgainDescribeLogDirsResponseUptoRow.holds Tryz.pinned (OpenSpec.upto fnAgainDescribeLogDirsResponseSpec)

/-- 'laws.FnAgainListPartitionReassignmentsResponse', WHERE WHAT IT READS IS OF BULK AT MOST 1048576: true; the input reads as it did. -/
def fnAgainListPartitionReassignmentsResponseUptoRow : OpenClaim := { program := "ytlfhagnjemjaoaagreatdoor", sum := "89229dc9158fc9302fb4570d433c47bdaec598e363f03cf4d5a793ceb1cf851a", func := "pub-kmsg/laws.FnAgainListPartitionReassignmentsResponse", spec := "fnAgainListPartitionReassignmentsResponse", inPlace := ["internal/reflectlite.ValueOf", "internal/reflectlite.Swapper", "(internal/reflectlite.Value).Len"], unfollowed := true, recurses := true, named := ["encoding/binary.BigEndian", "pub-kmsg/pub/kmsg/inner/kbin.ErrNotEnoughData"], loops := true, apart := false, laid := [("pub-kmsg/pub/kmsg/inner/kbin.ErrNotEnoughData", laid_pub_kmsg_pub_kmsg_inner_kbin_ErrNotEnoughData)], narrowed := true }
def FnAgainListPartitionReassignmentsResponseUptoSaid : Prop := fnAgainListPartitionReassignmentsResponseUptoRow.holds Tryz.pinned (OpenSpec.upto fnAgainListPartitionReassignmentsResponseSpec)

/-- 'laws.FnAgainConsumerGroupHeartbeatRequest', WHERE WHAT IT READS IS OF BULK AT MOST 1048576: true; the input reads as it did. -/
def fnAgainConsumerGroupHeartbeatRequestUptoRow : OpenClaim := { program := "ytlfhagnjemjaoaagreatdoor", sum := "89229dc9158fc9302fb4570d433c47bdaec598e363f03cf4d5a793ceb1cf851a", func := "pub-kmsg/laws.FnAgainConsumerGroupHeartbeatRequest", spec := "fnAgainConsumerGroupHeartbeatRequest", inPlace := ["internal/reflectlite.ValueOf", "internal/reflectlite.Swapper", "(internal/reflectlite.Value).Len"], unfollowed := true, recurses := true, named := ["encoding/binary.BigEndian", "pub-kmsg/pub/kmsg/inner/kbin.ErrNotEnoughData"], loops := true, apart := false, laid := [("pub-kmsg/pub/kmsg/inner/kbin.ErrNotEnoughData", laid_pub_kmsg_pub_kmsg_inner_kbin_ErrNotEnoughData)], narrowed := true }
def FnAgainConsumerGroupHeartbeatRequestUptoSaid : Prop := fnAgainConsumerGroupHeartbeatRequestUptoRow.holds Tryz.pinned (OpenSpec.upto fnAgainConsumerGroupHeartbeatRequestSpec)

/-- 'laws.FnCutShareAcknowledgeResponse', WHERE WHAT IT READS IS OF BULK AT MOST 1048576: true; the input reads as it did. -/
def fnCutShareAcknowledgeResponseUptoRow : OpenClaim := { program := "ytlfhagnjemjaoaagreatdoor", sum := "89229dc9158fc9302fb4570d433c47bdaec598e363f03cf4d5a793ceb1cf851a", func := "pub-kmsg/laws.FnCutShareAcknowledgeResponse", spec := "fnCutShareAcknowledgeResponse", inPlace := ["internal/reflectlite.ValueOf", "internal/reflectlite.Swapper", "(internal/reflectlite.Value).Len"], unfollowed := true, recurses := true, named := ["encoding/binary.BigEndian", "pub-kmsg/pub/kmsg/inner/kbin.ErrNotEnoughData"], loops := true, apart := false, laid := [("pub-kmsg/pub/kmsg/inner/kbin.ErrNotEnoughData", laid_pub_kmsg_pub_kmsg_inner_kbin_ErrNotEnoughData)], narrowed := true }
def FnCutShareAcknowledgeResponseUptoSaid : Prop := fnCutShareAcknowledgeResponseUptoRow.holds Tryz.pinned (OpenSpec.upto fnCutShareAcknowledgeResponseSpec)

/-- 'laws.FnAgainAlterClientQuotasRequest', WHERE WHAT IT READS IS OF BULK AT MOST 1048576: true; the input reads as it did. -/
def fnAgainAlterClientQuotasRequestUptoRow : OpenClaim := { program := "ytlfhagnjemjaoaagreatdoor", sum := "89229dc9158fc9302fb4570d433c47bdaec598e363f03cf4d5a793ceb1cf851a", func := "pub-kmsg/laws.FnAgainAlterClientQuotasRequest", spec := "fnAgainAlterClientQuotasRequest", inPlace := ["math.Float64frombits", "internal/reflectlite.ValueOf", "internal/reflectlite.Swapper", "(internal/reflectlite.Value).Len", "math.Float64bits"], unfollowed := true, recurses := true, named := ["encoding/binary.BigEndian", "pub-kmsg/pub/kmsg/inner/kbin.ErrNotEnoughData"], loops := true, apart := false, laid := [("pub-kmsg/pub/kmsg/inner/kbin.ErrNotEnoughData", laid_pub_kmsg_pub_kmsg_inner_kbin_ErrNotEnoughData)], narrowed := true }
def FnAgainAlterClientQuotasRequestUptoSaid : Prop := fnAgainAlterClientQuotasRequestUptoRow.holds Tryz.pinned (OpenSpec.upto fnAgainAlterClientQuotasRequestSpec)

/-- 'laws.FnCutMetadataResponse', WHERE WHAT IT READS IS OF BULK AT MOST 1048576: true; the input reads as it did. -/
def fnCutMetadataResponseUptoRow : OpenClaim := { program := "ytlfhagnjemjaoaagreatdoor", sum := "89229dc9158fc9302fb4570d433c47bdaec598e363f03cf4d5a793ceb1cf851a", func := "pub-kmsg/laws.FnCutMetadataResponse", spec := "fnCutMetadataResponse", inPlace := ["internal/reflectlite.ValueOf", "internal/reflectlite.Swapper", "(internal/reflectlite.Value).Len"], unfollowed := true, recurses := true, named := ["encoding/binary.BigEndian", "pub-kmsg/pub/kmsg/inner/kbin.ErrNotEnoughData"], loops := true, apart := false, laid := [("pub-kmsg/pub/kmsg/inner/kbin.ErrNotEnoughData", laid_pub_kmsg_pub_kmsg_inner_kbin_ErrNotEnoughData)], narrowed := true }
def FnCutMetadataResponseUptoSaid : Prop := fnCutMetadataResponseUptoRow.holds Tryz.pinned (OpenSpec.upto fnCutMetadataResponseSpec)

end Rows
end Go.Proofs.YtlfhagnjemjaoaaGreatDoor
