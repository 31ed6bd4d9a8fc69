/-
  No cell of these rows narrows 'for every input' (looked for: loops, veiled, ifaces, maps, wideKeys, modest, calm, conditions, laid).
  DERIVED. THE GIVEN ROWS OF THIS SEAT. 12 by the template 'for every input the law returns true; each argument reads behind the call as it read before'; 0 by the template 'total and deterministic' (their statements: YtgijjjnbakdbgaaTotals.lean).
  GIVEN WITH THE SEED: the statements are not yours to turn. If you find one false, say at which input.
  Laid BY PROGRAM, IN A SANDBOX (cutbox-rows.mjs): the forced cells as the released guide's own fill.sh prints them over the translation d2f4391a9128c66d… (all of the seat's roots in one cut). By AI agents, Wed Nov 11 2026. No macro, syntax, notation, axiom, sorry.
-/
import Derived.Test.YtgijjjnbakdbgaaChecked
import GoSem.Claim
import GoSem.ClaimJoined
import GoSem.ClaimMapViews
import Derived.JoinedTies
import Derived.KernelRfl
namespace Go.Proofs.Ytgijjjnbakdbgaa
/- THE CELL 'sum', in the pinned program and in every row, IS THE sha256 OF THE DUMP (.gsa) THAT YtgijjjnbakdbgaaProg.lean LOADS. Nothing in Lean hashes anything: it is a label: what it is worth is what the hold of that sum in a sandbox is worth. -/
noncomputable def Try.pinned : Pinned := { name := "ytgijjjnbakdbgaa", sum := "d2f4391a9128c66d7fb6a4bdcfbd418c8a55ff7d1df19598aecd2652f60af8c4", checked := Try.checked }
namespace Rows
def none {H : Type} : Left H := { results := [], args := [] }

/-- 'laws.FnNewAddOffsetsToTxnRequest': WHATEVER THE INPUT: true; the input reads as it did. -/
def fnNewAddOffsetsToTxnRequestSpec : ChangeSpec := { name := "fnNewAddOffsetsToTxnRequest", fn := fun _ => fun
  | [d] => { results := [.lit (.bool true)], args := [d] }
  | _ => none }
def fnNewAddOffsetsToTxnRequestRow : OpenClaim := { program := "ytgijjjnbakdbgaa", sum := "d2f4391a9128c66d7fb6a4bdcfbd418c8a55ff7d1df19598aecd2652f60af8c4", func := "pub-kmsg/laws.FnNewAddOffsetsToTxnRequest", spec := "fnNewAddOffsetsToTxnRequest", inPlace := ["internal/reflectlite.ValueOf", "internal/reflectlite.Swapper", "(internal/reflectlite.Value).Len"], unfollowed := true, recurses := true, apart := false }
def FnNewAddOffsetsToTxnRequestSaid : Prop := fnNewAddOffsetsToTxnRequestRow.holds Try.pinned (OpenSpec.ofChange fnNewAddOffsetsToTxnRequestSpec)

/-- ITS FALSE NEIGHBOUR: 'it returns false'. Refute it at one input. -/
def fnNewAddOffsetsToTxnRequestWrong : ChangeSpec := { name := "fnNewAddOffsetsToTxnRequest", fn := fun _ => fun
  | [d] => { results := [.lit (.bool false)], args := [d] }
  | _ => none }
def FnNewAddOffsetsToTxnRequestWrongFalsely : Prop := fnNewAddOffsetsToTxnRequestRow.holds Try.pinned (OpenSpec.ofChange fnNewAddOffsetsToTxnRequestWrong)

/-- 'laws.FnNewControllerRegistrationResponse': WHATEVER THE INPUT: true; the input reads as it did. -/
def fnNewControllerRegistrationResponseSpec : ChangeSpec := { name := "fnNewControllerRegistrationResponse", fn := fun _ => fun
  | [d] => { results := [.lit (.bool true)], args := [d] }
  | _ => none }
def fnNewControllerRegistrationResponseRow : OpenClaim := { program := "ytgijjjnbakdbgaa", sum := "d2f4391a9128c66d7fb6a4bdcfbd418c8a55ff7d1df19598aecd2652f60af8c4", func := "pub-kmsg/laws.FnNewControllerRegistrationResponse", spec := "fnNewControllerRegistrationResponse", inPlace := ["internal/reflectlite.ValueOf", "internal/reflectlite.Swapper", "(internal/reflectlite.Value).Len"], unfollowed := true, recurses := true, apart := false }
def FnNewControllerRegistrationResponseSaid : Prop := fnNewControllerRegistrationResponseRow.holds Try.pinned (OpenSpec.ofChange fnNewControllerRegistrationResponseSpec)

/-- ITS FALSE NEIGHBOUR: 'it returns false'. Refute it at one input. -/
def fnNewControllerRegistrationResponseWrong : ChangeSpec := { name := "fnNewControllerRegistrationResponse", fn := fun _ => fun
  | [d] => { results := [.lit (.bool false)], args := [d] }
  | _ => none }
def FnNewControllerRegistrationResponseWrongFalsely : Prop := fnNewControllerRegistrationResponseRow.holds Try.pinned (OpenSpec.ofChange fnNewControllerRegistrationResponseWrong)

/-- 'laws.FnNewStreamsGroupTopologyDescriptionUpdateResponse': WHATEVER THE INPUT: true; the input reads as it did. -/
def fnNewStreamsGroupTopologyDescriptionUpdateResponseSpec : ChangeSpec := { name := "fnNewStreamsGroupTopologyDescriptionUpdateResponse", fn := fun _ => fun
  | [d] => { results := [.lit (.bool true)], args := [d] }
  | _ => none }
def fnNewStreamsGroupTopologyDescriptionUpdateResponseRow : OpenClaim := { program := "ytgijjjnbakdbgaa", sum := "d2f4391a9128c66d7fb6a4bdcfbd418c8a55ff7d1df19598aecd2652f60af8c4", func := "pub-kmsg/laws.FnNewStreamsGroupTopologyDescriptionUpdateResponse", spec := "fnNewStreamsGroupTopologyDescriptionUpdateResponse", inPlace := ["internal/reflectlite.ValueOf", "internal/reflectlite.Swapper", "(internal/reflectlite.Value).Len"], unfollowed := true, recurses := true, apart := false }
def FnNewStreamsGroupTopologyDescriptionUpdateResponseSaid : Prop := fnNewStreamsGroupTopologyDescriptionUpdateResponseRow.holds Try.pinned (OpenSpec.ofChange fnNewStreamsGroupTopologyDescriptionUpdateResponseSpec)

/-- ITS FALSE NEIGHBOUR: 'it returns false'. Refute it at one input. -/
def fnNewStreamsGroupTopologyDescriptionUpdateResponseWrong : ChangeSpec := { name := "fnNewStreamsGroupTopologyDescriptionUpdateResponse", fn := fun _ => fun
  | [d] => { results := [.lit (.bool false)], args := [d] }
  | _ => none }
def FnNewStreamsGroupTopologyDescriptionUpdateResponseWrongFalsely : Prop := fnNewStreamsGroupTopologyDescriptionUpdateResponseRow.holds Try.pinned (OpenSpec.ofChange fnNewStreamsGroupTopologyDescriptionUpdateResponseWrong)

/-- 'laws.FnNewHeartbeatRequest': WHATEVER THE INPUT: true; the input reads as it did. -/
def fnNewHeartbeatRequestSpec : ChangeSpec := { name := "fnNewHeartbeatRequest", fn := fun _ => fun
  | [d] => { results := [.lit (.bool true)], args := [d] }
  | _ => none }
def fnNewHeartbeatRequestRow : OpenClaim := { program := "ytgijjjnbakdbgaa", sum := "d2f4391a9128c66d7fb6a4bdcfbd418c8a55ff7d1df19598aecd2652f60af8c4", func := "pub-kmsg/laws.FnNewHeartbeatRequest", spec := "fnNewHeartbeatRequest", inPlace := ["internal/reflectlite.ValueOf", "internal/reflectlite.Swapper", "(internal/reflectlite.Value).Len"], unfollowed := true, recurses := true, apart := false }
def FnNewHeartbeatRequestSaid : Prop := fnNewHeartbeatRequestRow.holds Try.pinned (OpenSpec.ofChange fnNewHeartbeatRequestSpec)

/-- ITS FALSE NEIGHBOUR: 'it returns false'. Refute it at one input. -/
def fnNewHeartbeatRequestWrong : ChangeSpec := { name := "fnNewHeartbeatRequest", fn := fun _ => fun
  | [d] => { results := [.lit (.bool false)], args := [d] }
  | _ => none }
def FnNewHeartbeatRequestWrongFalsely : Prop := fnNewHeartbeatRequestRow.holds Try.pinned (OpenSpec.ofChange fnNewHeartbeatRequestWrong)

/-- 'laws.FnNewLeaveGroupResponse': WHATEVER THE INPUT: true; the input reads as it did. -/
def fnNewLeaveGroupResponseSpec : ChangeSpec := { name := "fnNewLeaveGroupResponse", fn := fun _ => fun
  | [d] => { results := [.lit (.bool true)], args := [d] }
  | _ => none }
def fnNewLeaveGroupResponseRow : OpenClaim := { program := "ytgijjjnbakdbgaa", sum := "d2f4391a9128c66d7fb6a4bdcfbd418c8a55ff7d1df19598aecd2652f60af8c4", func := "pub-kmsg/laws.FnNewLeaveGroupResponse", spec := "fnNewLeaveGroupResponse", inPlace := ["internal/reflectlite.ValueOf", "internal/reflectlite.Swapper", "(internal/reflectlite.Value).Len"], unfollowed := true, recurses := true, apart := false }
def FnNewLeaveGroupResponseSaid : Prop := fnNewLeaveGroupResponseRow.holds Try.pinned (OpenSpec.ofChange fnNewLeaveGroupResponseSpec)

/-- ITS FALSE NEIGHBOUR: 'it returns false'. Refute it at one input. -/
def fnNewLeaveGroupResponseWrong : ChangeSpec := { name := "fnNewLeaveGroupResponse", fn := fun _ => fun
  | [d] => { results := [.lit (.bool false)], args := [d] }
  | _ => none }
def FnNewLeaveGroupResponseWrongFalsely : Prop := fnNewLeaveGroupResponseRow.holds Try.pinned (OpenSpec.ofChange fnNewLeaveGroupResponseWrong)

/-- 'laws.FnNewDeleteRecordsRequest': WHATEVER THE INPUT: true; the input reads as it did. -/
def fnNewDeleteRecordsRequestSpec : ChangeSpec := { name := "fnNewDeleteRecordsRequest", fn := fun _ => fun
  | [d] => { results := [.lit (.bool true)], args := [d] }
  | _ => none }
def fnNewDeleteRecordsRequestRow : OpenClaim := { program := "ytgijjjnbakdbgaa", sum := "d2f4391a9128c66d7fb6a4bdcfbd418c8a55ff7d1df19598aecd2652f60af8c4", func := "pub-kmsg/laws.FnNewDeleteRecordsRequest", spec := "fnNewDeleteRecordsRequest", inPlace := ["internal/reflectlite.ValueOf", "internal/reflectlite.Swapper", "(internal/reflectlite.Value).Len"], unfollowed := true, recurses := true, apart := false }
def FnNewDeleteRecordsRequestSaid : Prop := fnNewDeleteRecordsRequestRow.holds Try.pinned (OpenSpec.ofChange fnNewDeleteRecordsRequestSpec)

/-- ITS FALSE NEIGHBOUR: 'it returns false'. Refute it at one input. -/
def fnNewDeleteRecordsRequestWrong : ChangeSpec := { name := "fnNewDeleteRecordsRequest", fn := fun _ => fun
  | [d] => { results := [.lit (.bool false)], args := [d] }
  | _ => none }
def FnNewDeleteRecordsRequestWrongFalsely : Prop := fnNewDeleteRecordsRequestRow.holds Try.pinned (OpenSpec.ofChange fnNewDeleteRecordsRequestWrong)

/-- 'laws.FnNewDescribeShareGroupOffsetsRequest': WHATEVER THE INPUT: true; the input reads as it did. -/
def fnNewDescribeShareGroupOffsetsRequestSpec : ChangeSpec := { name := "fnNewDescribeShareGroupOffsetsRequest", fn := fun _ => fun
  | [d] => { results := [.lit (.bool true)], args := [d] }
  | _ => none }
def fnNewDescribeShareGroupOffsetsRequestRow : OpenClaim := { program := "ytgijjjnbakdbgaa", sum := "d2f4391a9128c66d7fb6a4bdcfbd418c8a55ff7d1df19598aecd2652f60af8c4", func := "pub-kmsg/laws.FnNewDescribeShareGroupOffsetsRequest", spec := "fnNewDescribeShareGroupOffsetsRequest", inPlace := ["internal/reflectlite.ValueOf", "internal/reflectlite.Swapper", "(internal/reflectlite.Value).Len"], unfollowed := true, recurses := true, apart := false }
def FnNewDescribeShareGroupOffsetsRequestSaid : Prop := fnNewDescribeShareGroupOffsetsRequestRow.holds Try.pinned (OpenSpec.ofChange fnNewDescribeShareGroupOffsetsRequestSpec)

/-- ITS FALSE NEIGHBOUR: 'it returns false'. Refute it at one input. -/
def fnNewDescribeShareGroupOffsetsRequestWrong : ChangeSpec := { name := "fnNewDescribeShareGroupOffsetsRequest", fn := fun _ => fun
  | [d] => { results := [.lit (.bool false)], args := [d] }
  | _ => none }
def FnNewDescribeShareGroupOffsetsRequestWrongFalsely : Prop := fnNewDescribeShareGroupOffsetsRequestRow.holds Try.pinned (OpenSpec.ofChange fnNewDescribeShareGroupOffsetsRequestWrong)

/-- 'laws.FnNewUpdateRaftVoterRequest': WHATEVER THE INPUT: true; the input reads as it did. -/
def fnNewUpdateRaftVoterRequestSpec : ChangeSpec := { name := "fnNewUpdateRaftVoterRequest", fn := fun _ => fun
  | [d] => { results := [.lit (.bool true)], args := [d] }
  | _ => none }
def fnNewUpdateRaftVoterRequestRow : OpenClaim := { program := "ytgijjjnbakdbgaa", sum := "d2f4391a9128c66d7fb6a4bdcfbd418c8a55ff7d1df19598aecd2652f60af8c4", func := "pub-kmsg/laws.FnNewUpdateRaftVoterRequest", spec := "fnNewUpdateRaftVoterRequest", inPlace := ["internal/reflectlite.ValueOf", "internal/reflectlite.Swapper", "(internal/reflectlite.Value).Len"], unfollowed := true, recurses := true, apart := false }
def FnNewUpdateRaftVoterRequestSaid : Prop := fnNewUpdateRaftVoterRequestRow.holds Try.pinned (OpenSpec.ofChange fnNewUpdateRaftVoterRequestSpec)

/-- ITS FALSE NEIGHBOUR: 'it returns false'. Refute it at one input. -/
def fnNewUpdateRaftVoterRequestWrong : ChangeSpec := { name := "fnNewUpdateRaftVoterRequest", fn := fun _ => fun
  | [d] => { results := [.lit (.bool false)], args := [d] }
  | _ => none }
def FnNewUpdateRaftVoterRequestWrongFalsely : Prop := fnNewUpdateRaftVoterRequestRow.holds Try.pinned (OpenSpec.ofChange fnNewUpdateRaftVoterRequestWrong)

/-- 'laws.FnNewAlterPartitionAssignmentsResponse': WHATEVER THE INPUT: true; the input reads as it did. -/
def fnNewAlterPartitionAssignmentsResponseSpec : ChangeSpec := { name := "fnNewAlterPartitionAssignmentsResponse", fn := fun _ => fun
  | [d] => { results := [.lit (.bool true)], args := [d] }
  | _ => none }
def fnNewAlterPartitionAssignmentsResponseRow : OpenClaim := { program := "ytgijjjnbakdbgaa", sum := "d2f4391a9128c66d7fb6a4bdcfbd418c8a55ff7d1df19598aecd2652f60af8c4", func := "pub-kmsg/laws.FnNewAlterPartitionAssignmentsResponse", spec := "fnNewAlterPartitionAssignmentsResponse", inPlace := ["internal/reflectlite.ValueOf", "internal/reflectlite.Swapper", "(internal/reflectlite.Value).Len"], unfollowed := true, recurses := true, apart := false }
def FnNewAlterPartitionAssignmentsResponseSaid : Prop := fnNewAlterPartitionAssignmentsResponseRow.holds Try.pinned (OpenSpec.ofChange fnNewAlterPartitionAssignmentsResponseSpec)

/-- ITS FALSE NEIGHBOUR: 'it returns false'. Refute it at one input. -/
def fnNewAlterPartitionAssignmentsResponseWrong : ChangeSpec := { name := "fnNewAlterPartitionAssignmentsResponse", fn := fun _ => fun
  | [d] => { results := [.lit (.bool false)], args := [d] }
  | _ => none }
def FnNewAlterPartitionAssignmentsResponseWrongFalsely : Prop := fnNewAlterPartitionAssignmentsResponseRow.holds Try.pinned (OpenSpec.ofChange fnNewAlterPartitionAssignmentsResponseWrong)

/-- 'laws.FnNewDescribeClusterResponse': WHATEVER THE INPUT: true; the input reads as it did. -/
def fnNewDescribeClusterResponseSpec : ChangeSpec := { name := "fnNewDescribeClusterResponse", fn := fun _ => fun
  | [d] => { results := [.lit (.bool true)], args := [d] }
  | _ => none }
def fnNewDescribeClusterResponseRow : OpenClaim := { program := "ytgijjjnbakdbgaa", sum := "d2f4391a9128c66d7fb6a4bdcfbd418c8a55ff7d1df19598aecd2652f60af8c4", func := "pub-kmsg/laws.FnNewDescribeClusterResponse", spec := "fnNewDescribeClusterResponse", inPlace := ["internal/reflectlite.ValueOf", "internal/reflectlite.Swapper", "(internal/reflectlite.Value).Len"], unfollowed := true, recurses := true, apart := false }
def FnNewDescribeClusterResponseSaid : Prop := fnNewDescribeClusterResponseRow.holds Try.pinned (OpenSpec.ofChange fnNewDescribeClusterResponseSpec)

/-- ITS FALSE NEIGHBOUR: 'it returns false'. Refute it at one input. -/
def fnNewDescribeClusterResponseWrong : ChangeSpec := { name := "fnNewDescribeClusterResponse", fn := fun _ => fun
  | [d] => { results := [.lit (.bool false)], args := [d] }
  | _ => none }
def FnNewDescribeClusterResponseWrongFalsely : Prop := fnNewDescribeClusterResponseRow.holds Try.pinned (OpenSpec.ofChange fnNewDescribeClusterResponseWrong)

/-- 'laws.FnNewReadShareGroupStateResponse': WHATEVER THE INPUT: true; the input reads as it did. -/
def fnNewReadShareGroupStateResponseSpec : ChangeSpec := { name := "fnNewReadShareGroupStateResponse", fn := fun _ => fun
  | [d] => { results := [.lit (.bool true)], args := [d] }
  | _ => none }
def fnNewReadShareGroupStateResponseRow : OpenClaim := { program := "ytgijjjnbakdbgaa", sum := "d2f4391a9128c66d7fb6a4bdcfbd418c8a55ff7d1df19598aecd2652f60af8c4", func := "pub-kmsg/laws.FnNewReadShareGroupStateResponse", spec := "fnNewReadShareGroupStateResponse", inPlace := ["internal/reflectlite.ValueOf", "internal/reflectlite.Swapper", "(internal/reflectlite.Value).Len"], unfollowed := true, recurses := true, apart := false }
def FnNewReadShareGroupStateResponseSaid : Prop := fnNewReadShareGroupStateResponseRow.holds Try.pinned (OpenSpec.ofChange fnNewReadShareGroupStateResponseSpec)

/-- ITS FALSE NEIGHBOUR: 'it returns false'. Refute it at one input. -/
def fnNewReadShareGroupStateResponseWrong : ChangeSpec := { name := "fnNewReadShareGroupStateResponse", fn := fun _ => fun
  | [d] => { results := [.lit (.bool false)], args := [d] }
  | _ => none }
def FnNewReadShareGroupStateResponseWrongFalsely : Prop := fnNewReadShareGroupStateResponseRow.holds Try.pinned (OpenSpec.ofChange fnNewReadShareGroupStateResponseWrong)

/-- 'laws.FnNewBeginQuorumEpochRequest': WHATEVER THE INPUT: true; the input reads as it did. -/
def fnNewBeginQuorumEpochRequestSpec : ChangeSpec := { name := "fnNewBeginQuorumEpochRequest", fn := fun _ => fun
  | [d] => { results := [.lit (.bool true)], args := [d] }
  | _ => none }
def fnNewBeginQuorumEpochRequestRow : OpenClaim := { program := "ytgijjjnbakdbgaa", sum := "d2f4391a9128c66d7fb6a4bdcfbd418c8a55ff7d1df19598aecd2652f60af8c4", func := "pub-kmsg/laws.FnNewBeginQuorumEpochRequest", spec := "fnNewBeginQuorumEpochRequest", inPlace := ["internal/reflectlite.ValueOf", "internal/reflectlite.Swapper", "(internal/reflectlite.Value).Len"], unfollowed := true, recurses := true, apart := false }
def FnNewBeginQuorumEpochRequestSaid : Prop := fnNewBeginQuorumEpochRequestRow.holds Try.pinned (OpenSpec.ofChange fnNewBeginQuorumEpochRequestSpec)

/-- ITS FALSE NEIGHBOUR: 'it returns false'. Refute it at one input. -/
def fnNewBeginQuorumEpochRequestWrong : ChangeSpec := { name := "fnNewBeginQuorumEpochRequest", fn := fun _ => fun
  | [d] => { results := [.lit (.bool false)], args := [d] }
  | _ => none }
def FnNewBeginQuorumEpochRequestWrongFalsely : Prop := fnNewBeginQuorumEpochRequestRow.holds Try.pinned (OpenSpec.ofChange fnNewBeginQuorumEpochRequestWrong)

/- THE SECOND FORM. 'bulk': how many values and letters a reading holds, each counted each time it is reached (what is shared counts as often as it is met; a slice's spare places count too). A statement '..UptoSaid' is the law's where the arguments, and the package variables that the reading takes, are together of bulk at most 1048576: NARROWER than '..Said'. Prove '..Said' where nothing that the law and all that it calls make is longer than what came in: it says more and counts as full. Else prove '..UptoSaid'. A law counts once. -/
mutual
def uptoBulk {H : Type} : DataW H → Nat
  | .lit (.string bytes) => bytes.length + 1
  | .lit _ => 1
  | .nil => 1
  | .ptr d => uptoBulk d + 1
  | .slice elems spare => uptoBulkAll elems + uptoBulkAll spare + 1
  | .agg parts => uptoBulkAll parts + 1
  | .iface _ d => uptoBulk d + 1
  | .map entries => uptoBulkEntries entries + 1
  | .held _ => 1
def uptoBulkAll {H : Type} : List (DataW H) → Nat
  | [] => 0
  | d :: r => uptoBulk d + uptoBulkAll r
def uptoBulkEntries {H : Type} : List (Lit × DataW H) → Nat
  | [] => 0
  | x :: r => uptoBulkEntry x + uptoBulkEntries r
def uptoBulkEntry {H : Type} : Lit × DataW H → Nat
  | (.string bytes, d) => bytes.length + uptoBulk d + 1
  | (_, d) => uptoBulk d + 1
 end
def uptoSmall : (H : Type) → List (DataW H) → Bool := fun _ ds => decide (uptoBulkAll ds ≤ 1048576)
def OpenSpec.upto (s : _root_.Go.ChangeSpec) : _root_.Go.OpenSpec := { _root_.Go.OpenSpec.ofChange s with cond := some uptoSmall }

/-- 'laws.FnNewAddOffsetsToTxnRequest', WHERE WHAT IT READS IS OF BULK AT MOST 1048576: true; the input reads as it did. -/
def fnNewAddOffsetsToTxnRequestUptoRow : OpenClaim := { program := "ytgijjjnbakdbgaa", sum := "d2f4391a9128c66d7fb6a4bdcfbd418c8a55ff7d1df19598aecd2652f60af8c4", func := "pub-kmsg/laws.FnNewAddOffsetsToTxnRequest", spec := "fnNewAddOffsetsToTxnRequest", inPlace := ["internal/reflectlite.ValueOf", "internal/reflectlite.Swapper", "(internal/reflectlite.Value).Len"], unfollowed := true, recurses := true, apart := false, narrowed := true }
def FnNewAddOffsetsToTxnRequestUptoSaid : Prop := fnNewAddOffsetsToTxnRequestUptoRow.holds Try.pinned (OpenSpec.upto fnNewAddOffsetsToTxnRequestSpec)

/-- 'laws.FnNewControllerRegistrationResponse', WHERE WHAT IT READS IS OF BULK AT MOST 1048576: true; the input reads as it did. -/
def fnNewControllerRegistrationResponseUptoRow : OpenClaim := { program := "ytgijjjnbakdbgaa", sum := "d2f4391a9128c66d7fb6a4bdcfbd418c8a55ff7d1df19598aecd2652f60af8c4", func := "pub-kmsg/laws.FnNewControllerRegistrationResponse", spec := "fnNewControllerRegistrationResponse", inPlace := ["internal/reflectlite.ValueOf", "internal/reflectlite.Swapper", "(internal/reflectlite.Value).Len"], unfollowed := true, recurses := true, apart := false, narrowed := true }
def FnNewControllerRegistrationResponseUptoSaid : Prop := fnNewControllerRegistrationResponseUptoRow.holds Try.pinned (OpenSpec.upto fnNewControllerRegistrationResponseSpec)

/-- 'laws.FnNewStreamsGroupTopologyDescriptionUpdateResponse', WHERE WHAT IT READS IS OF BULK AT MOST 1048576: true; the input reads as it did. -/
def fnNewStreamsGroupTopologyDescriptionUpdateResponseUptoRow : OpenClaim := { program := "ytgijjjnbakdbgaa", sum := "d2f4391a9128c66d7fb6a4bdcfbd418c8a55ff7d1df19598aecd2652f60af8c4", func := "pub-kmsg/laws.FnNewStreamsGroupTopologyDescriptionUpdateResponse", spec := "fnNewStreamsGroupTopologyDescriptionUpdateResponse", inPlace := ["internal/reflectlite.ValueOf", "internal/reflectlite.Swapper", "(internal/reflectlite.Value).Len"], unfollowed := true, recurses := true, apart := false, narrowed := true }
def FnNewStreamsGroupTopologyDescriptionUpdateResponseUptoSaid : Prop := fnNewStreamsGroupTopologyDescriptionUpdateResponseUptoRow.holds Try.pinned (OpenSpec.upto fnNewStreamsGroupTopologyDescriptionUpdateResponseSpec)

/-- 'laws.FnNewHeartbeatRequest', WHERE WHAT IT READS IS OF BULK AT MOST 1048576: true; the input reads as it did. -/
def fnNewHeartbeatRequestUptoRow : OpenClaim := { program := "ytgijjjnbakdbgaa", sum := "d2f4391a9128c66d7fb6a4bdcfbd418c8a55ff7d1df19598aecd2652f60af8c4", func := "pub-kmsg/laws.FnNewHeartbeatRequest", spec := "fnNewHeartbeatRequest", inPlace := ["internal/reflectlite.ValueOf", "internal/reflectlite.Swapper", "(internal/reflectlite.Value).Len"], unfollowed := true, recurses := true, apart := false, narrowed := true }
def FnNewHeartbeatRequestUptoSaid : Prop := fnNewHeartbeatRequestUptoRow.holds Try.pinned (OpenSpec.upto fnNewHeartbeatRequestSpec)

/-- 'laws.FnNewLeaveGroupResponse', WHERE WHAT IT READS IS OF BULK AT MOST 1048576: true; the input reads as it did. -/
def fnNewLeaveGroupResponseUptoRow : OpenClaim := { program := "ytgijjjnbakdbgaa", sum := "d2f4391a9128c66d7fb6a4bdcfbd418c8a55ff7d1df19598aecd2652f60af8c4", func := "pub-kmsg/laws.FnNewLeaveGroupResponse", spec := "fnNewLeaveGroupResponse", inPlace := ["internal/reflectlite.ValueOf", "internal/reflectlite.Swapper", "(internal/reflectlite.Value).Len"], unfollowed := true, recurses := true, apart := false, narrowed := true }
def FnNewLeaveGroupResponseUptoSaid : Prop := fnNewLeaveGroupResponseUptoRow.holds Try.pinned (OpenSpec.upto fnNewLeaveGroupResponseSpec)

/-- 'laws.FnNewDeleteRecordsRequest', WHERE WHAT IT READS IS OF BULK AT MOST 1048576: true; the input reads as it did. -/
def fnNewDeleteRecordsRequestUptoRow : OpenClaim := { program := "ytgijjjnbakdbgaa", sum := "d2f4391a9128c66d7fb6a4bdcfbd418c8a55ff7d1df19598aecd2652f60af8c4", func := "pub-kmsg/laws.FnNewDeleteRecordsRequest", spec := "fnNewDeleteRecordsRequest", inPlace := ["internal/reflectlite.ValueOf", "internal/reflectlite.Swapper", "(internal/reflectlite.Value).Len"], unfollowed := true, recurses := true, apart := false, narrowed := true }
def FnNewDeleteRecordsRequestUptoSaid : Prop := fnNewDeleteRecordsRequestUptoRow.holds Try.pinned (OpenSpec.upto fnNewDeleteRecordsRequestSpec)

/-- 'laws.FnNewDescribeShareGroupOffsetsRequest', WHERE WHAT IT READS IS OF BULK AT MOST 1048576: true; the input reads as it did. -/
def fnNewDescribeShareGroupOffsetsRequestUptoRow : OpenClaim := { program := "ytgijjjnbakdbgaa", sum := "d2f4391a9128c66d7fb6a4bdcfbd418c8a55ff7d1df19598aecd2652f60af8c4", func := "pub-kmsg/laws.FnNewDescribeShareGroupOffsetsRequest", spec := "fnNewDescribeShareGroupOffsetsRequest", inPlace := ["internal/reflectlite.ValueOf", "internal/reflectlite.Swapper", "(internal/reflectlite.Value).Len"], unfollowed := true, recurses := true, apart := false, narrowed := true }
def FnNewDescribeShareGroupOffsetsRequestUptoSaid : Prop := fnNewDescribeShareGroupOffsetsRequestUptoRow.holds Try.pinned (OpenSpec.upto fnNewDescribeShareGroupOffsetsRequestSpec)

/-- 'laws.FnNewUpdateRaftVoterRequest', WHERE WHAT IT READS IS OF BULK AT MOST 1048576: true; the input reads as it did. -/
def fnNewUpdateRaftVoterRequestUptoRow : OpenClaim := { program := "ytgijjjnbakdbgaa", sum := "d2f4391a9128c66d7fb6a4bdcfbd418c8a55ff7d1df19598aecd2652f60af8c4", func := "pub-kmsg/laws.FnNewUpdateRaftVoterRequest", spec := "fnNewUpdateRaftVoterRequest", inPlace := ["internal/reflectlite.ValueOf", "internal/reflectlite.Swapper", "(internal/reflectlite.Value).Len"], unfollowed := true, recurses := true, apart := false, narrowed := true }
def FnNewUpdateRaftVoterRequestUptoSaid : Prop := fnNewUpdateRaftVoterRequestUptoRow.holds Try.pinned (OpenSpec.upto fnNewUpdateRaftVoterRequestSpec)

/-- 'laws.FnNewAlterPartitionAssignmentsResponse', WHERE WHAT IT READS IS OF BULK AT MOST 1048576: true; the input reads as it did. -/
def fnNewAlterPartitionAssignmentsResponseUptoRow : OpenClaim := { program := "ytgijjjnbakdbgaa", sum := "d2f4391a9128c66d7fb6a4bdcfbd418c8a55ff7d1df19598aecd2652f60af8c4", func := "pub-kmsg/laws.FnNewAlterPartitionAssignmentsResponse", spec := "fnNewAlterPartitionAssignmentsResponse", inPlace := ["internal/reflectlite.ValueOf", "internal/reflectlite.Swapper", "(internal/reflectlite.Value).Len"], unfollowed := true, recurses := true, apart := false, narrowed := true }
def FnNewAlterPartitionAssignmentsResponseUptoSaid : Prop := fnNewAlterPartitionAssignmentsResponseUptoRow.holds Try.pinned (OpenSpec.upto fnNewAlterPartitionAssignmentsResponseSpec)

/-- 'laws.FnNewDescribeClusterResponse', WHERE WHAT IT READS IS OF BULK AT MOST 1048576: true; the input reads as it did. -/
def fnNewDescribeClusterResponseUptoRow : OpenClaim := { program := "ytgijjjnbakdbgaa", sum := "d2f4391a9128c66d7fb6a4bdcfbd418c8a55ff7d1df19598aecd2652f60af8c4", func := "pub-kmsg/laws.FnNewDescribeClusterResponse", spec := "fnNewDescribeClusterResponse", inPlace := ["internal/reflectlite.ValueOf", "internal/reflectlite.Swapper", "(internal/reflectlite.Value).Len"], unfollowed := true, recurses := true, apart := false, narrowed := true }
def FnNewDescribeClusterResponseUptoSaid : Prop := fnNewDescribeClusterResponseUptoRow.holds Try.pinned (OpenSpec.upto fnNewDescribeClusterResponseSpec)

/-- 'laws.FnNewReadShareGroupStateResponse', WHERE WHAT IT READS IS OF BULK AT MOST 1048576: true; the input reads as it did. -/
def fnNewReadShareGroupStateResponseUptoRow : OpenClaim := { program := "ytgijjjnbakdbgaa", sum := "d2f4391a9128c66d7fb6a4bdcfbd418c8a55ff7d1df19598aecd2652f60af8c4", func := "pub-kmsg/laws.FnNewReadShareGroupStateResponse", spec := "fnNewReadShareGroupStateResponse", inPlace := ["internal/reflectlite.ValueOf", "internal/reflectlite.Swapper", "(internal/reflectlite.Value).Len"], unfollowed := true, recurses := true, apart := false, narrowed := true }
def FnNewReadShareGroupStateResponseUptoSaid : Prop := fnNewReadShareGroupStateResponseUptoRow.holds Try.pinned (OpenSpec.upto fnNewReadShareGroupStateResponseSpec)

/-- 'laws.FnNewBeginQuorumEpochRequest', WHERE WHAT IT READS IS OF BULK AT MOST 1048576: true; the input reads as it did. -/
def fnNewBeginQuorumEpochRequestUptoRow : OpenClaim := { program := "ytgijjjnbakdbgaa", sum := "d2f4391a9128c66d7fb6a4bdcfbd418c8a55ff7d1df19598aecd2652f60af8c4", func := "pub-kmsg/laws.FnNewBeginQuorumEpochRequest", spec := "fnNewBeginQuorumEpochRequest", inPlace := ["internal/reflectlite.ValueOf", "internal/reflectlite.Swapper", "(internal/reflectlite.Value).Len"], unfollowed := true, recurses := true, apart := false, narrowed := true }
def FnNewBeginQuorumEpochRequestUptoSaid : Prop := fnNewBeginQuorumEpochRequestUptoRow.holds Try.pinned (OpenSpec.upto fnNewBeginQuorumEpochRequestSpec)

end Rows
end Go.Proofs.Ytgijjjnbakdbgaa
