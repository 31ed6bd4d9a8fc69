/-
  NARROWER THAN 'FOR EVERY INPUT', by the rows' own cells (each row's printed sentence says how): FnCutGetTelemetrySubscriptionsResponse: loops, laid · FnCutAlterPartitionAssignmentsRequest: loops, laid · FnCutLeaveGroupRequest: loops, laid · FnCutControllerRegistrationRequest: loops, laid · FnAgainProduceRequest: loops, laid · FnAgainJoinGroupRequest: loops, laid.
  DERIVED. THE GIVEN ROWS OF THIS SEAT. 6 by the template 'for every input the law returns true; each argument reads behind the call as it read before'; 0 by the template 'total and deterministic' (their statements: YtgmhfkgdapljpaaGreatDoorTotals.lean).
  GIVEN WITH THE SEED: the statements are not yours to turn. If you find one false, say at which input.
  Laid BY PROGRAM, IN A SANDBOX (cutbox-rows.mjs): the forced cells as the released guide's own fill.sh prints them over the translation 743116e469d43c2b… (all of the seat's roots in one cut). By AI agents, Wed Nov 11 2026. No macro, syntax, notation, axiom, sorry.
-/
import Derived.Test.YtgmhfkgdapljpaaGreatDoorChecked
import GoSem.Claim
import GoSem.ClaimJoined
import GoSem.ClaimMapViews
import Derived.JoinedTies
import Derived.KernelRfl
namespace Go.Proofs.YtgmhfkgdapljpaaGreatDoor
/- THE CELL 'sum', in the pinned program and in every row, IS THE sha256 OF THE DUMP (.gsa) THAT YtgmhfkgdapljpaaGreatDoorProg.lean LOADS. Nothing in Lean hashes anything: it is a label: what it is worth is what the hold of that sum in a sandbox is worth. -/
noncomputable def Tryz.pinned : Pinned := { name := "ytgmhfkgdapljpaagreatdoor", sum := "743116e469d43c2b6a756682c88e10ad63ca4a1f9dd81be1366202a60c118edc", checked := Tryz.checked }
namespace Rows
def none {H : Type} : Left H := { results := [], args := [] }

/- WHAT THE LISTED PACKAGE-LEVEL VARIABLES READ AS WHEN THE CALL BEGINS. Each datum BY PROGRAM (the guide's laid-datum.mjs) off the statement by which the dump's own 'gosem.cut.vars' lays the variable. In a bare row this is a premise. The card (YtgmhfkgdapljpaaGreatDoorCards.lean) ties it to the program's text. -/
def laid_pub_kmsg_pub_kmsg_inner_kbin_ErrNotEnoughData {H : Type} : DataW H := .iface "*errors.errorString" (.ptr (.agg [.lit (.string [114, 101, 115, 112, 111, 110, 115, 101, 32, 100, 105, 100, 32, 110, 111, 116, 32, 99, 111, 110, 116, 97, 105, 110, 32, 101, 110, 111, 117, 103, 104, 32, 100, 97, 116, 97, 32, 116, 111, 32, 98, 101, 32, 118, 97, 108, 105, 100])]))

/-- 'laws.FnCutGetTelemetrySubscriptionsResponse': WHATEVER THE INPUT: true; the input reads as it did. -/
def fnCutGetTelemetrySubscriptionsResponseSpec : ChangeSpec := { name := "fnCutGetTelemetrySubscriptionsResponse", fn := fun _ => fun
  | [d1, d2, d3] => { results := [.lit (.bool true)], args := [d1, d2, d3] }
  | _ => none }
def fnCutGetTelemetrySubscriptionsResponseRow : OpenClaim := { program := "ytgmhfkgdapljpaagreatdoor", sum := "743116e469d43c2b6a756682c88e10ad63ca4a1f9dd81be1366202a60c118edc", func := "pub-kmsg/laws.FnCutGetTelemetrySubscriptionsResponse", spec := "fnCutGetTelemetrySubscriptionsResponse", inPlace := ["internal/reflectlite.ValueOf", "internal/reflectlite.Swapper", "(internal/reflectlite.Value).Len"], unfollowed := true, recurses := true, named := ["encoding/binary.BigEndian", "pub-kmsg/pub/kmsg/inner/kbin.ErrNotEnoughData"], loops := true, apart := false, laid := [("pub-kmsg/pub/kmsg/inner/kbin.ErrNotEnoughData", laid_pub_kmsg_pub_kmsg_inner_kbin_ErrNotEnoughData)] }
def FnCutGetTelemetrySubscriptionsResponseSaid : Prop := fnCutGetTelemetrySubscriptionsResponseRow.holds Tryz.pinned (OpenSpec.ofChange fnCutGetTelemetrySubscriptionsResponseSpec)

/-- ITS FALSE NEIGHBOUR: 'it returns false'. Refute it at one input. -/
def fnCutGetTelemetrySubscriptionsResponseWrong : ChangeSpec := { name := "fnCutGetTelemetrySubscriptionsResponse", fn := fun _ => fun
  | [d1, d2, d3] => { results := [.lit (.bool false)], args := [d1, d2, d3] }
  | _ => none }
def FnCutGetTelemetrySubscriptionsResponseWrongFalsely : Prop := fnCutGetTelemetrySubscriptionsResponseRow.holds Tryz.pinned (OpenSpec.ofChange fnCutGetTelemetrySubscriptionsResponseWrong)

/-- 'laws.FnCutAlterPartitionAssignmentsRequest': WHATEVER THE INPUT: true; the input reads as it did. -/
def fnCutAlterPartitionAssignmentsRequestSpec : ChangeSpec := { name := "fnCutAlterPartitionAssignmentsRequest", fn := fun _ => fun
  | [d1, d2, d3] => { results := [.lit (.bool true)], args := [d1, d2, d3] }
  | _ => none }
def fnCutAlterPartitionAssignmentsRequestRow : OpenClaim := { program := "ytgmhfkgdapljpaagreatdoor", sum := "743116e469d43c2b6a756682c88e10ad63ca4a1f9dd81be1366202a60c118edc", func := "pub-kmsg/laws.FnCutAlterPartitionAssignmentsRequest", spec := "fnCutAlterPartitionAssignmentsRequest", inPlace := ["internal/reflectlite.ValueOf", "internal/reflectlite.Swapper", "(internal/reflectlite.Value).Len"], unfollowed := true, recurses := true, named := ["encoding/binary.BigEndian", "pub-kmsg/pub/kmsg/inner/kbin.ErrNotEnoughData"], loops := true, apart := false, laid := [("pub-kmsg/pub/kmsg/inner/kbin.ErrNotEnoughData", laid_pub_kmsg_pub_kmsg_inner_kbin_ErrNotEnoughData)] }
def FnCutAlterPartitionAssignmentsRequestSaid : Prop := fnCutAlterPartitionAssignmentsRequestRow.holds Tryz.pinned (OpenSpec.ofChange fnCutAlterPartitionAssignmentsRequestSpec)

/-- ITS FALSE NEIGHBOUR: 'it returns false'. Refute it at one input. -/
def fnCutAlterPartitionAssignmentsRequestWrong : ChangeSpec := { name := "fnCutAlterPartitionAssignmentsRequest", fn := fun _ => fun
  | [d1, d2, d3] => { results := [.lit (.bool false)], args := [d1, d2, d3] }
  | _ => none }
def FnCutAlterPartitionAssignmentsRequestWrongFalsely : Prop := fnCutAlterPartitionAssignmentsRequestRow.holds Tryz.pinned (OpenSpec.ofChange fnCutAlterPartitionAssignmentsRequestWrong)

/-- 'laws.FnCutLeaveGroupRequest': WHATEVER THE INPUT: true; the input reads as it did. -/
def fnCutLeaveGroupRequestSpec : ChangeSpec := { name := "fnCutLeaveGroupRequest", fn := fun _ => fun
  | [d1, d2, d3] => { results := [.lit (.bool true)], args := [d1, d2, d3] }
  | _ => none }
def fnCutLeaveGroupRequestRow : OpenClaim := { program := "ytgmhfkgdapljpaagreatdoor", sum := "743116e469d43c2b6a756682c88e10ad63ca4a1f9dd81be1366202a60c118edc", func := "pub-kmsg/laws.FnCutLeaveGroupRequest", spec := "fnCutLeaveGroupRequest", inPlace := ["internal/reflectlite.ValueOf", "internal/reflectlite.Swapper", "(internal/reflectlite.Value).Len"], unfollowed := true, recurses := true, named := ["encoding/binary.BigEndian", "pub-kmsg/pub/kmsg/inner/kbin.ErrNotEnoughData"], loops := true, apart := false, laid := [("pub-kmsg/pub/kmsg/inner/kbin.ErrNotEnoughData", laid_pub_kmsg_pub_kmsg_inner_kbin_ErrNotEnoughData)] }
def FnCutLeaveGroupRequestSaid : Prop := fnCutLeaveGroupRequestRow.holds Tryz.pinned (OpenSpec.ofChange fnCutLeaveGroupRequestSpec)

/-- ITS FALSE NEIGHBOUR: 'it returns false'. Refute it at one input. -/
def fnCutLeaveGroupRequestWrong : ChangeSpec := { name := "fnCutLeaveGroupRequest", fn := fun _ => fun
  | [d1, d2, d3] => { results := [.lit (.bool false)], args := [d1, d2, d3] }
  | _ => none }
def FnCutLeaveGroupRequestWrongFalsely : Prop := fnCutLeaveGroupRequestRow.holds Tryz.pinned (OpenSpec.ofChange fnCutLeaveGroupRequestWrong)

/-- 'laws.FnCutControllerRegistrationRequest': WHATEVER THE INPUT: true; the input reads as it did. -/
def fnCutControllerRegistrationRequestSpec : ChangeSpec := { name := "fnCutControllerRegistrationRequest", fn := fun _ => fun
  | [d1, d2, d3] => { results := [.lit (.bool true)], args := [d1, d2, d3] }
  | _ => none }
def fnCutControllerRegistrationRequestRow : OpenClaim := { program := "ytgmhfkgdapljpaagreatdoor", sum := "743116e469d43c2b6a756682c88e10ad63ca4a1f9dd81be1366202a60c118edc", func := "pub-kmsg/laws.FnCutControllerRegistrationRequest", spec := "fnCutControllerRegistrationRequest", inPlace := ["internal/reflectlite.ValueOf", "internal/reflectlite.Swapper", "(internal/reflectlite.Value).Len"], unfollowed := true, recurses := true, named := ["encoding/binary.BigEndian", "pub-kmsg/pub/kmsg/inner/kbin.ErrNotEnoughData"], loops := true, apart := false, laid := [("pub-kmsg/pub/kmsg/inner/kbin.ErrNotEnoughData", laid_pub_kmsg_pub_kmsg_inner_kbin_ErrNotEnoughData)] }
def FnCutControllerRegistrationRequestSaid : Prop := fnCutControllerRegistrationRequestRow.holds Tryz.pinned (OpenSpec.ofChange fnCutControllerRegistrationRequestSpec)

/-- ITS FALSE NEIGHBOUR: 'it returns false'. Refute it at one input. -/
def fnCutControllerRegistrationRequestWrong : ChangeSpec := { name := "fnCutControllerRegistrationRequest", fn := fun _ => fun
  | [d1, d2, d3] => { results := [.lit (.bool false)], args := [d1, d2, d3] }
  | _ => none }
def FnCutControllerRegistrationRequestWrongFalsely : Prop := fnCutControllerRegistrationRequestRow.holds Tryz.pinned (OpenSpec.ofChange fnCutControllerRegistrationRequestWrong)

/-- 'laws.FnAgainProduceRequest': WHATEVER THE INPUT: true; the input reads as it did. -/
def fnAgainProduceRequestSpec : ChangeSpec := { name := "fnAgainProduceRequest", fn := fun _ => fun
  | [d1, d2] => { results := [.lit (.bool true)], args := [d1, d2] }
  | _ => none }
def fnAgainProduceRequestRow : OpenClaim := { program := "ytgmhfkgdapljpaagreatdoor", sum := "743116e469d43c2b6a756682c88e10ad63ca4a1f9dd81be1366202a60c118edc", func := "pub-kmsg/laws.FnAgainProduceRequest", spec := "fnAgainProduceRequest", inPlace := ["internal/reflectlite.ValueOf", "internal/reflectlite.Swapper", "(internal/reflectlite.Value).Len"], unfollowed := true, recurses := true, named := ["encoding/binary.BigEndian", "pub-kmsg/pub/kmsg/inner/kbin.ErrNotEnoughData"], loops := true, apart := false, laid := [("pub-kmsg/pub/kmsg/inner/kbin.ErrNotEnoughData", laid_pub_kmsg_pub_kmsg_inner_kbin_ErrNotEnoughData)] }
def FnAgainProduceRequestSaid : Prop := fnAgainProduceRequestRow.holds Tryz.pinned (OpenSpec.ofChange fnAgainProduceRequestSpec)

/-- ITS FALSE NEIGHBOUR: 'it returns false'. Refute it at one input. -/
def fnAgainProduceRequestWrong : ChangeSpec := { name := "fnAgainProduceRequest", fn := fun _ => fun
  | [d1, d2] => { results := [.lit (.bool false)], args := [d1, d2] }
  | _ => none }
def FnAgainProduceRequestWrongFalsely : Prop := fnAgainProduceRequestRow.holds Tryz.pinned (OpenSpec.ofChange fnAgainProduceRequestWrong)

/-- 'laws.FnAgainJoinGroupRequest': WHATEVER THE INPUT: true; the input reads as it did. -/
def fnAgainJoinGroupRequestSpec : ChangeSpec := { name := "fnAgainJoinGroupRequest", fn := fun _ => fun
  | [d1, d2] => { results := [.lit (.bool true)], args := [d1, d2] }
  | _ => none }
def fnAgainJoinGroupRequestRow : OpenClaim := { program := "ytgmhfkgdapljpaagreatdoor", sum := "743116e469d43c2b6a756682c88e10ad63ca4a1f9dd81be1366202a60c118edc", func := "pub-kmsg/laws.FnAgainJoinGroupRequest", spec := "fnAgainJoinGroupRequest", inPlace := ["internal/reflectlite.ValueOf", "internal/reflectlite.Swapper", "(internal/reflectlite.Value).Len"], unfollowed := true, recurses := true, named := ["encoding/binary.BigEndian", "pub-kmsg/pub/kmsg/inner/kbin.ErrNotEnoughData"], loops := true, apart := false, laid := [("pub-kmsg/pub/kmsg/inner/kbin.ErrNotEnoughData", laid_pub_kmsg_pub_kmsg_inner_kbin_ErrNotEnoughData)] }
def FnAgainJoinGroupRequestSaid : Prop := fnAgainJoinGroupRequestRow.holds Tryz.pinned (OpenSpec.ofChange fnAgainJoinGroupRequestSpec)

/-- ITS FALSE NEIGHBOUR: 'it returns false'. Refute it at one input. -/
def fnAgainJoinGroupRequestWrong : ChangeSpec := { name := "fnAgainJoinGroupRequest", fn := fun _ => fun
  | [d1, d2] => { results := [.lit (.bool false)], args := [d1, d2] }
  | _ => none }
def FnAgainJoinGroupRequestWrongFalsely : Prop := fnAgainJoinGroupRequestRow.holds Tryz.pinned (OpenSpec.ofChange fnAgainJoinGroupRequestWrong)

/- THE SECOND FORM. 'bulk': how many values and letters a reading holds, each counted each time it is reached (what is shared counts as often as it is met; a slice's spare places count too). A statement '..UptoSaid' is the law's where the arguments, and the package variables that the reading takes, are together of bulk at most 1048576: NARROWER than '..Said'. Prove '..Said' where nothing that the law and all that it calls make is longer than what came in: it says more and counts as full. Else prove '..UptoSaid'. A law counts once. -/
mutual
def uptoBulk {H : Type} : DataW H → Nat
  | .lit (.string bytes) => bytes.length + 1
  | .lit _ => 1
  | .nil => 1
  | .ptr d => uptoBulk d + 1
  | .slice elems spare => uptoBulkAll elems + uptoBulkAll spare + 1
  | .agg parts => uptoBulkAll parts + 1
  | .iface _ d => uptoBulk d + 1
  | .map entries => uptoBulkEntries entries + 1
  | .held _ => 1
def uptoBulkAll {H : Type} : List (DataW H) → Nat
  | [] => 0
  | d :: r => uptoBulk d + uptoBulkAll r
def uptoBulkEntries {H : Type} : List (Lit × DataW H) → Nat
  | [] => 0
  | x :: r => uptoBulkEntry x + uptoBulkEntries r
def uptoBulkEntry {H : Type} : Lit × DataW H → Nat
  | (.string bytes, d) => bytes.length + uptoBulk d + 1
  | (_, d) => uptoBulk d + 1
 end
def uptoSmall : (H : Type) → List (DataW H) → Bool := fun _ ds => decide (uptoBulkAll ds ≤ 1048576)
def OpenSpec.upto (s : _root_.Go.ChangeSpec) : _root_.Go.OpenSpec := { _root_.Go.OpenSpec.ofChange s with cond := some uptoSmall }

/-- 'laws.FnCutGetTelemetrySubscriptionsResponse', WHERE WHAT IT READS IS OF BULK AT MOST 1048576: true; the input reads as it did. -/
def fnCutGetTelemetrySubscriptionsResponseUptoRow : OpenClaim := { program := "ytgmhfkgdapljpaagreatdoor", sum := "743116e469d43c2b6a756682c88e10ad63ca4a1f9dd81be1366202a60c118edc", func := "pub-kmsg/laws.FnCutGetTelemetrySubscriptionsResponse", spec := "fnCutGetTelemetrySubscriptionsResponse", inPlace := ["internal/reflectlite.ValueOf", "internal/reflectlite.Swapper", "(internal/reflectlite.Value).Len"], unfollowed := true, recurses := true, named := ["encoding/binary.BigEndian", "pub-kmsg/pub/kmsg/inner/kbin.ErrNotEnoughData"], loops := true, apart := false, laid := [("pub-kmsg/pub/kmsg/inner/kbin.ErrNotEnoughData", laid_pub_kmsg_pub_kmsg_inner_kbin_ErrNotEnoughData)], narrowed := true }
def FnCutGetTelemetrySubscriptionsResponseUptoSaid : Prop := fnCutGetTelemetrySubscriptionsResponseUptoRow.holds Tryz.pinned (OpenSpec.upto fnCutGetTelemetrySubscriptionsResponseSpec)

/-- 'laws.FnCutAlterPartitionAssignmentsRequest', WHERE WHAT IT READS IS OF BULK AT MOST 1048576: true; the input reads as it did. -/
def fnCutAlterPartitionAssignmentsRequestUptoRow : OpenClaim := { program := "ytgmhfkgdapljpaagreatdoor", sum := "743116e469d43c2b6a756682c88e10ad63ca4a1f9dd81be1366202a60c118edc", func := "pub-kmsg/laws.FnCutAlterPartitionAssignmentsRequest", spec := "fnCutAlterPartitionAssignmentsRequest", inPlace := ["internal/reflectlite.ValueOf", "internal/reflectlite.Swapper", "(internal/reflectlite.Value).Len"], unfollowed := true, recurses := true, named := ["encoding/binary.BigEndian", "pub-kmsg/pub/kmsg/inner/kbin.ErrNotEnoughData"], loops := true, apart := false, laid := [("pub-kmsg/pub/kmsg/inner/kbin.ErrNotEnoughData", laid_pub_kmsg_pub_kmsg_inner_kbin_ErrNotEnoughData)], narrowed := true }
def FnCutAlterPartitionAssignmentsRequestUptoSaid : Prop := fnCutAlterPartitionAssignmentsRequestUptoRow.holds Tryz.pinned (OpenSpec.upto fnCutAlterPartitionAssignmentsRequestSpec)

/-- 'laws.FnCutLeaveGroupRequest', WHERE WHAT IT READS IS OF BULK AT MOST 1048576: true; the input reads as it did. -/
def fnCutLeaveGroupRequestUptoRow : OpenClaim := { program := "ytgmhfkgdapljpaagreatdoor", sum := "743116e469d43c2b6a756682c88e10ad63ca4a1f9dd81be1366202a60c118edc", func := "pub-kmsg/laws.FnCutLeaveGroupRequest", spec := "fnCutLeaveGroupRequest", inPlace := ["internal/reflectlite.ValueOf", "internal/reflectlite.Swapper", "(internal/reflectlite.Value).Len"], unfollowed := true, recurses := true, named := ["encoding/binary.BigEndian", "pub-kmsg/pub/kmsg/inner/kbin.ErrNotEnoughData"], loops := true, apart := false, laid := [("pub-kmsg/pub/kmsg/inner/kbin.ErrNotEnoughData", laid_pub_kmsg_pub_kmsg_inner_kbin_ErrNotEnoughData)], narrowed := true }
def FnCutLeaveGroupRequestUptoSaid : Prop := fnCutLeaveGroupRequestUptoRow.holds Tryz.pinned (OpenSpec.upto fnCutLeaveGroupRequestSpec)

/-- 'laws.FnCutControllerRegistrationRequest', WHERE WHAT IT READS IS OF BULK AT MOST 1048576: true; the input reads as it did. -/
def fnCutControllerRegistrationRequestUptoRow : OpenClaim := { program := "ytgmhfkgdapljpaagreatdoor", sum := "743116e469d43c2b6a756682c88e10ad63ca4a1f9dd81be1366202a60c118edc", func := "pub-kmsg/laws.FnCutControllerRegistrationRequest", spec := "fnCutControllerRegistrationRequest", inPlace := ["internal/reflectlite.ValueOf", "internal/reflectlite.Swapper", "(internal/reflectlite.Value).Len"], unfollowed := true, recurses := true, named := ["encoding/binary.BigEndian", "pub-kmsg/pub/kmsg/inner/kbin.ErrNotEnoughData"], loops := true, apart := false, laid := [("pub-kmsg/pub/kmsg/inner/kbin.ErrNotEnoughData", laid_pub_kmsg_pub_kmsg_inner_kbin_ErrNotEnoughData)], narrowed := true }
def FnCutControllerRegistrationRequestUptoSaid : Prop := fnCutControllerRegistrationRequestUptoRow.holds Tryz.pinned (OpenSpec.upto fnCutControllerRegistrationRequestSpec)

/-- 'laws.FnAgainProduceRequest', WHERE WHAT IT READS IS OF BULK AT MOST 1048576: true; the input reads as it did. -/
def fnAgainProduceRequestUptoRow : OpenClaim := { program := "ytgmhfkgdapljpaagreatdoor", sum := "743116e469d43c2b6a756682c88e10ad63ca4a1f9dd81be1366202a60c118edc", func := "pub-kmsg/laws.FnAgainProduceRequest", spec := "fnAgainProduceRequest", inPlace := ["internal/reflectlite.ValueOf", "internal/reflectlite.Swapper", "(internal/reflectlite.Value).Len"], unfollowed := true, recurses := true, named := ["encoding/binary.BigEndian", "pub-kmsg/pub/kmsg/inner/kbin.ErrNotEnoughData"], loops := true, apart := false, laid := [("pub-kmsg/pub/kmsg/inner/kbin.ErrNotEnoughData", laid_pub_kmsg_pub_kmsg_inner_kbin_ErrNotEnoughData)], narrowed := true }
def FnAgainProduceRequestUptoSaid : Prop := fnAgainProduceRequestUptoRow.holds Tryz.pinned (OpenSpec.upto fnAgainProduceRequestSpec)

/-- 'laws.FnAgainJoinGroupRequest', WHERE WHAT IT READS IS OF BULK AT MOST 1048576: true; the input reads as it did. -/
def fnAgainJoinGroupRequestUptoRow : OpenClaim := { program := "ytgmhfkgdapljpaagreatdoor", sum := "743116e469d43c2b6a756682c88e10ad63ca4a1f9dd81be1366202a60c118edc", func := "pub-kmsg/laws.FnAgainJoinGroupRequest", spec := "fnAgainJoinGroupRequest", inPlace := ["internal/reflectlite.ValueOf", "internal/reflectlite.Swapper", "(internal/reflectlite.Value).Len"], unfollowed := true, recurses := true, named := ["encoding/binary.BigEndian", "pub-kmsg/pub/kmsg/inner/kbin.ErrNotEnoughData"], loops := true, apart := false, laid := [("pub-kmsg/pub/kmsg/inner/kbin.ErrNotEnoughData", laid_pub_kmsg_pub_kmsg_inner_kbin_ErrNotEnoughData)], narrowed := true }
def FnAgainJoinGroupRequestUptoSaid : Prop := fnAgainJoinGroupRequestUptoRow.holds Tryz.pinned (OpenSpec.upto fnAgainJoinGroupRequestSpec)

end Rows
end Go.Proofs.YtgmhfkgdapljpaaGreatDoor
