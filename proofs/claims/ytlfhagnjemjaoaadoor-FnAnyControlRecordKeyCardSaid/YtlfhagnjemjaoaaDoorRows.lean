/-
  NARROWER THAN 'FOR EVERY INPUT', by the rows' own cells (each row's printed sentence says how): FnAnyAddPartitionsToTxnResponse: laid · FnAnyTxnOffsetCommitRequest: laid · FnAnyControlRecordKey: laid · FnTellOld: laid.
  DERIVED. THE GIVEN ROWS OF THIS SEAT. 4 by the template 'for every input the law returns true; each argument reads behind the call as it read before'; 0 by the template 'total and deterministic' (their statements: YtlfhagnjemjaoaaDoorTotals.lean).
  GIVEN WITH THE SEED: the statements are not yours to turn. If you find one false, say at which input.
  Laid BY PROGRAM, IN A SANDBOX (cutbox-rows.mjs): the forced cells as the released guide's own fill.sh prints them over the translation 1a2c76d0d7489ae0… (all of the seat's roots in one cut). By AI agents, Wed Nov 11 2026. No macro, syntax, notation, axiom, sorry.
-/
import Derived.Test.YtlfhagnjemjaoaaDoorChecked
import GoSem.Claim
import GoSem.ClaimJoined
import GoSem.ClaimMapViews
import Derived.JoinedTies
import Derived.KernelRfl
namespace Go.Proofs.YtlfhagnjemjaoaaDoor
/- THE CELL 'sum', in the pinned program and in every row, IS THE sha256 OF THE DUMP (.gsa) THAT YtlfhagnjemjaoaaDoorProg.lean LOADS. Nothing in Lean hashes anything: it is a label: what it is worth is what the hold of that sum in a sandbox is worth. -/
noncomputable def Tryd.pinned : Pinned := { name := "ytlfhagnjemjaoaadoor", sum := "1a2c76d0d7489ae0dd3d29daaa20a0809e53e073e6d7255ad808fe835d65f14c", checked := Tryd.checked }
namespace Rows
def none {H : Type} : Left H := { results := [], args := [] }

/- WHAT THE LISTED PACKAGE-LEVEL VARIABLES READ AS WHEN THE CALL BEGINS. Each datum BY PROGRAM (the guide's laid-datum.mjs) off the statement by which the dump's own 'gosem.cut.vars' lays the variable. In a bare row this is a premise. The card (YtlfhagnjemjaoaaDoorCards.lean) ties it to the program's text. -/
def laid_pub_kmsg_pub_kmsg_inner_kbin_ErrNotEnoughData {H : Type} : DataW H := .iface "*errors.errorString" (.ptr (.agg [.lit (.string [114, 101, 115, 112, 111, 110, 115, 101, 32, 100, 105, 100, 32, 110, 111, 116, 32, 99, 111, 110, 116, 97, 105, 110, 32, 101, 110, 111, 117, 103, 104, 32, 100, 97, 116, 97, 32, 116, 111, 32, 98, 101, 32, 118, 97, 108, 105, 100])]))

/-- 'laws.FnAnyAddPartitionsToTxnResponse': WHATEVER THE INPUT: true; the input reads as it did. -/
def fnAnyAddPartitionsToTxnResponseSpec : ChangeSpec := { name := "fnAnyAddPartitionsToTxnResponse", fn := fun _ => fun
  | [d1, d2] => { results := [.lit (.bool true)], args := [d1, d2] }
  | _ => none }
def fnAnyAddPartitionsToTxnResponseRow : OpenClaim := { program := "ytlfhagnjemjaoaadoor", sum := "1a2c76d0d7489ae0dd3d29daaa20a0809e53e073e6d7255ad808fe835d65f14c", func := "pub-kmsg/laws.FnAnyAddPartitionsToTxnResponse", spec := "fnAnyAddPartitionsToTxnResponse", inPlace := ["internal/reflectlite.ValueOf", "internal/reflectlite.Swapper", "(internal/reflectlite.Value).Len"], unfollowed := true, recurses := true, named := ["encoding/binary.BigEndian", "pub-kmsg/pub/kmsg/inner/kbin.ErrNotEnoughData"], apart := false, laid := [("pub-kmsg/pub/kmsg/inner/kbin.ErrNotEnoughData", laid_pub_kmsg_pub_kmsg_inner_kbin_ErrNotEnoughData)] }
def FnAnyAddPartitionsToTxnResponseSaid : Prop := fnAnyAddPartitionsToTxnResponseRow.holds Tryd.pinned (OpenSpec.ofChange fnAnyAddPartitionsToTxnResponseSpec)

/-- ITS FALSE NEIGHBOUR: 'it returns false'. Refute it at one input. -/
def fnAnyAddPartitionsToTxnResponseWrong : ChangeSpec := { name := "fnAnyAddPartitionsToTxnResponse", fn := fun _ => fun
  | [d1, d2] => { results := [.lit (.bool false)], args := [d1, d2] }
  | _ => none }
def FnAnyAddPartitionsToTxnResponseWrongFalsely : Prop := fnAnyAddPartitionsToTxnResponseRow.holds Tryd.pinned (OpenSpec.ofChange fnAnyAddPartitionsToTxnResponseWrong)

/-- 'laws.FnAnyTxnOffsetCommitRequest': WHATEVER THE INPUT: true; the input reads as it did. -/
def fnAnyTxnOffsetCommitRequestSpec : ChangeSpec := { name := "fnAnyTxnOffsetCommitRequest", fn := fun _ => fun
  | [d1, d2] => { results := [.lit (.bool true)], args := [d1, d2] }
  | _ => none }
def fnAnyTxnOffsetCommitRequestRow : OpenClaim := { program := "ytlfhagnjemjaoaadoor", sum := "1a2c76d0d7489ae0dd3d29daaa20a0809e53e073e6d7255ad808fe835d65f14c", func := "pub-kmsg/laws.FnAnyTxnOffsetCommitRequest", spec := "fnAnyTxnOffsetCommitRequest", inPlace := ["internal/reflectlite.ValueOf", "internal/reflectlite.Swapper", "(internal/reflectlite.Value).Len"], unfollowed := true, recurses := true, named := ["encoding/binary.BigEndian", "pub-kmsg/pub/kmsg/inner/kbin.ErrNotEnoughData"], apart := false, laid := [("pub-kmsg/pub/kmsg/inner/kbin.ErrNotEnoughData", laid_pub_kmsg_pub_kmsg_inner_kbin_ErrNotEnoughData)] }
def FnAnyTxnOffsetCommitRequestSaid : Prop := fnAnyTxnOffsetCommitRequestRow.holds Tryd.pinned (OpenSpec.ofChange fnAnyTxnOffsetCommitRequestSpec)

/-- ITS FALSE NEIGHBOUR: 'it returns false'. Refute it at one input. -/
def fnAnyTxnOffsetCommitRequestWrong : ChangeSpec := { name := "fnAnyTxnOffsetCommitRequest", fn := fun _ => fun
  | [d1, d2] => { results := [.lit (.bool false)], args := [d1, d2] }
  | _ => none }
def FnAnyTxnOffsetCommitRequestWrongFalsely : Prop := fnAnyTxnOffsetCommitRequestRow.holds Tryd.pinned (OpenSpec.ofChange fnAnyTxnOffsetCommitRequestWrong)

/-- 'laws.FnAnyControlRecordKey': WHATEVER THE INPUT: true; the input reads as it did. -/
def fnAnyControlRecordKeySpec : ChangeSpec := { name := "fnAnyControlRecordKey", fn := fun _ => fun
  | [d] => { results := [.lit (.bool true)], args := [d] }
  | _ => none }
def fnAnyControlRecordKeyRow : OpenClaim := { program := "ytlfhagnjemjaoaadoor", sum := "1a2c76d0d7489ae0dd3d29daaa20a0809e53e073e6d7255ad808fe835d65f14c", func := "pub-kmsg/laws.FnAnyControlRecordKey", spec := "fnAnyControlRecordKey", recurses := true, named := ["encoding/binary.BigEndian", "pub-kmsg/pub/kmsg/inner/kbin.ErrNotEnoughData"], apart := false, laid := [("pub-kmsg/pub/kmsg/inner/kbin.ErrNotEnoughData", laid_pub_kmsg_pub_kmsg_inner_kbin_ErrNotEnoughData)] }
def FnAnyControlRecordKeySaid : Prop := fnAnyControlRecordKeyRow.holds Tryd.pinned (OpenSpec.ofChange fnAnyControlRecordKeySpec)

/-- ITS FALSE NEIGHBOUR: 'it returns false'. Refute it at one input. -/
def fnAnyControlRecordKeyWrong : ChangeSpec := { name := "fnAnyControlRecordKey", fn := fun _ => fun
  | [d] => { results := [.lit (.bool false)], args := [d] }
  | _ => none }
def FnAnyControlRecordKeyWrongFalsely : Prop := fnAnyControlRecordKeyRow.holds Tryd.pinned (OpenSpec.ofChange fnAnyControlRecordKeyWrong)

/-- 'laws.FnTellOld': WHATEVER THE INPUT: true; the input reads as it did. -/
def fnTellOldSpec : ChangeSpec := { name := "fnTellOld", fn := fun _ => fun
  | [d1, d2, d3] => { results := [.lit (.bool true)], args := [d1, d2, d3] }
  | _ => none }
def fnTellOldRow : OpenClaim := { program := "ytlfhagnjemjaoaadoor", sum := "1a2c76d0d7489ae0dd3d29daaa20a0809e53e073e6d7255ad808fe835d65f14c", func := "pub-kmsg/laws.FnTellOld", spec := "fnTellOld", unfollowed := true, recurses := true, named := ["encoding/binary.BigEndian", "pub-kmsg/pub/kmsg/inner/kbin.ErrNotEnoughData"], apart := false, laid := [("pub-kmsg/pub/kmsg/inner/kbin.ErrNotEnoughData", laid_pub_kmsg_pub_kmsg_inner_kbin_ErrNotEnoughData)] }
def FnTellOldSaid : Prop := fnTellOldRow.holds Tryd.pinned (OpenSpec.ofChange fnTellOldSpec)

/-- ITS FALSE NEIGHBOUR: 'it returns false'. Refute it at one input. -/
def fnTellOldWrong : ChangeSpec := { name := "fnTellOld", fn := fun _ => fun
  | [d1, d2, d3] => { results := [.lit (.bool false)], args := [d1, d2, d3] }
  | _ => none }
def FnTellOldWrongFalsely : Prop := fnTellOldRow.holds Tryd.pinned (OpenSpec.ofChange fnTellOldWrong)

/- THE SECOND FORM. 'bulk': how many values and letters a reading holds, each counted each time it is reached (what is shared counts as often as it is met; a slice's spare places count too). A statement '..UptoSaid' is the law's where the arguments, and the package variables that the reading takes, are together of bulk at most 1048576: NARROWER than '..Said'. Prove '..Said' where nothing that the law and all that it calls make is longer than what came in: it says more and counts as full. Else prove '..UptoSaid'. A law counts once. -/
mutual
def uptoBulk {H : Type} : DataW H → Nat
  | .lit (.string bytes) => bytes.length + 1
  | .lit _ => 1
  | .nil => 1
  | .ptr d => uptoBulk d + 1
  | .slice elems spare => uptoBulkAll elems + uptoBulkAll spare + 1
  | .agg parts => uptoBulkAll parts + 1
  | .iface _ d => uptoBulk d + 1
  | .map entries => uptoBulkEntries entries + 1
  | .held _ => 1
def uptoBulkAll {H : Type} : List (DataW H) → Nat
  | [] => 0
  | d :: r => uptoBulk d + uptoBulkAll r
def uptoBulkEntries {H : Type} : List (Lit × DataW H) → Nat
  | [] => 0
  | x :: r => uptoBulkEntry x + uptoBulkEntries r
def uptoBulkEntry {H : Type} : Lit × DataW H → Nat
  | (.string bytes, d) => bytes.length + uptoBulk d + 1
  | (_, d) => uptoBulk d + 1
 end
def uptoSmall : (H : Type) → List (DataW H) → Bool := fun _ ds => decide (uptoBulkAll ds ≤ 1048576)
def OpenSpec.upto (s : _root_.Go.ChangeSpec) : _root_.Go.OpenSpec := { _root_.Go.OpenSpec.ofChange s with cond := some uptoSmall }

/-- 'laws.FnAnyAddPartitionsToTxnResponse', WHERE WHAT IT READS IS OF BULK AT MOST 1048576: true; the input reads as it did. -/
def fnAnyAddPartitionsToTxnResponseUptoRow : OpenClaim := { program := "ytlfhagnjemjaoaadoor", sum := "1a2c76d0d7489ae0dd3d29daaa20a0809e53e073e6d7255ad808fe835d65f14c", func := "pub-kmsg/laws.FnAnyAddPartitionsToTxnResponse", spec := "fnAnyAddPartitionsToTxnResponse", inPlace := ["internal/reflectlite.ValueOf", "internal/reflectlite.Swapper", "(internal/reflectlite.Value).Len"], unfollowed := true, recurses := true, named := ["encoding/binary.BigEndian", "pub-kmsg/pub/kmsg/inner/kbin.ErrNotEnoughData"], apart := false, laid := [("pub-kmsg/pub/kmsg/inner/kbin.ErrNotEnoughData", laid_pub_kmsg_pub_kmsg_inner_kbin_ErrNotEnoughData)], narrowed := true }
def FnAnyAddPartitionsToTxnResponseUptoSaid : Prop := fnAnyAddPartitionsToTxnResponseUptoRow.holds Tryd.pinned (OpenSpec.upto fnAnyAddPartitionsToTxnResponseSpec)

/-- 'laws.FnAnyTxnOffsetCommitRequest', WHERE WHAT IT READS IS OF BULK AT MOST 1048576: true; the input reads as it did. -/
def fnAnyTxnOffsetCommitRequestUptoRow : OpenClaim := { program := "ytlfhagnjemjaoaadoor", sum := "1a2c76d0d7489ae0dd3d29daaa20a0809e53e073e6d7255ad808fe835d65f14c", func := "pub-kmsg/laws.FnAnyTxnOffsetCommitRequest", spec := "fnAnyTxnOffsetCommitRequest", inPlace := ["internal/reflectlite.ValueOf", "internal/reflectlite.Swapper", "(internal/reflectlite.Value).Len"], unfollowed := true, recurses := true, named := ["encoding/binary.BigEndian", "pub-kmsg/pub/kmsg/inner/kbin.ErrNotEnoughData"], apart := false, laid := [("pub-kmsg/pub/kmsg/inner/kbin.ErrNotEnoughData", laid_pub_kmsg_pub_kmsg_inner_kbin_ErrNotEnoughData)], narrowed := true }
def FnAnyTxnOffsetCommitRequestUptoSaid : Prop := fnAnyTxnOffsetCommitRequestUptoRow.holds Tryd.pinned (OpenSpec.upto fnAnyTxnOffsetCommitRequestSpec)

/-- 'laws.FnAnyControlRecordKey', WHERE WHAT IT READS IS OF BULK AT MOST 1048576: true; the input reads as it did. -/
def fnAnyControlRecordKeyUptoRow : OpenClaim := { program := "ytlfhagnjemjaoaadoor", sum := "1a2c76d0d7489ae0dd3d29daaa20a0809e53e073e6d7255ad808fe835d65f14c", func := "pub-kmsg/laws.FnAnyControlRecordKey", spec := "fnAnyControlRecordKey", recurses := true, named := ["encoding/binary.BigEndian", "pub-kmsg/pub/kmsg/inner/kbin.ErrNotEnoughData"], apart := false, laid := [("pub-kmsg/pub/kmsg/inner/kbin.ErrNotEnoughData", laid_pub_kmsg_pub_kmsg_inner_kbin_ErrNotEnoughData)], narrowed := true }
def FnAnyControlRecordKeyUptoSaid : Prop := fnAnyControlRecordKeyUptoRow.holds Tryd.pinned (OpenSpec.upto fnAnyControlRecordKeySpec)

/-- 'laws.FnTellOld', WHERE WHAT IT READS IS OF BULK AT MOST 1048576: true; the input reads as it did. -/
def fnTellOldUptoRow : OpenClaim := { program := "ytlfhagnjemjaoaadoor", sum := "1a2c76d0d7489ae0dd3d29daaa20a0809e53e073e6d7255ad808fe835d65f14c", func := "pub-kmsg/laws.FnTellOld", spec := "fnTellOld", unfollowed := true, recurses := true, named := ["encoding/binary.BigEndian", "pub-kmsg/pub/kmsg/inner/kbin.ErrNotEnoughData"], apart := false, laid := [("pub-kmsg/pub/kmsg/inner/kbin.ErrNotEnoughData", laid_pub_kmsg_pub_kmsg_inner_kbin_ErrNotEnoughData)], narrowed := true }
def FnTellOldUptoSaid : Prop := fnTellOldUptoRow.holds Tryd.pinned (OpenSpec.upto fnTellOldSpec)

end Rows
end Go.Proofs.YtlfhagnjemjaoaaDoor
