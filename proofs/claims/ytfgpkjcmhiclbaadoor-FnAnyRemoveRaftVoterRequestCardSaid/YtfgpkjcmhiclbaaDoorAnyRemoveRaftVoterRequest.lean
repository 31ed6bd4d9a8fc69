/- What is read of any octets as a RemoveRaftVoterRequest is written as octets that are read again, and written as the same: whatever the octets; the variable that the row lists holds what the text lays. -/
import Derived.Test.YtfgpkjcmhiclbaaDoorKmEnv
import Derived.Test.YtfgpkjcmhiclbaaDoorKa00
import Derived.Test.YtfgpkjcmhiclbaaDoorCards
import Derived.Test.YtfgpkjcmhiclbaaDoorTie
import Derived.WalkKit
import Derived.ProofKit
import Derived.OpenShut
import Derived.Handy
import Derived.Lay
import Derived.Deep.DeepHandedRow
import Derived.Deep.DeepWitnessRowRef
import Derived.SevenTiedAt
set_option linter.unusedVariables false
set_option linter.unusedSimpArgs false
namespace Go.Proofs.YtfgpkjcmhiclbaaDoor.fnAnyRemoveRaftVoterRequest
open Go Go.Km Go.ChangeShapes Go.WideShapes Go.ChangeAt Go.RowKit
def m : Msg := { TP := 62, TU := 122, FD := 95, flex := some 0, kept := false, fs := (.cons .all .ntext (.cons .all (.scal .i32 0) (.cons .all .uuid (.nil true)))) }
def mr : MR := { newPtr := 54, setV := 56, app := 58, rd := 57, rdi := 96, again := 26 }
theorem nw : NewC Tryd.prog mr.newPtr m := c_newPtr_ok (E := E) (np := 0) (npd := 1) (tt Tryd.func54 (by kernel_rfl) rfl (by kernel_rfl) (by decide)) (by decide) (tt Tryd.func95 (by kernel_rfl) rfl (by kernel_rfl) (by decide)) (by decide) (by kernel_rfl) (by kernel_rfl)
theorem im (w : World) : CallsV Tryd.prog 25 #[] w fun v w' => v = .int .i64 (0 : Nat) ∧ Below w.heap.size w w' := c_implMaxA_ok (E := E) (F := 25) (npf := mr.newPtr) (mvf := 55) (m := m) (np := 0) (mx := 0) i16k ik (tt Tryd.func25 (by kernel_rfl) rfl (by kernel_rfl) (by decide)) (by decide) nw (fun x w => c_maxV_ok (E := E) (np := 1) (mx := 0) (tt Tryd.func55 (by kernel_rfl) rfl (by kernel_rfl) (by decide)) (by decide) x w) (by decide) w
theorem txr : m.fs.txR Tryd.prog E := ⟨trivial, ⟨trivial, ⟨trivial, trivial⟩⟩⟩
theorem rd : ReadC Tryd.prog E (fun _ => True) m mr.rd := c_rfw_ok (np := 2) (npr := 3) (npd := 1) er rx trivial (tt Tryd.func57 (by kernel_rfl) rfl (by kernel_rfl) (by decide)) (by decide) (tt Tryd.func96 (by kernel_rfl) rfl (by kernel_rfl) (by decide)) (of_decide_eq_true (by kernel_rfl)) (tt Tryd.func95 (by kernel_rfl) rfl (by kernel_rfl) (by decide)) (by decide) (by kernel_rfl) (by kernel_rfl) txr (by kernel_rfl) (fun h => by cases h)
theorem lp : lpB m 0 = true := by kernel_rfl
theorem ag : AgainC Tryd.prog E m mr.again 0 := againC (np := 2) (nps := 2) (npa := 2) ew ei rt.row i16k ik o16 ifE (tt Tryd.func26 (by kernel_rfl) rfl (by kernel_rfl) (by decide)) (by decide) nw (tt Tryd.func56 (by kernel_rfl) rfl (by kernel_rfl) (by decide)) (by decide) (by kernel_rfl) rd (tt Tryd.func58 (by kernel_rfl) rfl (by kernel_rfl) (by decide)) (of_decide_eq_true (by kernel_rfl)) (by kernel_rfl) rfl (by decide) lp
def ma : MA := { implMax := 25, again := mr.again, law := 8, tTup := 24 }
set_option maxRecDepth 100000 in
theorem walk {W : World} (hL : laidMetH Tryd.prog Rows.fnAnyRemoveRaftVoterRequestRow.laid W) (n : Nat) (hn : n < 256) (sv : Value) (l : List UInt8) (hin : BytesIn Tryd.prog E W sv l) (hl : l.length ≤ maxLen) : CallsV Tryd.prog ma.law #[.int .u8 n, sv] W fun v w' => v = .bool true ∧ Below W.heap.size W w' := by
  obtain ⟨ev, he, hev⟩ := laid_ev (g := E.vErr) (ti := E.tErr) (by kernel_rfl) (by kernel_rfl) ifE (by kernel_rfl) hL
  exact c_any_ok (np := 2) (m := m) rt.u8 rt.int rt.oU8 rt.mixed sm rt.row lv (tt Tryd.func8 (by kernel_rfl) rfl (by kernel_rfl) (by decide)) (by decide) im (by decide) ag (fun ver hv l a h => back_again rfl (lpB_at lp hv) h) hn hin (Nat.le_trans hl (by decide)) he hev
set_option maxRecDepth 100000 in
theorem contract (H : Type) (enc : TypeId × Value → H) (W : World) (base : Nat) (args : Array Value) (ds gs : List (DataW H)) (before : List MemPlace)
    (hval : ∀ (j : Nat) t v, Tryd.f8.params[j]? = some t → args[j]? = some v → Value.okWide Tryd.prog W .any base t v)
    (hW : DataW.Whole enc Tryd.prog Tryd.f8.params.toList Rows.fnAnyRemoveRaftVoterRequestSpec.vars false W args.toList ds gs before) (hL : laidMetH Tryd.prog Rows.fnAnyRemoveRaftVoterRequestRow.laid W) :
    Calls Tryd.prog 8 args W fun e W' => ∃ v, e = .returned v ∧ Rows.fnAnyRemoveRaftVoterRequestSpec.post enc Tryd.prog Tryd.f8 false true false false W args v W' :=
  anyRow (E := E) (tb := 4) Tryd.params8 (by kernel_rfl) Tryd.underlying4 rfl (fun _ _ => rfl) lo ⟨by kernel_rfl, of_decide_eq_true (by kernel_rfl)⟩ ⟨by kernel_rfl, of_decide_eq_true (by kernel_rfl)⟩ Tryd.underlying5 Tryd.underlying22 (by kernel_rfl) (walk hL) hval hW
noncomputable def laidWorld (os : Os) : World := World.laidAll Tryd.prog os Rows.fnAnyRemoveRaftVoterRequestRow.laid
theorem laid_met (os : Os) : laidMetH Tryd.prog Rows.fnAnyRemoveRaftVoterRequestRow.laid ((laidWorld os).forCall (fun _ _ => 0) ⟨#[], #[.int .u8 0, .slice none 0 0], []⟩).memory := by
  rw [MakeChecks.laidMetH_plain _ _ _ (by kernel_rfl)]
  exact laidMet_laidAll _ (by kernel_rfl) (by kernel_rfl)
theorem reads (os : Os) {H : Type} (enc : TypeId × Value → H) : ∃ places, DataW.whole enc Tryd.prog ((laidWorld os).forCall (fun _ _ => 0) ⟨#[], #[.int .u8 0, .slice none 0 0], []⟩).memory Tryd.f8.params.toList Rows.fnAnyRemoveRaftVoterRequestSpec.vars false #[Value.int .u8 0, .slice none 0 0].toList 8 = some ([.lit (.int .u8 0), .nil], [], places) :=
  ⟨[], by kernel_rfl⟩
set_option maxRecDepth 100000 in
theorem lifted (os : Os) (started : os.Started) (H : Type) (enc : TypeId × Value → H) (F : Stop.Interp) :
    ReturnsInHanded {} Tryd.checked os 8 .any ((OpenSpec.ofChange Rows.fnAnyRemoveRaftVoterRequestSpec).preRow enc Tryd.prog Tryd.f8 Rows.fnAnyRemoveRaftVoterRequestRow.domain false Rows.fnAnyRemoveRaftVoterRequestRow.laid) (((OpenSpec.ofChange Rows.fnAnyRemoveRaftVoterRequestSpec).at F).post enc Tryd.prog Tryd.f8 false true false false) := by
  obtain ⟨places, hx⟩ := reads os enc
  refine returnsInHanded_of_row (C := Tryd.checked) (s := OpenSpec.ofChange Rows.fnAnyRemoveRaftVoterRequestSpec) own started (by kernel_rfl) Tryd.func8
    (witness_row_atRef (enc := enc) (C := Tryd.checked) false (laidWorld os) #[.int .u8 0, .slice none 0 0] (World.laidAll_os _ _ _) (by kernel_rfl) (by kernel_rfl) (by kernel_rfl)
      (OpenSpec.preRow_of_cond 8 hx (by kernel_rfl) (fun k hk => by cases hk) (by kernel_rfl) (laid_met os))) ?_
  intro W base args ds gs before hval hW _ _ _ hL _ _
  exact contract H enc W base args ds gs before hval hW hL
theorem facts : joinedFacts Tryd.prog 8 Tryd.f8 (OpenSpec.ofChange Rows.fnAnyRemoveRaftVoterRequestSpec).bare Rows.fnAnyRemoveRaftVoterRequestRow = true := by
  unfold joinedFacts
  rw [lf, me]
  kernel_rfl
theorem said : Rows.FnAnyRemoveRaftVoterRequestSaid :=
  OpenClaim.holds_of_cond 8 Tryd.f8 rfl rfl rfl rfl rfl rfl rfl ⟨rfl, rfl, rfl, rfl, rfl⟩ rfl rfl rfl rfl rfl (by kernel_rfl) Tryd.func8 facts
    (of_decide_eq_true (by kernel_rfl)) (by unfold Func.isWrapper; first | (rw [if_pos (by decide +kernel)]; kernel_rfl) | (rw [if_neg (by decide +kernel)]; exact ⟨rfl, rfl⟩))
    (fun os started H enc _ F => by rw [OpenClaim.pre_eq_preRow]; exact lifted os started H enc F)
theorem plain (f : FuncId) (fn : Func) (hf : Tryd.pinned.checked.prog.funcNamed "pub-kmsg/laws.FnAnyRemoveRaftVoterRequest" = some f) (hfn : Tryd.pinned.checked.prog.funcs[f]? = some fn) :
    false = Tryd.pinned.checked.prog.looks [] ∧ ∀ (j : Nat) t, fn.params[j]? = some t → Tryd.pinned.checked.prog.wantsStandIn t = false := by
  obtain rfl : f = 8 := Option.some.inj ((show Tryd.prog.funcNamed "pub-kmsg/laws.FnAnyRemoveRaftVoterRequest" = some 8 by kernel_rfl).symm.trans hf) |>.symm
  obtain rfl : fn = Tryd.f8 := (Option.some.inj (Tryd.func8.symm.trans hfn)).symm
  refine ⟨by kernel_rfl, fun j t ht => ?_⟩
  rw [Tryd.params8] at ht
  have hm : t ∈ [5, 22] := by simpa using Array.mem_of_getElem? ht
  have hall : ([5, 22].all fun u => !Tryd.prog.wantsStandIn u) = true := by kernel_rfl
  exact (show Tryd.prog.wantsStandIn t = false by simpa using List.all_eq_true.1 hall t hm)
theorem card : Rows.FnAnyRemoveRaftVoterRequestCardSaid :=
  Claim7.holds_tied_plain_at .later [] _ _ _ _ said (fun _ h => by cases h) (by kernel_rfl) (fun _ h => by cases h) fnAnyRemoveRaftVoterRequest_row_tie rfl ⟨rfl, rfl⟩ (by kernel_rfl) rfl plain (by kernel_rfl)
end Go.Proofs.YtfgpkjcmhiclbaaDoor.fnAnyRemoveRaftVoterRequest
namespace Go.Proofs.YtfgpkjcmhiclbaaDoor
/-- The card, under a short name, for the claim. -/
theorem fnAnyRemoveRaftVoterRequest_holds : Rows.FnAnyRemoveRaftVoterRequestCardSaid := fnAnyRemoveRaftVoterRequest.card
end Go.Proofs.YtfgpkjcmhiclbaaDoor
