/- What is read of any octets as a ExpireDelegationTokenRequest is written as octets that are read again, and written as the same: whatever the octets; the variable that the row lists holds what the text lays. -/
import Derived.Test.YtfgpkjcmhiclbaaDoorKmEnv
import Derived.Test.YtfgpkjcmhiclbaaDoorKa00
import Derived.Test.YtfgpkjcmhiclbaaDoorCards
import Derived.Test.YtfgpkjcmhiclbaaDoorTie
import Derived.WalkKit
import Derived.ProofKit
import Derived.OpenShut
import Derived.Handy
import Derived.Lay
import Derived.Deep.DeepHandedRow
import Derived.Deep.DeepWitnessRowRef
import Derived.SevenTiedAt
set_option linter.unusedVariables false
set_option linter.unusedSimpArgs false
namespace Go.Proofs.YtfgpkjcmhiclbaaDoor.fnAnyExpireDelegationTokenRequest
open Go Go.Km Go.ChangeShapes Go.WideShapes Go.ChangeAt Go.RowKit
def m : Msg := { TP := 60, TU := 118, FD := 90, flex := some 2, kept := false, fs := (.cons .all .bytes (.cons .all (.scal .i64 0) (.nil true))) }
def mr : MR := { newPtr := 49, setV := 51, app := 53, rd := 52, rdi := 91, again := 24 }
theorem nw : NewC Tryd.prog mr.newPtr m := c_newPtr_ok (E := E) (np := 0) (npd := 1) (tt Tryd.func49 (by kernel_rfl) rfl (by kernel_rfl) (by decide)) (by decide) (tt Tryd.func90 (by kernel_rfl) rfl (by kernel_rfl) (by decide)) (by decide) (by kernel_rfl) (by kernel_rfl)
theorem im (w : World) : CallsV Tryd.prog 23 #[] w fun v w' => v = .int .i64 (2 : Nat) ∧ Below w.heap.size w w' := c_implMaxA_ok (E := E) (F := 23) (npf := mr.newPtr) (mvf := 50) (m := m) (np := 0) (mx := 2) i16k ik (tt Tryd.func23 (by kernel_rfl) rfl (by kernel_rfl) (by decide)) (by decide) nw (fun x w => c_maxV_ok (E := E) (np := 1) (mx := 2) (tt Tryd.func50 (by kernel_rfl) rfl (by kernel_rfl) (by decide)) (by decide) x w) (by decide) w
theorem txr : m.fs.txR Tryd.prog E := ⟨trivial, ⟨trivial, trivial⟩⟩
theorem rd : ReadC Tryd.prog E (fun _ => True) m mr.rd := c_rfw_ok (np := 2) (npr := 3) (npd := 1) er rx trivial (tt Tryd.func52 (by kernel_rfl) rfl (by kernel_rfl) (by decide)) (by decide) (tt Tryd.func91 (by kernel_rfl) rfl (by kernel_rfl) (by decide)) (of_decide_eq_true (by kernel_rfl)) (tt Tryd.func90 (by kernel_rfl) rfl (by kernel_rfl) (by decide)) (by decide) (by kernel_rfl) (by kernel_rfl) txr (by kernel_rfl) (fun h => by cases h)
theorem lp : lpB m 2 = true := by kernel_rfl
theorem ag : AgainC Tryd.prog E m mr.again 2 := againC (np := 2) (nps := 2) (npa := 2) ew ei rt.row i16k ik o16 ifE (tt Tryd.func24 (by kernel_rfl) rfl (by kernel_rfl) (by decide)) (by decide) nw (tt Tryd.func51 (by kernel_rfl) rfl (by kernel_rfl) (by decide)) (by decide) (by kernel_rfl) rd (tt Tryd.func53 (by kernel_rfl) rfl (by kernel_rfl) (by decide)) (of_decide_eq_true (by kernel_rfl)) (by kernel_rfl) rfl (by decide) lp
def ma : MA := { implMax := 23, again := mr.again, law := 7, tTup := 24 }
set_option maxRecDepth 100000 in
theorem walk {W : World} (hL : laidMetH Tryd.prog Rows.fnAnyExpireDelegationTokenRequestRow.laid W) (n : Nat) (hn : n < 256) (sv : Value) (l : List UInt8) (hin : BytesIn Tryd.prog E W sv l) (hl : l.length ≤ maxLen) : CallsV Tryd.prog ma.law #[.int .u8 n, sv] W fun v w' => v = .bool true ∧ Below W.heap.size W w' := by
  obtain ⟨ev, he, hev⟩ := laid_ev (g := E.vErr) (ti := E.tErr) (by kernel_rfl) (by kernel_rfl) ifE (by kernel_rfl) hL
  exact c_any_ok (np := 2) (m := m) rt.u8 rt.int rt.oU8 rt.mixed sm rt.row lv (tt Tryd.func7 (by kernel_rfl) rfl (by kernel_rfl) (by decide)) (by decide) im (by decide) ag (fun ver hv l a h => back_again rfl (lpB_at lp hv) h) hn hin (Nat.le_trans hl (by decide)) he hev
set_option maxRecDepth 100000 in
theorem contract (H : Type) (enc : TypeId × Value → H) (W : World) (base : Nat) (args : Array Value) (ds gs : List (DataW H)) (before : List MemPlace)
    (hval : ∀ (j : Nat) t v, Tryd.f7.params[j]? = some t → args[j]? = some v → Value.okWide Tryd.prog W .any base t v)
    (hW : DataW.Whole enc Tryd.prog Tryd.f7.params.toList Rows.fnAnyExpireDelegationTokenRequestSpec.vars false W args.toList ds gs before) (hL : laidMetH Tryd.prog Rows.fnAnyExpireDelegationTokenRequestRow.laid W) :
    Calls Tryd.prog 7 args W fun e W' => ∃ v, e = .returned v ∧ Rows.fnAnyExpireDelegationTokenRequestSpec.post enc Tryd.prog Tryd.f7 false true false false W args v W' :=
  anyRow (E := E) (tb := 4) Tryd.params7 (by kernel_rfl) Tryd.underlying4 rfl (fun _ _ => rfl) lo ⟨by kernel_rfl, of_decide_eq_true (by kernel_rfl)⟩ ⟨by kernel_rfl, of_decide_eq_true (by kernel_rfl)⟩ Tryd.underlying5 Tryd.underlying22 (by kernel_rfl) (walk hL) hval hW
noncomputable def laidWorld (os : Os) : World := World.laidAll Tryd.prog os Rows.fnAnyExpireDelegationTokenRequestRow.laid
theorem laid_met (os : Os) : laidMetH Tryd.prog Rows.fnAnyExpireDelegationTokenRequestRow.laid ((laidWorld os).forCall (fun _ _ => 0) ⟨#[], #[.int .u8 0, .slice none 0 0], []⟩).memory := by
  rw [MakeChecks.laidMetH_plain _ _ _ (by kernel_rfl)]
  exact laidMet_laidAll _ (by kernel_rfl) (by kernel_rfl)
theorem reads (os : Os) {H : Type} (enc : TypeId × Value → H) : ∃ places, DataW.whole enc Tryd.prog ((laidWorld os).forCall (fun _ _ => 0) ⟨#[], #[.int .u8 0, .slice none 0 0], []⟩).memory Tryd.f7.params.toList Rows.fnAnyExpireDelegationTokenRequestSpec.vars false #[Value.int .u8 0, .slice none 0 0].toList 8 = some ([.lit (.int .u8 0), .nil], [], places) :=
  ⟨[], by kernel_rfl⟩
set_option maxRecDepth 100000 in
theorem lifted (os : Os) (started : os.Started) (H : Type) (enc : TypeId × Value → H) (F : Stop.Interp) :
    ReturnsInHanded {} Tryd.checked os 7 .any ((OpenSpec.ofChange Rows.fnAnyExpireDelegationTokenRequestSpec).preRow enc Tryd.prog Tryd.f7 Rows.fnAnyExpireDelegationTokenRequestRow.domain false Rows.fnAnyExpireDelegationTokenRequestRow.laid) (((OpenSpec.ofChange Rows.fnAnyExpireDelegationTokenRequestSpec).at F).post enc Tryd.prog Tryd.f7 false true false false) := by
  obtain ⟨places, hx⟩ := reads os enc
  refine returnsInHanded_of_row (C := Tryd.checked) (s := OpenSpec.ofChange Rows.fnAnyExpireDelegationTokenRequestSpec) own started (by kernel_rfl) Tryd.func7
    (witness_row_atRef (enc := enc) (C := Tryd.checked) false (laidWorld os) #[.int .u8 0, .slice none 0 0] (World.laidAll_os _ _ _) (by kernel_rfl) (by kernel_rfl) (by kernel_rfl)
      (OpenSpec.preRow_of_cond 8 hx (by kernel_rfl) (fun k hk => by cases hk) (by kernel_rfl) (laid_met os))) ?_
  intro W base args ds gs before hval hW _ _ _ hL _ _
  exact contract H enc W base args ds gs before hval hW hL
theorem facts : joinedFacts Tryd.prog 7 Tryd.f7 (OpenSpec.ofChange Rows.fnAnyExpireDelegationTokenRequestSpec).bare Rows.fnAnyExpireDelegationTokenRequestRow = true := by
  unfold joinedFacts
  rw [lf, me]
  kernel_rfl
theorem said : Rows.FnAnyExpireDelegationTokenRequestSaid :=
  OpenClaim.holds_of_cond 7 Tryd.f7 rfl rfl rfl rfl rfl rfl rfl ⟨rfl, rfl, rfl, rfl, rfl⟩ rfl rfl rfl rfl rfl (by kernel_rfl) Tryd.func7 facts
    (of_decide_eq_true (by kernel_rfl)) (by unfold Func.isWrapper; first | (rw [if_pos (by decide +kernel)]; kernel_rfl) | (rw [if_neg (by decide +kernel)]; exact ⟨rfl, rfl⟩))
    (fun os started H enc _ F => by rw [OpenClaim.pre_eq_preRow]; exact lifted os started H enc F)
theorem plain (f : FuncId) (fn : Func) (hf : Tryd.pinned.checked.prog.funcNamed "pub-kmsg/laws.FnAnyExpireDelegationTokenRequest" = some f) (hfn : Tryd.pinned.checked.prog.funcs[f]? = some fn) :
    false = Tryd.pinned.checked.prog.looks [] ∧ ∀ (j : Nat) t, fn.params[j]? = some t → Tryd.pinned.checked.prog.wantsStandIn t = false := by
  obtain rfl : f = 7 := Option.some.inj ((show Tryd.prog.funcNamed "pub-kmsg/laws.FnAnyExpireDelegationTokenRequest" = some 7 by kernel_rfl).symm.trans hf) |>.symm
  obtain rfl : fn = Tryd.f7 := (Option.some.inj (Tryd.func7.symm.trans hfn)).symm
  refine ⟨by kernel_rfl, fun j t ht => ?_⟩
  rw [Tryd.params7] at ht
  have hm : t ∈ [5, 22] := by simpa using Array.mem_of_getElem? ht
  have hall : ([5, 22].all fun u => !Tryd.prog.wantsStandIn u) = true := by kernel_rfl
  exact (show Tryd.prog.wantsStandIn t = false by simpa using List.all_eq_true.1 hall t hm)
theorem card : Rows.FnAnyExpireDelegationTokenRequestCardSaid :=
  Claim7.holds_tied_plain_at .later [] _ _ _ _ said (fun _ h => by cases h) (by kernel_rfl) (fun _ h => by cases h) fnAnyExpireDelegationTokenRequest_row_tie rfl ⟨rfl, rfl⟩ (by kernel_rfl) rfl plain (by kernel_rfl)
end Go.Proofs.YtfgpkjcmhiclbaaDoor.fnAnyExpireDelegationTokenRequest
namespace Go.Proofs.YtfgpkjcmhiclbaaDoor
/-- The card, under a short name, for the claim. -/
theorem fnAnyExpireDelegationTokenRequest_holds : Rows.FnAnyExpireDelegationTokenRequestCardSaid := fnAnyExpireDelegationTokenRequest.card
end Go.Proofs.YtfgpkjcmhiclbaaDoor
