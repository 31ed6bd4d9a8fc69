/- A StreamsGroupDescribeRequest that the spec writes of any tree is read, at every version, and written back as it was, where what is read is of bulk at most 1048576; the variable that the row lists holds what the text lays. -/
import Derived.Test.YtfgpkjcmhiclbaaGreatDoorRKmEnt
import Derived.Test.YtfgpkjcmhiclbaaGreatDoorRCards
import Derived.Test.YtfgpkjcmhiclbaaGreatDoorRTie
import Derived.WalkKit
import Derived.ProofKit
import Derived.OpenShut
import Derived.Handy
import Derived.Lay
import Derived.Deep.DeepHandedRow
import Derived.Deep.DeepWitnessRowRef
import Derived.SevenTiedAt
set_option linter.unusedVariables false
set_option linter.unusedSimpArgs false
namespace Go.Proofs.YtfgpkjcmhiclbaaGreatDoorR.fnAgainStreamsGroupDescribeRequest
open Go Go.Km Go.ChangeShapes Go.WideShapes Go.ChangeAt Go.RowKit
def m : Msg := { TP := 59, TU := 117, FD := 79, flex := some 0, kept := false, fs := (.cons .all (.list 115 none .text) (.cons .all (.scal .bool 0) (.cons (.ge 1) (.scal .bool 0) (.nil true)))) }
def mr : MR := { newPtr := 42, setV := 44, app := 46, rd := 45, rdi := 80, again := 22 }
theorem nw : NewC Tryz.prog mr.newPtr m := c_newPtr_ok (E := E) (np := 0) (npd := 1) (tt Tryz.func42 (by kernel_rfl) rfl (by kernel_rfl) (by decide)) (by decide) (tt Tryz.func79 (by kernel_rfl) rfl (by kernel_rfl) (by decide)) (by decide) (by kernel_rfl) (by kernel_rfl)
theorem im (w : World) : CallsV Tryz.prog 20 #[] w fun v w' => v = .int .i64 (1 : Nat) ∧ Below w.heap.size w w' := c_implMaxA_ok (E := E) (F := 20) (npf := mr.newPtr) (mvf := 43) (m := m) (np := 0) (mx := 1) i16k ik (tt Tryz.func20 (by kernel_rfl) rfl (by kernel_rfl) (by decide)) (by decide) nw (fun x w => c_maxV_ok (E := E) (np := 1) (mx := 1) (tt Tryz.func43 (by kernel_rfl) rfl (by kernel_rfl) (by decide)) (by decide) x w) (by decide) w
theorem txr : m.fs.txR Tryz.prog E := ⟨⟨⟨9, by kernel_rfl, by kernel_rfl⟩, trivial⟩, ⟨trivial, ⟨trivial, trivial⟩⟩⟩
theorem rd : ReadC Tryz.prog E (fun _ => True) m mr.rd := c_rfw_ok (np := 2) (npr := 3) (npd := 1) er rx trivial (tt Tryz.func45 (by kernel_rfl) rfl (by kernel_rfl) (by decide)) (by decide) (tt Tryz.func80 (by kernel_rfl) rfl (by kernel_rfl) (by decide)) (of_decide_eq_true (by kernel_rfl)) (tt Tryz.func79 (by kernel_rfl) rfl (by kernel_rfl) (by decide)) (by decide) (by kernel_rfl) (by kernel_rfl) txr (by kernel_rfl) (fun h => by cases h)
theorem lp : lpB m 1 = true := by kernel_rfl
theorem ag : AgainC Tryz.prog E m mr.again 1 := againC (np := 2) (nps := 2) (npa := 2) ew ei rt.row i16k ik o16 ifE (tt Tryz.func22 (by kernel_rfl) rfl (by kernel_rfl) (by decide)) (by decide) nw (tt Tryz.func44 (by kernel_rfl) rfl (by kernel_rfl) (by decide)) (by decide) (by kernel_rfl) rd (tt Tryz.func46 (by kernel_rfl) rfl (by kernel_rfl) (by decide)) (of_decide_eq_true (by kernel_rfl)) (by kernel_rfl) rfl (by decide) lp
def l0 : List FE := [((.mk 11 0 (-1) (-1) (-1) 0 8 .nil), none), ((.mk 0 0 (-1) (-1) (-1) 0 0 .nil), none), ((.mk 0 1 (-1) (-1) (-1) 0 0 .nil), none)]
theorem sp : SpecC Tryz.prog 21 (toSFs l0) 0 := c_spec_ok (np := 0) sl hrF hM (tt Tryz.func21 (by kernel_rfl) rfl (by kernel_rfl) (by decide)) (by decide) (by decide) (by decide) (.none rfl (.none rfl (.none rfl (.nil))))
def al : ML := { implMax := 20, spec := 21, again := mr.again, law := 6, fits2 := 7, fits3 := 23, fits4 := 47, tTup := 36 }
theorem lt : LawT Tryz.prog E al m (toSFs l0) 0 1 := ⟨se, sl, st, hz8, hoM, hM, lv, (tt Tryz.func47 (by kernel_rfl) rfl (by kernel_rfl) (by decide)), (tt Tryz.func23 (by kernel_rfl) rfl (by kernel_rfl) (by decide)), (tt Tryz.func7 (by kernel_rfl) rfl (by kernel_rfl) (by decide)), im, sp, ag⟩
theorem sd : Spd m (toSFs l0) 0 1 := ⟨by kernel_rfl, of_decide_eq_true (by kernel_rfl), by kernel_rfl, fun ver _ => isFlex_eq (by kernel_rfl) ver, lp, rfl, by decide⟩
theorem cost : m.fs.cost ≤ 2047 := of_decide_eq_true (by kernel_rfl)
set_option maxRecDepth 100000 in
theorem walk {W : World} (hL : laidMetH Tryz.prog Rows.fnAgainStreamsGroupDescribeRequestRow.laid W) (n : Nat) (hn : n < 256) (t : Tr) (ts : List Value) (hr : t.Rep W W.heap.size ts) (htk : t.tok) (hwt : t.wt ≤ 1048576) : CallsV Tryz.prog al.law #[.int .u8 n, .agg ts.toArray] W fun v w' => v = .bool true ∧ Below W.heap.size W w' := by
  obtain ⟨ev, he, hev⟩ := laid_ev (g := E.vErr) (ti := E.tErr) (by kernel_rfl) (by kernel_rfl) ifE (by kernel_rfl) hL
  exact c_againL_ok (np := 2) lt sd (tt Tryz.func6 (by kernel_rfl) rfl (by kernel_rfl) (by decide)) (by decide) hn hr htk (tags_small hwt) (fun ver _ => part_big sd.agr cost hwt) he hev
set_option maxRecDepth 100000 in
theorem contract (H : Type) (enc : TypeId × Value → H) (W : World) (base : Nat) (args : Array Value) (ds gs : List (DataW H)) (before : List MemPlace)
    (hval : ∀ (j : Nat) t v, Tryz.f6.params[j]? = some t → args[j]? = some v → Value.okWide Tryz.prog W .any base t v)
    (hW : DataW.Whole enc Tryz.prog Tryz.f6.params.toList Rows.fnAgainStreamsGroupDescribeRequestSpec.vars false W args.toList ds gs before) (hb : Rows.uptoSmall H (ds ++ gs) = true) (hL : laidMetH Tryz.prog Rows.fnAgainStreamsGroupDescribeRequestRow.laid W) :
    Calls Tryz.prog 6 args W fun e W' => ∃ v, e = .returned v ∧ Rows.fnAgainStreamsGroupDescribeRequestSpec.post enc Tryz.prog Tryz.f6 false true false false W args v W' :=
  againRow (E := E) (tb := 4) tr5 (bk H) Tryz.params6 (by kernel_rfl) Tryz.underlying4 rfl (fun _ _ => rfl) lo ⟨by kernel_rfl, of_decide_eq_true (by kernel_rfl)⟩ ⟨by kernel_rfl, of_decide_eq_true (by kernel_rfl)⟩ (bound hb) (fun n hn t ts hr htk hwt => walk hL n hn t ts hr htk hwt) hval hW
noncomputable def laidWorld (os : Os) : World := World.laidAll Tryz.prog os Rows.fnAgainStreamsGroupDescribeRequestRow.laid
theorem laid_met (os : Os) : laidMetH Tryz.prog Rows.fnAgainStreamsGroupDescribeRequestRow.laid ((laidWorld os).forCall (fun _ _ => 0) ⟨#[], #[.int .u8 0, .agg #[.int .i64 0, .slice none 0 0, .bool false, .slice none 0 0, .slice none 0 0]], []⟩).memory := by
  rw [MakeChecks.laidMetH_plain _ _ _ (by kernel_rfl)]
  exact laidMet_laidAll _ (by kernel_rfl) (by kernel_rfl)
theorem reads (os : Os) {H : Type} (enc : TypeId × Value → H) : ∃ places, DataW.whole enc Tryz.prog ((laidWorld os).forCall (fun _ _ => 0) ⟨#[], #[.int .u8 0, .agg #[.int .i64 0, .slice none 0 0, .bool false, .slice none 0 0, .slice none 0 0]], []⟩).memory Tryz.f6.params.toList Rows.fnAgainStreamsGroupDescribeRequestSpec.vars false #[.int .u8 0, .agg #[.int .i64 0, .slice none 0 0, .bool false, .slice none 0 0, .slice none 0 0]].toList 8 = some ([.lit (.int .u8 0), .agg [.lit (.int .i64 0), .nil, .lit (.bool false), .nil, .nil]], [], places) :=
  ⟨[], by kernel_rfl⟩
set_option maxRecDepth 100000 in
theorem lifted (os : Os) (started : os.Started) (H : Type) (enc : TypeId × Value → H) (F : Stop.Interp) :
    ReturnsInHanded {} Tryz.checked os 6 .any ((Rows.OpenSpec.upto Rows.fnAgainStreamsGroupDescribeRequestSpec).preRow enc Tryz.prog Tryz.f6 Rows.fnAgainStreamsGroupDescribeRequestUptoRow.domain false Rows.fnAgainStreamsGroupDescribeRequestUptoRow.laid) (((Rows.OpenSpec.upto Rows.fnAgainStreamsGroupDescribeRequestSpec).at F).post enc Tryz.prog Tryz.f6 false true false false) := by
  obtain ⟨places, hx⟩ := reads os enc
  refine returnsInHanded_of_row (C := Tryz.checked) (s := Rows.OpenSpec.upto Rows.fnAgainStreamsGroupDescribeRequestSpec) own started (by kernel_rfl) Tryz.func6
    (witness_row_atRef (enc := enc) (C := Tryz.checked) false (laidWorld os) #[.int .u8 0, .agg #[.int .i64 0, .slice none 0 0, .bool false, .slice none 0 0, .slice none 0 0]] (World.laidAll_os _ _ _) (by kernel_rfl) (by kernel_rfl) (by kernel_rfl)
      (OpenSpec.preRow_of_cond 8 hx (by kernel_rfl) (fun k hk => by cases hk; kernel_rfl) (by kernel_rfl) (laid_met os))) ?_
  intro W base args ds gs before hval hW _ hcond _ hL _ _
  exact contract H enc W base args ds gs before hval hW (hcond _ rfl) hL
theorem facts : joinedFacts Tryz.prog 6 Tryz.f6 (Rows.OpenSpec.upto Rows.fnAgainStreamsGroupDescribeRequestSpec).bare Rows.fnAgainStreamsGroupDescribeRequestUptoRow = true := by
  unfold joinedFacts
  rw [lf, me]
  kernel_rfl
theorem said : Rows.FnAgainStreamsGroupDescribeRequestUptoSaid :=
  OpenClaim.holds_of_cond 6 Tryz.f6 rfl rfl rfl rfl rfl rfl rfl ⟨rfl, rfl, rfl, rfl, rfl⟩ rfl rfl rfl rfl rfl (by kernel_rfl) Tryz.func6 facts
    (of_decide_eq_true (by kernel_rfl)) (by unfold Func.isWrapper; first | (rw [if_pos (by decide +kernel)]; kernel_rfl) | (rw [if_neg (by decide +kernel)]; exact ⟨rfl, rfl⟩))
    (fun os started H enc _ F => by rw [OpenClaim.pre_eq_preRow]; exact lifted os started H enc F)
theorem plain (f : FuncId) (fn : Func) (hf : Tryz.pinned.checked.prog.funcNamed "pub-kmsg/laws.FnAgainStreamsGroupDescribeRequest" = some f) (hfn : Tryz.pinned.checked.prog.funcs[f]? = some fn) :
    false = Tryz.pinned.checked.prog.looks [] ∧ ∀ (j : Nat) t, fn.params[j]? = some t → Tryz.pinned.checked.prog.wantsStandIn t = false := by
  obtain rfl : f = 6 := Option.some.inj ((show Tryz.prog.funcNamed "pub-kmsg/laws.FnAgainStreamsGroupDescribeRequest" = some 6 by kernel_rfl).symm.trans hf) |>.symm
  obtain rfl : fn = Tryz.f6 := (Option.some.inj (Tryz.func6.symm.trans hfn)).symm
  refine ⟨by kernel_rfl, fun j t ht => ?_⟩
  rw [Tryz.params6] at ht
  have hm : t ∈ [5, 26] := by simpa using Array.mem_of_getElem? ht
  have hall : ([5, 26].all fun u => !Tryz.prog.wantsStandIn u) = true := by kernel_rfl
  exact (show Tryz.prog.wantsStandIn t = false by simpa using List.all_eq_true.1 hall t hm)
theorem card : Rows.FnAgainStreamsGroupDescribeRequestUptoCardSaid :=
  Claim7.holds_tied_plain_at .later [] _ _ _ _ said (fun _ h => by cases h) (by kernel_rfl) (fun _ h => by cases h) fnAgainStreamsGroupDescribeRequestUpto_row_tie rfl ⟨rfl, rfl⟩ (by kernel_rfl) rfl plain (by kernel_rfl)
end Go.Proofs.YtfgpkjcmhiclbaaGreatDoorR.fnAgainStreamsGroupDescribeRequest
namespace Go.Proofs.YtfgpkjcmhiclbaaGreatDoorR
/-- The second form's card, under a short name, for the claim. -/
theorem fnAgainStreamsGroupDescribeRequest_holds : Rows.FnAgainStreamsGroupDescribeRequestUptoCardSaid := fnAgainStreamsGroupDescribeRequest.card
end Go.Proofs.YtfgpkjcmhiclbaaGreatDoorR
