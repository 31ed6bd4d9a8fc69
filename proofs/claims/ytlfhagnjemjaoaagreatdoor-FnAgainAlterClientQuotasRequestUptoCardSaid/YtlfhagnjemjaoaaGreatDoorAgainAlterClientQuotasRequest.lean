/- A AlterClientQuotasRequest that the spec writes of any tree is read, at every version, and written back as it was, where what is read is of bulk at most 1048576; the variable that the row lists holds what the text lays. -/
import Derived.Test.YtlfhagnjemjaoaaGreatDoorKmEnt
import Derived.Test.YtlfhagnjemjaoaaGreatDoorKd00
import Derived.Test.YtlfhagnjemjaoaaGreatDoorCards
import Derived.Test.YtlfhagnjemjaoaaGreatDoorTie
import Derived.WalkKit
import Derived.ProofKit
import Derived.OpenShut
import Derived.Handy
import Derived.Lay
import Derived.Deep.DeepHandedRow
import Derived.Deep.DeepWitnessRowRef
import Derived.SevenTiedAt
set_option linter.unusedVariables false
set_option linter.unusedSimpArgs false
namespace Go.Proofs.YtlfhagnjemjaoaaGreatDoor.fnAgainAlterClientQuotasRequest
open Go Go.Km Go.ChangeShapes Go.WideShapes Go.ChangeAt Go.RowKit
def m : Msg := { TP := 61, TU := 144, FD := 107, flex := some 1, kept := false, fs := (.cons .all (.list 142 none (.struct 145 149 157 (.cons .all (.list 146 none (.struct 150 152 158 (.cons .all .text (.cons .all .ntext (.nil true))))) (.cons .all (.list 147 none (.struct 153 156 159 (.cons .all .text (.cons .all (.scal .f64 0) (.cons .all (.scal .bool 0) (.nil true)))))) (.nil true))))) (.cons .all (.scal .bool 0) (.nil true))) }
def mr : MR := { newPtr := 58, setV := 61, app := 63, rd := 62, rdi := 110, again := 27 }
theorem nw : NewC Tryz.prog mr.newPtr m := c_newPtr_ok (E := E) (np := 0) (npd := 1) (tt Tryz.func58 (by kernel_rfl) rfl (by kernel_rfl) (by decide)) (by decide) (tt Tryz.func107 (by kernel_rfl) rfl (by kernel_rfl) (by decide)) (by decide) (by kernel_rfl) (by kernel_rfl)
theorem im (w : World) : CallsV Tryz.prog 25 #[] w fun v w' => v = .int .i64 (1 : Nat) ∧ Below w.heap.size w w' := c_implMaxA_ok (E := E) (F := 25) (npf := mr.newPtr) (mvf := 59) (m := m) (np := 0) (mx := 1) i16k ik (tt Tryz.func25 (by kernel_rfl) rfl (by kernel_rfl) (by decide)) (by decide) nw (fun x w => c_maxV_ok (E := E) (np := 1) (mx := 1) (tt Tryz.func59 (by kernel_rfl) rfl (by kernel_rfl) (by decide)) (by decide) x w) (by decide) w
theorem txr : m.fs.txR Tryz.prog E := ⟨⟨⟨149, by kernel_rfl, by kernel_rfl⟩, ⟨⟨1, _, (tt Tryz.func157 (by kernel_rfl) rfl (by kernel_rfl) (by decide)), by decide⟩, ⟨⟨⟨152, by kernel_rfl, by kernel_rfl⟩, ⟨⟨1, _, (tt Tryz.func158 (by kernel_rfl) rfl (by kernel_rfl) (by decide)), by decide⟩, ⟨trivial, ⟨trivial, trivial⟩⟩⟩⟩, ⟨⟨⟨156, by kernel_rfl, by kernel_rfl⟩, ⟨⟨1, _, (tt Tryz.func159 (by kernel_rfl) rfl (by kernel_rfl) (by decide)), by decide⟩, ⟨trivial, ⟨trivial, ⟨trivial, trivial⟩⟩⟩⟩⟩, trivial⟩⟩⟩⟩, ⟨trivial, trivial⟩⟩
theorem rd : ReadC Tryz.prog E (fun _ => True) m mr.rd := c_rfw_ok (np := 2) (npr := 3) (npd := 1) er rx trivial (tt Tryz.func62 (by kernel_rfl) rfl (by kernel_rfl) (by decide)) (by decide) (tt Tryz.func110 (by kernel_rfl) rfl (by kernel_rfl) (by decide)) (of_decide_eq_true (by kernel_rfl)) (tt Tryz.func107 (by kernel_rfl) rfl (by kernel_rfl) (by decide)) (by decide) (by kernel_rfl) (by kernel_rfl) txr (by kernel_rfl) (fun h => by cases h)
theorem lp : lpB m 1 = true := by kernel_rfl
theorem ag : AgainC Tryz.prog E m mr.again 1 := againC (np := 2) (nps := 2) (npa := 2) ew ei rt.row i16k ik o16 ifE (tt Tryz.func27 (by kernel_rfl) rfl (by kernel_rfl) (by decide)) (by decide) nw (tt Tryz.func61 (by kernel_rfl) rfl (by kernel_rfl) (by decide)) (by decide) (by kernel_rfl) rd (tt Tryz.func63 (by kernel_rfl) rfl (by kernel_rfl) (by decide)) (of_decide_eq_true (by kernel_rfl)) (by kernel_rfl) rfl (by decide) lp
def l108 : List FE := [((.mk 8 0 (-1) (-1) (-1) 0 0 .nil), none), ((.mk 8 0 (-1) 0 (-1) 0 0 .nil), none)]
theorem lc108 : LitC Tryz.prog 108 (toSFs l108) := c_lit_ok (np := 0) sl hrF (tt Tryz.func108 (by kernel_rfl) rfl (by kernel_rfl) (by decide)) (by decide) (by decide) (by decide) (.none rfl (.none rfl (.nil)))
def l109 : List FE := [((.mk 8 0 (-1) (-1) (-1) 0 0 .nil), none), ((.mk 6 0 (-1) (-1) (-1) 0 0 .nil), none), ((.mk 0 0 (-1) (-1) (-1) 0 0 .nil), none)]
theorem lc109 : LitC Tryz.prog 109 (toSFs l109) := c_lit_ok (np := 0) sl hrF (tt Tryz.func109 (by kernel_rfl) rfl (by kernel_rfl) (by decide)) (by decide) (by decide) (by decide) (.none rfl (.none rfl (.none rfl (.nil))))
def l60 : List FE := [((.mk 11 0 (-1) (-1) (-1) 0 10 (.cons (.mk 8 0 (-1) (-1) (-1) 0 0 .nil) (.cons (.mk 8 0 (-1) 0 (-1) 0 0 .nil) .nil))), some 108), ((.mk 11 0 (-1) (-1) (-1) 0 10 (.cons (.mk 8 0 (-1) (-1) (-1) 0 0 .nil) (.cons (.mk 6 0 (-1) (-1) (-1) 0 0 .nil) (.cons (.mk 0 0 (-1) (-1) (-1) 0 0 .nil) .nil)))), some 109)]
theorem lc60 : LitC Tryz.prog 60 (toSFs l60) := c_lit_ok (np := 0) sl hrF (tt Tryz.func60 (by kernel_rfl) rfl (by kernel_rfl) (by decide)) (by decide) (by decide) (by decide) (.some lc108 (.some lc109 (.nil)))
def l0 : List FE := [((.mk 11 0 (-1) (-1) (-1) 0 10 (.cons (.mk 11 0 (-1) (-1) (-1) 0 10 (.cons (.mk 8 0 (-1) (-1) (-1) 0 0 .nil) (.cons (.mk 8 0 (-1) 0 (-1) 0 0 .nil) .nil))) (.cons (.mk 11 0 (-1) (-1) (-1) 0 10 (.cons (.mk 8 0 (-1) (-1) (-1) 0 0 .nil) (.cons (.mk 6 0 (-1) (-1) (-1) 0 0 .nil) (.cons (.mk 0 0 (-1) (-1) (-1) 0 0 .nil) .nil)))) .nil))), some 60), ((.mk 0 0 (-1) (-1) (-1) 0 0 .nil), none)]
theorem sp : SpecC Tryz.prog 26 (toSFs l0) 1 := c_spec_ok (np := 0) sl hrF hM (tt Tryz.func26 (by kernel_rfl) rfl (by kernel_rfl) (by decide)) (by decide) (by decide) (by decide) (.some lc60 (.none rfl (.nil)))
def al : ML := { implMax := 25, spec := 26, again := mr.again, law := 7, fits2 := 9, fits3 := 31, fits4 := 71, tTup := 35 }
theorem lt : LawT Tryz.prog E al m (toSFs l0) 1 1 := ⟨se, sl, st, hz8, hoM, hM, lv, (tt Tryz.func71 (by kernel_rfl) rfl (by kernel_rfl) (by decide)), (tt Tryz.func31 (by kernel_rfl) rfl (by kernel_rfl) (by decide)), (tt Tryz.func9 (by kernel_rfl) rfl (by kernel_rfl) (by decide)), im, sp, ag⟩
theorem sd : Spd m (toSFs l0) 1 1 := ⟨by kernel_rfl, of_decide_eq_true (by kernel_rfl), by kernel_rfl, fun ver _ => isFlex_eq (by kernel_rfl) ver, lp, rfl, by decide⟩
theorem cost : m.fs.cost ≤ 2047 := of_decide_eq_true (by kernel_rfl)
set_option maxRecDepth 100000 in
theorem walk {W : World} (hL : laidMetH Tryz.prog Rows.fnAgainAlterClientQuotasRequestRow.laid W) (n : Nat) (hn : n < 256) (t : Tr) (ts : List Value) (hr : t.Rep W W.heap.size ts) (htk : t.tok) (hwt : t.wt ≤ 1048576) : CallsV Tryz.prog al.law #[.int .u8 n, .agg ts.toArray] W fun v w' => v = .bool true ∧ Below W.heap.size W w' := by
  obtain ⟨ev, he, hev⟩ := laid_ev (g := E.vErr) (ti := E.tErr) (by kernel_rfl) (by kernel_rfl) ifE (by kernel_rfl) hL
  exact c_againL_ok (np := 2) lt sd (tt Tryz.func7 (by kernel_rfl) rfl (by kernel_rfl) (by decide)) (by decide) hn hr htk (tags_small hwt) (fun ver _ => part_big sd.agr cost hwt) he hev
set_option maxRecDepth 100000 in
theorem contract (H : Type) (enc : TypeId × Value → H) (W : World) (base : Nat) (args : Array Value) (ds gs : List (DataW H)) (before : List MemPlace)
    (hval : ∀ (j : Nat) t v, Tryz.f7.params[j]? = some t → args[j]? = some v → Value.okWide Tryz.prog W .any base t v)
    (hW : DataW.Whole enc Tryz.prog Tryz.f7.params.toList Rows.fnAgainAlterClientQuotasRequestSpec.vars false W args.toList ds gs before) (hb : Rows.uptoSmall H (ds ++ gs) = true) (hL : laidMetH Tryz.prog Rows.fnAgainAlterClientQuotasRequestRow.laid W) :
    Calls Tryz.prog 7 args W fun e W' => ∃ v, e = .returned v ∧ Rows.fnAgainAlterClientQuotasRequestSpec.post enc Tryz.prog Tryz.f7 false true false false W args v W' :=
  againRow (E := E) (tb := 4) tr5 (bk H) Tryz.params7 (by kernel_rfl) Tryz.underlying4 rfl (fun _ _ => rfl) lo ⟨by kernel_rfl, of_decide_eq_true (by kernel_rfl)⟩ ⟨by kernel_rfl, of_decide_eq_true (by kernel_rfl)⟩ (bound hb) (fun n hn t ts hr htk hwt => walk hL n hn t ts hr htk hwt) hval hW
noncomputable def laidWorld (os : Os) : World := World.laidAll Tryz.prog os Rows.fnAgainAlterClientQuotasRequestRow.laid
theorem laid_met (os : Os) : laidMetH Tryz.prog Rows.fnAgainAlterClientQuotasRequestRow.laid ((laidWorld os).forCall (fun _ _ => 0) ⟨#[], #[.int .u8 0, .agg #[.int .i64 0, .slice none 0 0, .bool false, .slice none 0 0, .slice none 0 0]], []⟩).memory := by
  rw [MakeChecks.laidMetH_plain _ _ _ (by kernel_rfl)]
  exact laidMet_laidAll _ (by kernel_rfl) (by kernel_rfl)
theorem reads (os : Os) {H : Type} (enc : TypeId × Value → H) : ∃ places, DataW.whole enc Tryz.prog ((laidWorld os).forCall (fun _ _ => 0) ⟨#[], #[.int .u8 0, .agg #[.int .i64 0, .slice none 0 0, .bool false, .slice none 0 0, .slice none 0 0]], []⟩).memory Tryz.f7.params.toList Rows.fnAgainAlterClientQuotasRequestSpec.vars false #[.int .u8 0, .agg #[.int .i64 0, .slice none 0 0, .bool false, .slice none 0 0, .slice none 0 0]].toList 8 = some ([.lit (.int .u8 0), .agg [.lit (.int .i64 0), .nil, .lit (.bool false), .nil, .nil]], [], places) :=
  ⟨[], by kernel_rfl⟩
set_option maxRecDepth 100000 in
theorem lifted (os : Os) (started : os.Started) (H : Type) (enc : TypeId × Value → H) (F : Stop.Interp) :
    ReturnsInHanded {} Tryz.checked os 7 .any ((Rows.OpenSpec.upto Rows.fnAgainAlterClientQuotasRequestSpec).preRow enc Tryz.prog Tryz.f7 Rows.fnAgainAlterClientQuotasRequestUptoRow.domain false Rows.fnAgainAlterClientQuotasRequestUptoRow.laid) (((Rows.OpenSpec.upto Rows.fnAgainAlterClientQuotasRequestSpec).at F).post enc Tryz.prog Tryz.f7 false true false false) := by
  obtain ⟨places, hx⟩ := reads os enc
  refine returnsInHanded_of_row (C := Tryz.checked) (s := Rows.OpenSpec.upto Rows.fnAgainAlterClientQuotasRequestSpec) own started (by kernel_rfl) Tryz.func7
    (witness_row_atRef (enc := enc) (C := Tryz.checked) false (laidWorld os) #[.int .u8 0, .agg #[.int .i64 0, .slice none 0 0, .bool false, .slice none 0 0, .slice none 0 0]] (World.laidAll_os _ _ _) (by kernel_rfl) (by kernel_rfl) (by kernel_rfl)
      (OpenSpec.preRow_of_cond 8 hx (by kernel_rfl) (fun k hk => by cases hk; kernel_rfl) (by kernel_rfl) (laid_met os))) ?_
  intro W base args ds gs before hval hW _ hcond _ hL _ _
  exact contract H enc W base args ds gs before hval hW (hcond _ rfl) hL
theorem facts : joinedFacts Tryz.prog 7 Tryz.f7 (Rows.OpenSpec.upto Rows.fnAgainAlterClientQuotasRequestSpec).bare Rows.fnAgainAlterClientQuotasRequestUptoRow = true := by
  unfold joinedFacts
  rw [lf, me]
  kernel_rfl
theorem said : Rows.FnAgainAlterClientQuotasRequestUptoSaid :=
  OpenClaim.holds_of_cond 7 Tryz.f7 rfl rfl rfl rfl rfl rfl rfl ⟨rfl, rfl, rfl, rfl, rfl⟩ rfl rfl rfl rfl rfl (by kernel_rfl) Tryz.func7 facts
    (of_decide_eq_true (by kernel_rfl)) (by unfold Func.isWrapper; first | (rw [if_pos (by decide +kernel)]; kernel_rfl) | (rw [if_neg (by decide +kernel)]; exact ⟨rfl, rfl⟩))
    (fun os started H enc _ F => by rw [OpenClaim.pre_eq_preRow]; exact lifted os started H enc F)
theorem plain (f : FuncId) (fn : Func) (hf : Tryz.pinned.checked.prog.funcNamed "pub-kmsg/laws.FnAgainAlterClientQuotasRequest" = some f) (hfn : Tryz.pinned.checked.prog.funcs[f]? = some fn) :
    false = Tryz.pinned.checked.prog.looks [] ∧ ∀ (j : Nat) t, fn.params[j]? = some t → Tryz.pinned.checked.prog.wantsStandIn t = false := by
  obtain rfl : f = 7 := Option.some.inj ((show Tryz.prog.funcNamed "pub-kmsg/laws.FnAgainAlterClientQuotasRequest" = some 7 by kernel_rfl).symm.trans hf) |>.symm
  obtain rfl : fn = Tryz.f7 := (Option.some.inj (Tryz.func7.symm.trans hfn)).symm
  refine ⟨by kernel_rfl, fun j t ht => ?_⟩
  rw [Tryz.params7] at ht
  have hm : t ∈ [5, 26] := by simpa using Array.mem_of_getElem? ht
  have hall : ([5, 26].all fun u => !Tryz.prog.wantsStandIn u) = true := by kernel_rfl
  exact (show Tryz.prog.wantsStandIn t = false by simpa using List.all_eq_true.1 hall t hm)
theorem card : Rows.FnAgainAlterClientQuotasRequestUptoCardSaid :=
  Claim7.holds_tied_plain_at .later [] _ _ _ _ said (fun _ h => by cases h) (by kernel_rfl) (fun _ h => by cases h) fnAgainAlterClientQuotasRequestUpto_row_tie rfl ⟨rfl, rfl⟩ (by kernel_rfl) rfl plain (by kernel_rfl)
end Go.Proofs.YtlfhagnjemjaoaaGreatDoor.fnAgainAlterClientQuotasRequest
namespace Go.Proofs.YtlfhagnjemjaoaaGreatDoor
/-- The second form's card, under a short name, for the claim. -/
theorem fnAgainAlterClientQuotasRequest_holds : Rows.FnAgainAlterClientQuotasRequestUptoCardSaid := fnAgainAlterClientQuotasRequest.card
end Go.Proofs.YtlfhagnjemjaoaaGreatDoor
