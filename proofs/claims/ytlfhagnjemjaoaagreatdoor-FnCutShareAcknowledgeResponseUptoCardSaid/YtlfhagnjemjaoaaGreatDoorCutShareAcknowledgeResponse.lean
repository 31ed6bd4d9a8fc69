import Derived.Test.YtlfhagnjemjaoaaGreatDoorKmEnt
import Derived.Test.YtlfhagnjemjaoaaGreatDoorKe00
import Derived.Test.YtlfhagnjemjaoaaGreatDoorCards
import Derived.Test.YtlfhagnjemjaoaaGreatDoorTie
import Derived.WalkKit
import Derived.ProofKit
import Derived.OpenShut
import Derived.Handy
import Derived.Lay
import Derived.Deep.DeepHandedRow
import Derived.Deep.DeepWitnessRowRef
import Derived.SevenTiedAt
set_option linter.unusedVariables false
set_option linter.unusedSimpArgs false
namespace Go.Proofs.YtlfhagnjemjaoaaGreatDoor.fnCutShareAcknowledgeResponse
open Go Go.Km Go.ChangeShapes Go.WideShapes Go.ChangeAt Go.RowKit
def m : Msg := { TP := 59, TU := 128, FD := 104, flex := some 0, kept := false, fs := (.cons .all (.scal .i32 0) (.cons .all (.scal .i16 0) (.cons .all .ntext (.cons (.ge 2) (.scal .i32 0) (.cons .all (.list 125 none (.struct 129 132 153 (.cons .all .uuid (.cons .all (.list 130 none (.struct 133 137 154 (.cons .all (.scal .i32 0) (.cons .all (.scal .i16 0) (.cons .all .ntext (.cons .all (.struct 138 135 155 (.cons .all (.scal .i32 0) (.cons .all (.scal .i32 0) (.nil true)))) (.nil true))))))) (.nil true))))) (.cons .all (.list 126 none (.struct 139 141 156 (.cons .all (.scal .i32 0) (.cons .all .text (.cons .all (.scal .i32 0) (.cons .all .ntext (.nil true))))))) (.nil true))))))) }
def mr : MR := { newPtr := 51, setV := 55, app := 57, rd := 56, rdi := 106, again := 24 }
theorem nw : NewC Tryz.prog mr.newPtr m := c_newPtr_ok (E := E) (np := 0) (npd := 1) (tt Tryz.func51 (by kernel_rfl) rfl (by kernel_rfl) (by decide)) (by decide) (tt Tryz.func104 (by kernel_rfl) rfl (by kernel_rfl) (by decide)) (by decide) (by kernel_rfl) (by kernel_rfl)
theorem im (w : World) : CallsV Tryz.prog 22 #[] w fun v w' => v = .int .i64 (2 : Nat) ∧ Below w.heap.size w w' := c_implMaxA_ok (E := E) (F := 22) (npf := mr.newPtr) (mvf := 52) (m := m) (np := 0) (mx := 2) i16k ik (tt Tryz.func22 (by kernel_rfl) rfl (by kernel_rfl) (by decide)) (by decide) nw (fun x w => c_maxV_ok (E := E) (np := 1) (mx := 2) (tt Tryz.func52 (by kernel_rfl) rfl (by kernel_rfl) (by decide)) (by decide) x w) (by decide) w
theorem txr : m.fs.txR Tryz.prog E := ⟨trivial, ⟨trivial, ⟨trivial, ⟨trivial, ⟨⟨⟨132, by kernel_rfl, by kernel_rfl⟩, ⟨⟨1, _, (tt Tryz.func153 (by kernel_rfl) rfl (by kernel_rfl) (by decide)), by decide⟩, ⟨trivial, ⟨⟨⟨137, by kernel_rfl, by kernel_rfl⟩, ⟨⟨1, _, (tt Tryz.func154 (by kernel_rfl) rfl (by kernel_rfl) (by decide)), by decide⟩, ⟨trivial, ⟨trivial, ⟨trivial, ⟨⟨⟨1, _, (tt Tryz.func155 (by kernel_rfl) rfl (by kernel_rfl) (by decide)), by decide⟩, ⟨trivial, ⟨trivial, trivial⟩⟩⟩, trivial⟩⟩⟩⟩⟩⟩, trivial⟩⟩⟩⟩, ⟨⟨⟨141, by kernel_rfl, by kernel_rfl⟩, ⟨⟨1, _, (tt Tryz.func156 (by kernel_rfl) rfl (by kernel_rfl) (by decide)), by decide⟩, ⟨trivial, ⟨trivial, ⟨trivial, ⟨trivial, trivial⟩⟩⟩⟩⟩⟩, trivial⟩⟩⟩⟩⟩⟩
theorem rd : ReadC Tryz.prog E (fun _ => True) m mr.rd := c_rfw_ok (np := 2) (npr := 3) (npd := 1) er rx trivial (tt Tryz.func56 (by kernel_rfl) rfl (by kernel_rfl) (by decide)) (by decide) (tt Tryz.func106 (by kernel_rfl) rfl (by kernel_rfl) (by decide)) (of_decide_eq_true (by kernel_rfl)) (tt Tryz.func104 (by kernel_rfl) rfl (by kernel_rfl) (by decide)) (by decide) (by kernel_rfl) (by kernel_rfl) txr (by kernel_rfl) (fun h => by cases h)
theorem lp : lpB m 2 = true := by kernel_rfl
theorem ag : AgainC Tryz.prog E m mr.again 2 := againC (np := 2) (nps := 2) (npa := 2) ew ei rt.row i16k ik o16 ifE (tt Tryz.func24 (by kernel_rfl) rfl (by kernel_rfl) (by decide)) (by decide) nw (tt Tryz.func55 (by kernel_rfl) rfl (by kernel_rfl) (by decide)) (by decide) (by kernel_rfl) rd (tt Tryz.func57 (by kernel_rfl) rfl (by kernel_rfl) (by decide)) (of_decide_eq_true (by kernel_rfl)) (by kernel_rfl) rfl (by decide) lp
def l152 : List FE := [((.mk 3 0 (-1) (-1) (-1) 0 0 .nil), none), ((.mk 3 0 (-1) (-1) (-1) 0 0 .nil), none)]
theorem lc152 : LitC Tryz.prog 152 (toSFs l152) := c_lit_ok (np := 0) sl hrF (tt Tryz.func152 (by kernel_rfl) rfl (by kernel_rfl) (by decide)) (by decide) (by decide) (by decide) (.none rfl (.none rfl (.nil)))
def l105 : List FE := [((.mk 3 0 (-1) (-1) (-1) 0 0 .nil), none), ((.mk 2 0 (-1) (-1) (-1) 0 0 .nil), none), ((.mk 8 0 (-1) 0 (-1) 0 0 .nil), none), ((.mk 10 0 (-1) (-1) (-1) 0 0 (.cons (.mk 3 0 (-1) (-1) (-1) 0 0 .nil) (.cons (.mk 3 0 (-1) (-1) (-1) 0 0 .nil) .nil))), some 152)]
theorem lc105 : LitC Tryz.prog 105 (toSFs l105) := c_lit_ok (np := 0) sl hrF (tt Tryz.func105 (by kernel_rfl) rfl (by kernel_rfl) (by decide)) (by decide) (by decide) (by decide) (.none rfl (.none rfl (.none rfl (.some lc152 (.nil)))))
def l53 : List FE := [((.mk 7 0 (-1) (-1) (-1) 0 0 .nil), none), ((.mk 11 0 (-1) (-1) (-1) 0 10 (.cons (.mk 3 0 (-1) (-1) (-1) 0 0 .nil) (.cons (.mk 2 0 (-1) (-1) (-1) 0 0 .nil) (.cons (.mk 8 0 (-1) 0 (-1) 0 0 .nil) (.cons (.mk 10 0 (-1) (-1) (-1) 0 0 (.cons (.mk 3 0 (-1) (-1) (-1) 0 0 .nil) (.cons (.mk 3 0 (-1) (-1) (-1) 0 0 .nil) .nil))) .nil))))), some 105)]
theorem lc53 : LitC Tryz.prog 53 (toSFs l53) := c_lit_ok (np := 0) sl hrF (tt Tryz.func53 (by kernel_rfl) rfl (by kernel_rfl) (by decide)) (by decide) (by decide) (by decide) (.none rfl (.some lc105 (.nil)))
def l54 : List FE := [((.mk 3 0 (-1) (-1) (-1) 0 0 .nil), none), ((.mk 8 0 (-1) (-1) (-1) 0 0 .nil), none), ((.mk 3 0 (-1) (-1) (-1) 0 0 .nil), none), ((.mk 8 0 (-1) 0 (-1) 0 0 .nil), none)]
theorem lc54 : LitC Tryz.prog 54 (toSFs l54) := c_lit_ok (np := 0) sl hrF (tt Tryz.func54 (by kernel_rfl) rfl (by kernel_rfl) (by decide)) (by decide) (by decide) (by decide) (.none rfl (.none rfl (.none rfl (.none rfl (.nil)))))
def l0 : List FE := [((.mk 3 0 (-1) (-1) (-1) 0 0 .nil), none), ((.mk 2 0 (-1) (-1) (-1) 0 0 .nil), none), ((.mk 8 0 (-1) 0 (-1) 0 0 .nil), none), ((.mk 3 2 (-1) (-1) (-1) 0 0 .nil), none), ((.mk 11 0 (-1) (-1) (-1) 0 10 (.cons (.mk 7 0 (-1) (-1) (-1) 0 0 .nil) (.cons (.mk 11 0 (-1) (-1) (-1) 0 10 (.cons (.mk 3 0 (-1) (-1) (-1) 0 0 .nil) (.cons (.mk 2 0 (-1) (-1) (-1) 0 0 .nil) (.cons (.mk 8 0 (-1) 0 (-1) 0 0 .nil) (.cons (.mk 10 0 (-1) (-1) (-1) 0 0 (.cons (.mk 3 0 (-1) (-1) (-1) 0 0 .nil) (.cons (.mk 3 0 (-1) (-1) (-1) 0 0 .nil) .nil))) .nil))))) .nil))), some 53), ((.mk 11 0 (-1) (-1) (-1) 0 10 (.cons (.mk 3 0 (-1) (-1) (-1) 0 0 .nil) (.cons (.mk 8 0 (-1) (-1) (-1) 0 0 .nil) (.cons (.mk 3 0 (-1) (-1) (-1) 0 0 .nil) (.cons (.mk 8 0 (-1) 0 (-1) 0 0 .nil) .nil))))), some 54)]
theorem sp : SpecC Tryz.prog 23 (toSFs l0) 0 := c_spec_ok (np := 0) sl hrF hM (tt Tryz.func23 (by kernel_rfl) rfl (by kernel_rfl) (by decide)) (by decide) (by decide) (by decide) (.none rfl (.none rfl (.none rfl (.none rfl (.some lc53 (.some lc54 (.nil)))))))
def al : ML := { implMax := 22, spec := 23, again := mr.again, law := 6, fits2 := 9, fits3 := 31, fits4 := 71, tTup := 35 }
theorem lt : LawT Tryz.prog E al m (toSFs l0) 0 2 := ⟨se, sl, st, hz8, hoM, hM, lv, (tt Tryz.func71 (by kernel_rfl) rfl (by kernel_rfl) (by decide)), (tt Tryz.func31 (by kernel_rfl) rfl (by kernel_rfl) (by decide)), (tt Tryz.func9 (by kernel_rfl) rfl (by kernel_rfl) (by decide)), im, sp, ag⟩
theorem sd : Spd m (toSFs l0) 0 2 := ⟨by kernel_rfl, of_decide_eq_true (by kernel_rfl), by kernel_rfl, fun ver _ => isFlex_eq (by kernel_rfl) ver, lp, rfl, by decide⟩
theorem cost : m.fs.cost ≤ 2047 := of_decide_eq_true (by kernel_rfl)
theorem i16u : intT Tryz.prog E.tU16 = some .u16 := by kernel_rfl
set_option maxRecDepth 100000 in
theorem walk {W : World} (hL : laidMetH Tryz.prog Rows.fnCutShareAcknowledgeResponseRow.laid W) (n : Nat) (hn : n < 256) (k : Nat) (hk : k < 65536) (t : Tr) (ts : List Value) (hr : t.Rep W W.heap.size ts) (htk : t.tok) (hwt : t.wt ≤ 1048576) : CallsV Tryz.prog al.law #[.int .u8 n, .agg ts.toArray, .int .u16 k] W fun v w' => v = .bool true ∧ Below W.heap.size W w' := by
  obtain ⟨ev, he, hev⟩ := laid_ev (g := E.vErr) (ti := E.tErr) (by kernel_rfl) (by kernel_rfl) ifE (by kernel_rfl) hL
  exact c_cutL_ok (np := 3) lt sd (tt Tryz.func6 (by kernel_rfl) rfl (by kernel_rfl) (by decide)) (by decide) i16u hn hk hr htk (tags_small hwt) (fun ver _ => part_big sd.agr cost hwt) he hev
set_option maxRecDepth 100000 in
theorem contract (H : Type) (enc : TypeId × Value → H) (W : World) (base : Nat) (args : Array Value) (ds gs : List (DataW H)) (before : List MemPlace)
    (hval : ∀ (j : Nat) t v, Tryz.f6.params[j]? = some t → args[j]? = some v → Value.okWide Tryz.prog W .any base t v)
    (hW : DataW.Whole enc Tryz.prog Tryz.f6.params.toList Rows.fnCutShareAcknowledgeResponseSpec.vars false W args.toList ds gs before) (hb : Rows.uptoSmall H (ds ++ gs) = true) (hL : laidMetH Tryz.prog Rows.fnCutShareAcknowledgeResponseRow.laid W) :
    Calls Tryz.prog 6 args W fun e W' => ∃ v, e = .returned v ∧ Rows.fnCutShareAcknowledgeResponseSpec.post enc Tryz.prog Tryz.f6 false true false false W args v W' :=
  cutRow (E := E) (tb := 4) tr5 (bk H) Tryz.params6 (by kernel_rfl) Tryz.underlying4 rfl (fun _ _ _ => rfl) lo ⟨by kernel_rfl, of_decide_eq_true (by kernel_rfl)⟩ ⟨by kernel_rfl, of_decide_eq_true (by kernel_rfl)⟩ ⟨by kernel_rfl, of_decide_eq_true (by kernel_rfl)⟩ Tryz.underlying39 (bound hb) (fun n k hn hk t ts hr htk hwt => walk hL n hn k hk t ts hr htk hwt) hval hW
noncomputable def laidWorld (os : Os) : World := World.laidAll Tryz.prog os Rows.fnCutShareAcknowledgeResponseRow.laid
theorem laid_met (os : Os) : laidMetH Tryz.prog Rows.fnCutShareAcknowledgeResponseRow.laid ((laidWorld os).forCall (fun _ _ => 0) ⟨#[], #[.int .u8 0, .agg #[.int .i64 0, .slice none 0 0, .bool false, .slice none 0 0, .slice none 0 0], .int .u16 0], []⟩).memory := by
  rw [MakeChecks.laidMetH_plain _ _ _ (by kernel_rfl)]
  exact laidMet_laidAll _ (by kernel_rfl) (by kernel_rfl)
theorem reads (os : Os) {H : Type} (enc : TypeId × Value → H) : ∃ places, DataW.whole enc Tryz.prog ((laidWorld os).forCall (fun _ _ => 0) ⟨#[], #[.int .u8 0, .agg #[.int .i64 0, .slice none 0 0, .bool false, .slice none 0 0, .slice none 0 0], .int .u16 0], []⟩).memory Tryz.f6.params.toList Rows.fnCutShareAcknowledgeResponseSpec.vars false #[.int .u8 0, .agg #[.int .i64 0, .slice none 0 0, .bool false, .slice none 0 0, .slice none 0 0], .int .u16 0].toList 8 = some ([.lit (.int .u8 0), .agg [.lit (.int .i64 0), .nil, .lit (.bool false), .nil, .nil], .lit (.int .u16 0)], [], places) :=
  ⟨[], by kernel_rfl⟩
set_option maxRecDepth 100000 in
theorem lifted (os : Os) (started : os.Started) (H : Type) (enc : TypeId × Value → H) (F : Stop.Interp) :
    ReturnsInHanded {} Tryz.checked os 6 .any ((Rows.OpenSpec.upto Rows.fnCutShareAcknowledgeResponseSpec).preRow enc Tryz.prog Tryz.f6 Rows.fnCutShareAcknowledgeResponseUptoRow.domain false Rows.fnCutShareAcknowledgeResponseUptoRow.laid) (((Rows.OpenSpec.upto Rows.fnCutShareAcknowledgeResponseSpec).at F).post enc Tryz.prog Tryz.f6 false true false false) := by
  obtain ⟨places, hx⟩ := reads os enc
  refine returnsInHanded_of_row (C := Tryz.checked) (s := Rows.OpenSpec.upto Rows.fnCutShareAcknowledgeResponseSpec) own started (by kernel_rfl) Tryz.func6
    (witness_row_atRef (enc := enc) (C := Tryz.checked) false (laidWorld os) #[.int .u8 0, .agg #[.int .i64 0, .slice none 0 0, .bool false, .slice none 0 0, .slice none 0 0], .int .u16 0] (World.laidAll_os _ _ _) (by kernel_rfl) (by kernel_rfl) (by kernel_rfl)
      (OpenSpec.preRow_of_cond 8 hx (by kernel_rfl) (fun k hk => by cases hk; kernel_rfl) (by kernel_rfl) (laid_met os))) ?_
  intro W base args ds gs before hval hW _ hcond _ hL _ _
  exact contract H enc W base args ds gs before hval hW (hcond _ rfl) hL
theorem facts : joinedFacts Tryz.prog 6 Tryz.f6 (Rows.OpenSpec.upto Rows.fnCutShareAcknowledgeResponseSpec).bare Rows.fnCutShareAcknowledgeResponseUptoRow = true := by
  unfold joinedFacts
  rw [lf, me]
  kernel_rfl
theorem said : Rows.FnCutShareAcknowledgeResponseUptoSaid :=
  OpenClaim.holds_of_cond 6 Tryz.f6 rfl rfl rfl rfl rfl rfl rfl ⟨rfl, rfl, rfl, rfl, rfl⟩ rfl rfl rfl rfl rfl (by kernel_rfl) Tryz.func6 facts
    (of_decide_eq_true (by kernel_rfl)) (by unfold Func.isWrapper; first | (rw [if_pos (by decide +kernel)]; kernel_rfl) | (rw [if_neg (by decide +kernel)]; exact ⟨rfl, rfl⟩))
    (fun os started H enc _ F => by rw [OpenClaim.pre_eq_preRow]; exact lifted os started H enc F)
theorem plain (f : FuncId) (fn : Func) (hf : Tryz.pinned.checked.prog.funcNamed "pub-kmsg/laws.FnCutShareAcknowledgeResponse" = some f) (hfn : Tryz.pinned.checked.prog.funcs[f]? = some fn) :
    false = Tryz.pinned.checked.prog.looks [] ∧ ∀ (j : Nat) t, fn.params[j]? = some t → Tryz.pinned.checked.prog.wantsStandIn t = false := by
  obtain rfl : f = 6 := Option.some.inj ((show Tryz.prog.funcNamed "pub-kmsg/laws.FnCutShareAcknowledgeResponse" = some 6 by kernel_rfl).symm.trans hf) |>.symm
  obtain rfl : fn = Tryz.f6 := (Option.some.inj (Tryz.func6.symm.trans hfn)).symm
  refine ⟨by kernel_rfl, fun j t ht => ?_⟩
  rw [Tryz.params6] at ht
  have hm : t ∈ [5, 26, 39] := by simpa using Array.mem_of_getElem? ht
  have hall : ([5, 26, 39].all fun u => !Tryz.prog.wantsStandIn u) = true := by kernel_rfl
  exact (show Tryz.prog.wantsStandIn t = false by simpa using List.all_eq_true.1 hall t hm)
theorem card : Rows.FnCutShareAcknowledgeResponseUptoCardSaid :=
  Claim7.holds_tied_plain_at .later [] _ _ _ _ said (fun _ h => by cases h) (by kernel_rfl) (fun _ h => by cases h) fnCutShareAcknowledgeResponseUpto_row_tie rfl ⟨rfl, rfl⟩ (by kernel_rfl) rfl plain (by kernel_rfl)
end Go.Proofs.YtlfhagnjemjaoaaGreatDoor.fnCutShareAcknowledgeResponse
namespace Go.Proofs.YtlfhagnjemjaoaaGreatDoor
/-- The second form's card, under a short name, for the claim. -/
theorem fnCutShareAcknowledgeResponse_holds : Rows.FnCutShareAcknowledgeResponseUptoCardSaid := fnCutShareAcknowledgeResponse.card
end Go.Proofs.YtlfhagnjemjaoaaGreatDoor
