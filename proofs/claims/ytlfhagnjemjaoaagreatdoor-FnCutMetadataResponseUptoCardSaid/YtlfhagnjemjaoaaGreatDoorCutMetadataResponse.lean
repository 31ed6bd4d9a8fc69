import Derived.Test.YtlfhagnjemjaoaaGreatDoorKmEnt
import Derived.Test.YtlfhagnjemjaoaaGreatDoorKe00
import Derived.Test.YtlfhagnjemjaoaaGreatDoorCards
import Derived.Test.YtlfhagnjemjaoaaGreatDoorTie
import Derived.WalkKit
import Derived.ProofKit
import Derived.OpenShut
import Derived.Handy
import Derived.Lay
import Derived.Deep.DeepHandedRow
import Derived.Deep.DeepWitnessRowRef
import Derived.SevenTiedAt
set_option linter.unusedVariables false
set_option linter.unusedSimpArgs false
namespace Go.Proofs.YtlfhagnjemjaoaaGreatDoor.fnCutMetadataResponse
open Go Go.Km Go.ChangeShapes Go.WideShapes Go.ChangeAt Go.RowKit
def m : Msg := { TP := 63, TU := 161, FD := 112, flex := some 9, kept := false, fs := (.cons (.ge 3) (.scal .i32 0) (.cons .all (.list 158 none (.struct 162 163 162 (.cons .all (.scal .i32 0) (.cons .all .text (.cons .all (.scal .i32 0) (.cons (.ge 1) .ntext (.nil true))))))) (.cons (.ge 2) .ntext (.cons (.ge 1) (.scal .i32 (-1)) (.cons .all (.list 159 none (.struct 164 167 163 (.cons .all (.scal .i16 0) (.cons .all (.ntextFrom 12) (.cons (.ge 10) .uuid (.cons (.ge 1) (.scal .bool 0) (.cons .all (.list 165 none (.struct 168 170 164 (.cons .all (.scal .i16 0) (.cons .all (.scal .i32 0) (.cons .all (.scal .i32 0) (.cons (.ge 7) (.scal .i32 (-1)) (.cons .all (.list 112 none (.scal .i32 0)) (.cons .all (.list 112 none (.scal .i32 0)) (.cons (.ge 5) (.list 112 none (.scal .i32 0)) (.nil true)))))))))) (.cons (.ge 8) (.scal .i32 (-2147483648)) (.nil true))))))))) (.cons (.btw 8 10) (.scal .i32 (-2147483648)) (.cons (.ge 13) (.scal .i16 0) (.nil true)))))))) }
def mr : MR := { newPtr := 64, setV := 68, app := 70, rd := 69, rdi := 114, again := 30 }
theorem nw : NewC Tryz.prog mr.newPtr m := c_newPtr_ok (E := E) (np := 0) (npd := 1) (tt Tryz.func64 (by kernel_rfl) rfl (by kernel_rfl) (by decide)) (by decide) (tt Tryz.func112 (by kernel_rfl) rfl (by kernel_rfl) (by decide)) (by decide) (by kernel_rfl) (by kernel_rfl)
theorem im (w : World) : CallsV Tryz.prog 28 #[] w fun v w' => v = .int .i64 (13 : Nat) ∧ Below w.heap.size w w' := c_implMaxA_ok (E := E) (F := 28) (npf := mr.newPtr) (mvf := 65) (m := m) (np := 0) (mx := 13) i16k ik (tt Tryz.func28 (by kernel_rfl) rfl (by kernel_rfl) (by decide)) (by decide) nw (fun x w => c_maxV_ok (E := E) (np := 1) (mx := 13) (tt Tryz.func65 (by kernel_rfl) rfl (by kernel_rfl) (by decide)) (by decide) x w) (by decide) w
theorem txr : m.fs.txR Tryz.prog E := ⟨trivial, ⟨⟨⟨163, by kernel_rfl, by kernel_rfl⟩, ⟨⟨1, _, (tt Tryz.func162 (by kernel_rfl) rfl (by kernel_rfl) (by decide)), by decide⟩, ⟨trivial, ⟨trivial, ⟨trivial, ⟨trivial, trivial⟩⟩⟩⟩⟩⟩, ⟨trivial, ⟨trivial, ⟨⟨⟨167, by kernel_rfl, by kernel_rfl⟩, ⟨⟨1, _, (tt Tryz.func163 (by kernel_rfl) rfl (by kernel_rfl) (by decide)), by decide⟩, ⟨trivial, ⟨trivial, ⟨trivial, ⟨trivial, ⟨⟨⟨170, by kernel_rfl, by kernel_rfl⟩, ⟨⟨1, _, (tt Tryz.func164 (by kernel_rfl) rfl (by kernel_rfl) (by decide)), by decide⟩, ⟨trivial, ⟨trivial, ⟨trivial, ⟨trivial, ⟨⟨⟨21, by kernel_rfl, by kernel_rfl⟩, trivial⟩, ⟨⟨⟨21, by kernel_rfl, by kernel_rfl⟩, trivial⟩, ⟨⟨⟨21, by kernel_rfl, by kernel_rfl⟩, trivial⟩, trivial⟩⟩⟩⟩⟩⟩⟩⟩⟩, ⟨trivial, trivial⟩⟩⟩⟩⟩⟩⟩⟩, ⟨trivial, ⟨trivial, trivial⟩⟩⟩⟩⟩⟩⟩
theorem rd : ReadC Tryz.prog E (fun _ => True) m mr.rd := c_rfw_ok (np := 2) (npr := 3) (npd := 1) er rx trivial (tt Tryz.func69 (by kernel_rfl) rfl (by kernel_rfl) (by decide)) (by decide) (tt Tryz.func114 (by kernel_rfl) rfl (by kernel_rfl) (by decide)) (of_decide_eq_true (by kernel_rfl)) (tt Tryz.func112 (by kernel_rfl) rfl (by kernel_rfl) (by decide)) (by decide) (by kernel_rfl) (by kernel_rfl) txr (by kernel_rfl) (fun h => by cases h)
theorem lp : lpB m 13 = true := by kernel_rfl
theorem ag : AgainC Tryz.prog E m mr.again 13 := againC (np := 2) (nps := 2) (npa := 2) ew ei rt.row i16k ik o16 ifE (tt Tryz.func30 (by kernel_rfl) rfl (by kernel_rfl) (by decide)) (by decide) nw (tt Tryz.func68 (by kernel_rfl) rfl (by kernel_rfl) (by decide)) (by decide) (by kernel_rfl) rd (tt Tryz.func70 (by kernel_rfl) rfl (by kernel_rfl) (by decide)) (of_decide_eq_true (by kernel_rfl)) (by kernel_rfl) rfl (by decide) lp
def l66 : List FE := [((.mk 3 0 (-1) (-1) (-1) 0 0 .nil), none), ((.mk 8 0 (-1) (-1) (-1) 0 0 .nil), none), ((.mk 3 0 (-1) (-1) (-1) 0 0 .nil), none), ((.mk 8 1 (-1) 1 (-1) 0 0 .nil), none)]
theorem lc66 : LitC Tryz.prog 66 (toSFs l66) := c_lit_ok (np := 0) sl hrF (tt Tryz.func66 (by kernel_rfl) rfl (by kernel_rfl) (by decide)) (by decide) (by decide) (by decide) (.none rfl (.none rfl (.none rfl (.none rfl (.nil)))))
def l113 : List FE := [((.mk 2 0 (-1) (-1) (-1) 0 0 .nil), none), ((.mk 3 0 (-1) (-1) (-1) 0 0 .nil), none), ((.mk 3 0 (-1) (-1) (-1) 0 0 .nil), none), ((.mk 3 7 (-1) (-1) (-1) (-1) 0 .nil), none), ((.mk 11 0 (-1) (-1) (-1) 0 3 .nil), none), ((.mk 11 0 (-1) (-1) (-1) 0 3 .nil), none), ((.mk 11 5 (-1) (-1) (-1) 0 3 .nil), none)]
theorem lc113 : LitC Tryz.prog 113 (toSFs l113) := c_lit_ok (np := 0) sl hrF (tt Tryz.func113 (by kernel_rfl) rfl (by kernel_rfl) (by decide)) (by decide) (by decide) (by decide) (.none rfl (.none rfl (.none rfl (.none rfl (.none rfl (.none rfl (.none rfl (.nil))))))))
def l67 : List FE := [((.mk 2 0 (-1) (-1) (-1) 0 0 .nil), none), ((.mk 8 0 (-1) 12 (-1) 0 0 .nil), none), ((.mk 7 10 (-1) (-1) (-1) 0 0 .nil), none), ((.mk 0 1 (-1) (-1) (-1) 0 0 .nil), none), ((.mk 11 0 (-1) (-1) (-1) 0 10 (.cons (.mk 2 0 (-1) (-1) (-1) 0 0 .nil) (.cons (.mk 3 0 (-1) (-1) (-1) 0 0 .nil) (.cons (.mk 3 0 (-1) (-1) (-1) 0 0 .nil) (.cons (.mk 3 7 (-1) (-1) (-1) (-1) 0 .nil) (.cons (.mk 11 0 (-1) (-1) (-1) 0 3 .nil) (.cons (.mk 11 0 (-1) (-1) (-1) 0 3 .nil) (.cons (.mk 11 5 (-1) (-1) (-1) 0 3 .nil) .nil)))))))), some 113), ((.mk 3 8 (-1) (-1) (-1) (-2147483648) 0 .nil), none)]
theorem lc67 : LitC Tryz.prog 67 (toSFs l67) := c_lit_ok (np := 0) sl hrF (tt Tryz.func67 (by kernel_rfl) rfl (by kernel_rfl) (by decide)) (by decide) (by decide) (by decide) (.none rfl (.none rfl (.none rfl (.none rfl (.some lc113 (.none rfl (.nil)))))))
def l0 : List FE := [((.mk 3 3 (-1) (-1) (-1) 0 0 .nil), none), ((.mk 11 0 (-1) (-1) (-1) 0 10 (.cons (.mk 3 0 (-1) (-1) (-1) 0 0 .nil) (.cons (.mk 8 0 (-1) (-1) (-1) 0 0 .nil) (.cons (.mk 3 0 (-1) (-1) (-1) 0 0 .nil) (.cons (.mk 8 1 (-1) 1 (-1) 0 0 .nil) .nil))))), some 66), ((.mk 8 2 (-1) 2 (-1) 0 0 .nil), none), ((.mk 3 1 (-1) (-1) (-1) (-1) 0 .nil), none), ((.mk 11 0 (-1) (-1) (-1) 0 10 (.cons (.mk 2 0 (-1) (-1) (-1) 0 0 .nil) (.cons (.mk 8 0 (-1) 12 (-1) 0 0 .nil) (.cons (.mk 7 10 (-1) (-1) (-1) 0 0 .nil) (.cons (.mk 0 1 (-1) (-1) (-1) 0 0 .nil) (.cons (.mk 11 0 (-1) (-1) (-1) 0 10 (.cons (.mk 2 0 (-1) (-1) (-1) 0 0 .nil) (.cons (.mk 3 0 (-1) (-1) (-1) 0 0 .nil) (.cons (.mk 3 0 (-1) (-1) (-1) 0 0 .nil) (.cons (.mk 3 7 (-1) (-1) (-1) (-1) 0 .nil) (.cons (.mk 11 0 (-1) (-1) (-1) 0 3 .nil) (.cons (.mk 11 0 (-1) (-1) (-1) 0 3 .nil) (.cons (.mk 11 5 (-1) (-1) (-1) 0 3 .nil) .nil)))))))) (.cons (.mk 3 8 (-1) (-1) (-1) (-2147483648) 0 .nil) .nil))))))), some 67), ((.mk 3 8 10 (-1) (-1) (-2147483648) 0 .nil), none), ((.mk 2 13 (-1) (-1) (-1) 0 0 .nil), none)]
theorem sp : SpecC Tryz.prog 29 (toSFs l0) 9 := c_spec_ok (np := 0) sl hrF hM (tt Tryz.func29 (by kernel_rfl) rfl (by kernel_rfl) (by decide)) (by decide) (by decide) (by decide) (.none rfl (.some lc66 (.none rfl (.none rfl (.some lc67 (.none rfl (.none rfl (.nil))))))))
def al : ML := { implMax := 28, spec := 29, again := mr.again, law := 8, fits2 := 9, fits3 := 31, fits4 := 71, tTup := 35 }
theorem lt : LawT Tryz.prog E al m (toSFs l0) 9 13 := ⟨se, sl, st, hz8, hoM, hM, lv, (tt Tryz.func71 (by kernel_rfl) rfl (by kernel_rfl) (by decide)), (tt Tryz.func31 (by kernel_rfl) rfl (by kernel_rfl) (by decide)), (tt Tryz.func9 (by kernel_rfl) rfl (by kernel_rfl) (by decide)), im, sp, ag⟩
theorem sd : Spd m (toSFs l0) 9 13 := ⟨by kernel_rfl, of_decide_eq_true (by kernel_rfl), by kernel_rfl, fun ver _ => isFlex_eq (by kernel_rfl) ver, lp, rfl, by decide⟩
theorem cost : m.fs.cost ≤ 2047 := of_decide_eq_true (by kernel_rfl)
theorem i16u : intT Tryz.prog E.tU16 = some .u16 := by kernel_rfl
set_option maxRecDepth 100000 in
theorem walk {W : World} (hL : laidMetH Tryz.prog Rows.fnCutMetadataResponseRow.laid W) (n : Nat) (hn : n < 256) (k : Nat) (hk : k < 65536) (t : Tr) (ts : List Value) (hr : t.Rep W W.heap.size ts) (htk : t.tok) (hwt : t.wt ≤ 1048576) : CallsV Tryz.prog al.law #[.int .u8 n, .agg ts.toArray, .int .u16 k] W fun v w' => v = .bool true ∧ Below W.heap.size W w' := by
  obtain ⟨ev, he, hev⟩ := laid_ev (g := E.vErr) (ti := E.tErr) (by kernel_rfl) (by kernel_rfl) ifE (by kernel_rfl) hL
  exact c_cutL_ok (np := 3) lt sd (tt Tryz.func8 (by kernel_rfl) rfl (by kernel_rfl) (by decide)) (by decide) i16u hn hk hr htk (tags_small hwt) (fun ver _ => part_big sd.agr cost hwt) he hev
set_option maxRecDepth 100000 in
theorem contract (H : Type) (enc : TypeId × Value → H) (W : World) (base : Nat) (args : Array Value) (ds gs : List (DataW H)) (before : List MemPlace)
    (hval : ∀ (j : Nat) t v, Tryz.f8.params[j]? = some t → args[j]? = some v → Value.okWide Tryz.prog W .any base t v)
    (hW : DataW.Whole enc Tryz.prog Tryz.f8.params.toList Rows.fnCutMetadataResponseSpec.vars false W args.toList ds gs before) (hb : Rows.uptoSmall H (ds ++ gs) = true) (hL : laidMetH Tryz.prog Rows.fnCutMetadataResponseRow.laid W) :
    Calls Tryz.prog 8 args W fun e W' => ∃ v, e = .returned v ∧ Rows.fnCutMetadataResponseSpec.post enc Tryz.prog Tryz.f8 false true false false W args v W' :=
  cutRow (E := E) (tb := 4) tr5 (bk H) Tryz.params8 (by kernel_rfl) Tryz.underlying4 rfl (fun _ _ _ => rfl) lo ⟨by kernel_rfl, of_decide_eq_true (by kernel_rfl)⟩ ⟨by kernel_rfl, of_decide_eq_true (by kernel_rfl)⟩ ⟨by kernel_rfl, of_decide_eq_true (by kernel_rfl)⟩ Tryz.underlying39 (bound hb) (fun n k hn hk t ts hr htk hwt => walk hL n hn k hk t ts hr htk hwt) hval hW
noncomputable def laidWorld (os : Os) : World := World.laidAll Tryz.prog os Rows.fnCutMetadataResponseRow.laid
theorem laid_met (os : Os) : laidMetH Tryz.prog Rows.fnCutMetadataResponseRow.laid ((laidWorld os).forCall (fun _ _ => 0) ⟨#[], #[.int .u8 0, .agg #[.int .i64 0, .slice none 0 0, .bool false, .slice none 0 0, .slice none 0 0], .int .u16 0], []⟩).memory := by
  rw [MakeChecks.laidMetH_plain _ _ _ (by kernel_rfl)]
  exact laidMet_laidAll _ (by kernel_rfl) (by kernel_rfl)
theorem reads (os : Os) {H : Type} (enc : TypeId × Value → H) : ∃ places, DataW.whole enc Tryz.prog ((laidWorld os).forCall (fun _ _ => 0) ⟨#[], #[.int .u8 0, .agg #[.int .i64 0, .slice none 0 0, .bool false, .slice none 0 0, .slice none 0 0], .int .u16 0], []⟩).memory Tryz.f8.params.toList Rows.fnCutMetadataResponseSpec.vars false #[.int .u8 0, .agg #[.int .i64 0, .slice none 0 0, .bool false, .slice none 0 0, .slice none 0 0], .int .u16 0].toList 8 = some ([.lit (.int .u8 0), .agg [.lit (.int .i64 0), .nil, .lit (.bool false), .nil, .nil], .lit (.int .u16 0)], [], places) :=
  ⟨[], by kernel_rfl⟩
set_option maxRecDepth 100000 in
theorem lifted (os : Os) (started : os.Started) (H : Type) (enc : TypeId × Value → H) (F : Stop.Interp) :
    ReturnsInHanded {} Tryz.checked os 8 .any ((Rows.OpenSpec.upto Rows.fnCutMetadataResponseSpec).preRow enc Tryz.prog Tryz.f8 Rows.fnCutMetadataResponseUptoRow.domain false Rows.fnCutMetadataResponseUptoRow.laid) (((Rows.OpenSpec.upto Rows.fnCutMetadataResponseSpec).at F).post enc Tryz.prog Tryz.f8 false true false false) := by
  obtain ⟨places, hx⟩ := reads os enc
  refine returnsInHanded_of_row (C := Tryz.checked) (s := Rows.OpenSpec.upto Rows.fnCutMetadataResponseSpec) own started (by kernel_rfl) Tryz.func8
    (witness_row_atRef (enc := enc) (C := Tryz.checked) false (laidWorld os) #[.int .u8 0, .agg #[.int .i64 0, .slice none 0 0, .bool false, .slice none 0 0, .slice none 0 0], .int .u16 0] (World.laidAll_os _ _ _) (by kernel_rfl) (by kernel_rfl) (by kernel_rfl)
      (OpenSpec.preRow_of_cond 8 hx (by kernel_rfl) (fun k hk => by cases hk; kernel_rfl) (by kernel_rfl) (laid_met os))) ?_
  intro W base args ds gs before hval hW _ hcond _ hL _ _
  exact contract H enc W base args ds gs before hval hW (hcond _ rfl) hL
theorem facts : joinedFacts Tryz.prog 8 Tryz.f8 (Rows.OpenSpec.upto Rows.fnCutMetadataResponseSpec).bare Rows.fnCutMetadataResponseUptoRow = true := by
  unfold joinedFacts
  rw [lf, me]
  kernel_rfl
theorem said : Rows.FnCutMetadataResponseUptoSaid :=
  OpenClaim.holds_of_cond 8 Tryz.f8 rfl rfl rfl rfl rfl rfl rfl ⟨rfl, rfl, rfl, rfl, rfl⟩ rfl rfl rfl rfl rfl (by kernel_rfl) Tryz.func8 facts
    (of_decide_eq_true (by kernel_rfl)) (by unfold Func.isWrapper; first | (rw [if_pos (by decide +kernel)]; kernel_rfl) | (rw [if_neg (by decide +kernel)]; exact ⟨rfl, rfl⟩))
    (fun os started H enc _ F => by rw [OpenClaim.pre_eq_preRow]; exact lifted os started H enc F)
theorem plain (f : FuncId) (fn : Func) (hf : Tryz.pinned.checked.prog.funcNamed "pub-kmsg/laws.FnCutMetadataResponse" = some f) (hfn : Tryz.pinned.checked.prog.funcs[f]? = some fn) :
    false = Tryz.pinned.checked.prog.looks [] ∧ ∀ (j : Nat) t, fn.params[j]? = some t → Tryz.pinned.checked.prog.wantsStandIn t = false := by
  obtain rfl : f = 8 := Option.some.inj ((show Tryz.prog.funcNamed "pub-kmsg/laws.FnCutMetadataResponse" = some 8 by kernel_rfl).symm.trans hf) |>.symm
  obtain rfl : fn = Tryz.f8 := (Option.some.inj (Tryz.func8.symm.trans hfn)).symm
  refine ⟨by kernel_rfl, fun j t ht => ?_⟩
  rw [Tryz.params8] at ht
  have hm : t ∈ [5, 26, 39] := by simpa using Array.mem_of_getElem? ht
  have hall : ([5, 26, 39].all fun u => !Tryz.prog.wantsStandIn u) = true := by kernel_rfl
  exact (show Tryz.prog.wantsStandIn t = false by simpa using List.all_eq_true.1 hall t hm)
theorem card : Rows.FnCutMetadataResponseUptoCardSaid :=
  Claim7.holds_tied_plain_at .later [] _ _ _ _ said (fun _ h => by cases h) (by kernel_rfl) (fun _ h => by cases h) fnCutMetadataResponseUpto_row_tie rfl ⟨rfl, rfl⟩ (by kernel_rfl) rfl plain (by kernel_rfl)
end Go.Proofs.YtlfhagnjemjaoaaGreatDoor.fnCutMetadataResponse
namespace Go.Proofs.YtlfhagnjemjaoaaGreatDoor
/-- The second form's card, under a short name, for the claim. -/
theorem fnCutMetadataResponse_holds : Rows.FnCutMetadataResponseUptoCardSaid := fnCutMetadataResponse.card
end Go.Proofs.YtlfhagnjemjaoaaGreatDoor
