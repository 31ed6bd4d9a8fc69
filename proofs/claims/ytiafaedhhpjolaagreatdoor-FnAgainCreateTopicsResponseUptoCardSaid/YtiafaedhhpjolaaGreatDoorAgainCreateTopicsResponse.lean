import Derived.Test.YtiafaedhhpjolaaGreatDoorKmEnt
import Derived.Test.YtiafaedhhpjolaaGreatDoorKd00
import Derived.Test.YtiafaedhhpjolaaGreatDoorCards
import Derived.Test.YtiafaedhhpjolaaGreatDoorTie
import Derived.WalkKit
import Derived.ProofKit
import Derived.OpenShut
import Derived.Handy
import Derived.Lay
import Derived.Deep.DeepHandedRow
import Derived.Deep.DeepWitnessRowRef
import Derived.SevenTiedAt
set_option linter.unusedVariables false
set_option linter.unusedSimpArgs false
namespace Go.Proofs.YtiafaedhhpjolaaGreatDoor.fnAgainCreateTopicsResponse
open Go Go.Km Go.ChangeShapes Go.WideShapes Go.ChangeAt Go.RowKit
def m : Msg := { TP := 61, TU := 87, FD := 44, flex := some 5, kept := false, fs := (.cons (.ge 2) (.scal .i32 0) (.cons .all (.list 85 none (.struct 96 101 87 (.cons .all .text (.cons (.ge 7) .uuid (.cons .all (.scal .i16 0) (.cons (.ge 1) .ntext (.cons (.tag 0 0) (.scal .i16 0) (.cons (.ge 5) (.scal .i32 (-1)) (.cons (.ge 5) (.scal .i16 (-1)) (.cons (.ge 5) (.list 99 (some 0) (.struct 104 106 93 (.cons .all .text (.cons .all .ntext (.cons .all (.scal .bool 0) (.cons .all (.scal .i8 (-1)) (.cons .all (.scal .bool 0) (.nil true)))))))) (.nil true))))))))))) (.nil true))) }
def mr : MR := { newPtr := 21, setV := 25, app := 27, rd := 26, rdi := 54, again := 13 }
theorem nw : NewC Tryz.prog mr.newPtr m := c_newPtr_ok (E := E) (np := 0) (npd := 1) (tt Tryz.func21 (by kernel_rfl) rfl (by kernel_rfl) (by decide)) (by decide) (tt Tryz.func44 (by kernel_rfl) rfl (by kernel_rfl) (by decide)) (by decide) (by kernel_rfl) (by kernel_rfl)
theorem im (w : World) : qa Tryz.prog 9 #[] w fun v w' => v = .int .i64 (7 : Nat) ∧ Below w.heap.size w w' := c_implMaxA_ok (E := E) (F := 9) (npf := mr.newPtr) (mvf := 22) (m := m) (np := 0) (mx := 7) i16k ik (tt Tryz.func9 (by kernel_rfl) rfl (by kernel_rfl) (by decide)) (by decide) nw (fun x w => c_maxV_ok (E := E) (np := 1) (mx := 7) (tt Tryz.func22 (by kernel_rfl) rfl (by kernel_rfl) (by decide)) (by decide) x w) (by decide) w
theorem txr : m.fs.txR Tryz.prog E := ⟨trivial, ⟨⟨⟨101, by kernel_rfl, by kernel_rfl⟩, ⟨⟨1, _, (tt Tryz.func87 (by kernel_rfl) rfl (by kernel_rfl) (by decide)), by decide⟩, ⟨trivial, ⟨trivial, ⟨trivial, ⟨trivial, ⟨trivial, ⟨trivial, ⟨trivial, ⟨⟨⟨106, by kernel_rfl, by kernel_rfl⟩, ⟨⟨1, _, (tt Tryz.func93 (by kernel_rfl) rfl (by kernel_rfl) (by decide)), by decide⟩, ⟨trivial, ⟨trivial, ⟨trivial, ⟨trivial, ⟨trivial, trivial⟩⟩⟩⟩⟩⟩⟩, trivial⟩⟩⟩⟩⟩⟩⟩⟩⟩⟩, trivial⟩⟩
theorem rd : ReadC Tryz.prog E (fun _ => True) m mr.rd := c_rfw_ok (np := 2) (npr := 3) (npd := 1) er rx rk trivial (tt Tryz.func26 (by kernel_rfl) rfl (by kernel_rfl) (by decide)) (by decide) (tt Tryz.func54 (by kernel_rfl) rfl (by kernel_rfl) (by decide)) (of_decide_eq_true (by kernel_rfl)) (tt Tryz.func44 (by kernel_rfl) rfl (by kernel_rfl) (by decide)) (by decide) (by kernel_rfl) (by kernel_rfl) txr (by kernel_rfl) (fun h => by cases h)
theorem lp : lpB m 7 = true := by kernel_rfl
theorem ag : AgainC Tryz.prog E m mr.again 7 := againC (np := 2) (nps := 2) (npa := 2) ew ei rt.row i16k ik o16 ifE (tt Tryz.func13 (by kernel_rfl) rfl (by kernel_rfl) (by decide)) (by decide) nw (tt Tryz.func25 (by kernel_rfl) rfl (by kernel_rfl) (by decide)) (by decide) (by kernel_rfl) rd (tt Tryz.func27 (by kernel_rfl) rfl (by kernel_rfl) (by decide)) (of_decide_eq_true (by kernel_rfl)) (by kernel_rfl) rfl (by decide) lp
def l53 : List FE := [((.mk 8 0 (-1) (-1) (-1) 0 0 .nil), none), ((.mk 8 0 (-1) 0 (-1) 0 0 .nil), none), ((.mk 0 0 (-1) (-1) (-1) 0 0 .nil), none), ((.mk 1 0 (-1) (-1) (-1) (-1) 0 .nil), none), ((.mk 0 0 (-1) (-1) (-1) 0 0 .nil), none)]
theorem lc53 : LitC Tryz.prog 53 (toSFs l53) := c_lit_ok (np := 0) sl hrF (tt Tryz.func53 (by kernel_rfl) rfl (by kernel_rfl) (by decide)) (by decide) (by decide) (by decide) (.none rfl (.none rfl (.none rfl (.none rfl (.none rfl (.nil))))))
def l24 : List FE := [((.mk 8 0 (-1) (-1) (-1) 0 0 .nil), none), ((.mk 7 7 (-1) (-1) (-1) 0 0 .nil), none), ((.mk 2 0 (-1) (-1) (-1) 0 0 .nil), none), ((.mk 8 1 (-1) 1 (-1) 0 0 .nil), none), ((.mk 2 0 (-1) (-1) 0 0 0 .nil), none), ((.mk 3 5 (-1) (-1) (-1) (-1) 0 .nil), none), ((.mk 2 5 (-1) (-1) (-1) (-1) 0 .nil), none), ((.mk 11 5 (-1) 5 (-1) 0 10 (.cons (.mk 8 0 (-1) (-1) (-1) 0 0 .nil) (.cons (.mk 8 0 (-1) 0 (-1) 0 0 .nil) (.cons (.mk 0 0 (-1) (-1) (-1) 0 0 .nil) (.cons (.mk 1 0 (-1) (-1) (-1) (-1) 0 .nil) (.cons (.mk 0 0 (-1) (-1) (-1) 0 0 .nil) .nil)))))), some 53)]
theorem lc24 : LitC Tryz.prog 24 (toSFs l24) := c_lit_ok (np := 0) sl hrF (tt Tryz.func24 (by kernel_rfl) rfl (by kernel_rfl) (by decide)) (by decide) (by decide) (by decide) (.none rfl (.none rfl (.none rfl (.none rfl (.none rfl (.none rfl (.none rfl (.some lc53 (.nil)))))))))
def l0 : List FE := [((.mk 3 2 (-1) (-1) (-1) 0 0 .nil), none), ((.mk 11 0 (-1) (-1) (-1) 0 10 (.cons (.mk 8 0 (-1) (-1) (-1) 0 0 .nil) (.cons (.mk 7 7 (-1) (-1) (-1) 0 0 .nil) (.cons (.mk 2 0 (-1) (-1) (-1) 0 0 .nil) (.cons (.mk 8 1 (-1) 1 (-1) 0 0 .nil) (.cons (.mk 2 0 (-1) (-1) 0 0 0 .nil) (.cons (.mk 3 5 (-1) (-1) (-1) (-1) 0 .nil) (.cons (.mk 2 5 (-1) (-1) (-1) (-1) 0 .nil) (.cons (.mk 11 5 (-1) 5 (-1) 0 10 (.cons (.mk 8 0 (-1) (-1) (-1) 0 0 .nil) (.cons (.mk 8 0 (-1) 0 (-1) 0 0 .nil) (.cons (.mk 0 0 (-1) (-1) (-1) 0 0 .nil) (.cons (.mk 1 0 (-1) (-1) (-1) (-1) 0 .nil) (.cons (.mk 0 0 (-1) (-1) (-1) 0 0 .nil) .nil)))))) .nil))))))))), some 24)]
theorem sp : SpecC Tryz.prog 11 (toSFs l0) 5 := c_spec_ok (np := 0) sl hrF hM (tt Tryz.func11 (by kernel_rfl) rfl (by kernel_rfl) (by decide)) (by decide) (by decide) (by decide) (.none rfl (.some lc24 (.nil)))
def al : ML := { implMax := 9, spec := 11, again := mr.again, law := 4, fits2 := 5, fits3 := 15, fits4 := 28, tTup := 34 }
theorem lt : LawT Tryz.prog E al m (toSFs l0) 5 7 := ⟨se, sl, st, hz8, hoM, hM, lv, (tt Tryz.func28 (by kernel_rfl) rfl (by kernel_rfl) (by decide)), (tt Tryz.func15 (by kernel_rfl) rfl (by kernel_rfl) (by decide)), (tt Tryz.func5 (by kernel_rfl) rfl (by kernel_rfl) (by decide)), im, sp, ag⟩
theorem sd : Spd m (toSFs l0) 5 7 := ⟨by kernel_rfl, of_decide_eq_true (by kernel_rfl), by kernel_rfl, fun ver _ => isFlex_eq (by kernel_rfl) ver, lp, rfl, by decide⟩
theorem cost : m.fs.cost ≤ 2047 := of_decide_eq_true (by kernel_rfl)
set_option maxRecDepth 100000 in
theorem walk {W : World} (hL : laidMetH Tryz.prog Rows.fnAgainCreateTopicsResponseRow.laid W) (n : Nat) (hn : n < 256) (t : Tr) (ts : List Value) (hr : t.Rep W W.heap.size ts) (htk : t.tok) (hwt : t.wt ≤ 1048576) : qa Tryz.prog al.law #[.int .u8 n, .agg ts.toArray] W fun v w' => v = .bool true ∧ Below W.heap.size W w' := by
  obtain ⟨ev, he, hev⟩ := laid_ev (g := E.vErr) (ti := E.tErr) (by kernel_rfl) (by kernel_rfl) ifE (by kernel_rfl) hL
  exact c_againL_ok (np := 2) lt sd (tt Tryz.func4 (by kernel_rfl) rfl (by kernel_rfl) (by decide)) (by decide) hn hr htk (tags_small hwt) (fun ver _ => part_big sd.agr cost hwt) he hev
set_option maxRecDepth 100000 in
theorem contract (H : Type) (enc : TypeId × Value → H) (W : World) (base : Nat) (args : Array Value) (ds gs : List (DataW H)) (before : List MemPlace)
    (hval : ∀ (j : Nat) t v, Tryz.f4.params[j]? = some t → args[j]? = some v → Value.okWide Tryz.prog W .any base t v)
    (hW : DataW.Whole enc Tryz.prog Tryz.f4.params.toList Rows.fnAgainCreateTopicsResponseSpec.vars false W args.toList ds gs before) (hb : Rows.uptoSmall H (ds ++ gs) = true) (hL : laidMetH Tryz.prog Rows.fnAgainCreateTopicsResponseRow.laid W) :
    Calls Tryz.prog 4 args W fun e W' => ∃ v, e = .returned v ∧ Rows.fnAgainCreateTopicsResponseSpec.post enc Tryz.prog Tryz.f4 false true false false W args v W' :=
  againRow (E := E) (tb := 4) tr5 (bk H) Tryz.params4 (by kernel_rfl) Tryz.underlying4 rfl (fun _ _ => rfl) lo ⟨by kernel_rfl, of_decide_eq_true (by kernel_rfl)⟩ ⟨by kernel_rfl, of_decide_eq_true (by kernel_rfl)⟩ (bound hb) (fun n hn t ts hr htk hwt => walk hL n hn t ts hr htk hwt) hval hW
noncomputable def laidWorld (os : Os) : World := World.laidAll Tryz.prog os Rows.fnAgainCreateTopicsResponseRow.laid
theorem laid_met (os : Os) : laidMetH Tryz.prog Rows.fnAgainCreateTopicsResponseRow.laid ((laidWorld os).forCall (fun _ _ => 0) ⟨#[], #[.int .u8 0, .agg #[.int .i64 0, .slice none 0 0, .bool false, .slice none 0 0, .slice none 0 0]], []⟩).memory := by
  rw [MakeChecks.laidMetH_plain _ _ _ (by kernel_rfl)]
  exact laidMet_laidAll _ (by kernel_rfl) (by kernel_rfl)
theorem reads (os : Os) {H : Type} (enc : TypeId × Value → H) : ∃ places, DataW.whole enc Tryz.prog ((laidWorld os).forCall (fun _ _ => 0) ⟨#[], #[.int .u8 0, .agg #[.int .i64 0, .slice none 0 0, .bool false, .slice none 0 0, .slice none 0 0]], []⟩).memory Tryz.f4.params.toList Rows.fnAgainCreateTopicsResponseSpec.vars false #[.int .u8 0, .agg #[.int .i64 0, .slice none 0 0, .bool false, .slice none 0 0, .slice none 0 0]].toList 8 = some ([.lit (.int .u8 0), .agg [.lit (.int .i64 0), .nil, .lit (.bool false), .nil, .nil]], [], places) :=
  ⟨[], by kernel_rfl⟩
set_option maxRecDepth 100000 in
theorem lifted (os : Os) (started : os.Started) (H : Type) (enc : TypeId × Value → H) (F : Stop.Interp) :
    ReturnsInHanded {} Tryz.checked os 4 .any ((Rows.OpenSpec.upto Rows.fnAgainCreateTopicsResponseSpec).preRow enc Tryz.prog Tryz.f4 Rows.fnAgainCreateTopicsResponseUptoRow.domain false Rows.fnAgainCreateTopicsResponseUptoRow.laid) (((Rows.OpenSpec.upto Rows.fnAgainCreateTopicsResponseSpec).at F).post enc Tryz.prog Tryz.f4 false true false false) := by
  obtain ⟨places, hx⟩ := reads os enc
  refine returnsInHanded_of_row (C := Tryz.checked) (s := Rows.OpenSpec.upto Rows.fnAgainCreateTopicsResponseSpec) own started (by kernel_rfl) Tryz.func4
    (witness_row_atRef (enc := enc) (C := Tryz.checked) false (laidWorld os) #[.int .u8 0, .agg #[.int .i64 0, .slice none 0 0, .bool false, .slice none 0 0, .slice none 0 0]] (World.laidAll_os _ _ _) (by kernel_rfl) (by kernel_rfl) (by kernel_rfl)
      (OpenSpec.preRow_of_cond 8 hx (by kernel_rfl) (fun k hk => by cases hk; kernel_rfl) (by kernel_rfl) (laid_met os))) ?_
  intro W base args ds gs before hval hW _ hcond _ hL _ _
  exact contract H enc W base args ds gs before hval hW (hcond _ rfl) hL
theorem facts : joinedFacts Tryz.prog 4 Tryz.f4 (Rows.OpenSpec.upto Rows.fnAgainCreateTopicsResponseSpec).bare Rows.fnAgainCreateTopicsResponseUptoRow = true := by
  unfold joinedFacts
  rw [lf, me]
  kernel_rfl
theorem said : Rows.FnAgainCreateTopicsResponseUptoSaid :=
  OpenClaim.holds_of_cond 4 Tryz.f4 rfl rfl rfl rfl rfl rfl rfl ⟨rfl, rfl, rfl, rfl, rfl⟩ rfl rfl rfl rfl rfl (by kernel_rfl) Tryz.func4 facts
    (of_decide_eq_true (by kernel_rfl)) (by unfold Func.isWrapper; first | (rw [if_pos (by decide +kernel)]; kernel_rfl) | (rw [if_neg (by decide +kernel)]; exact ⟨rfl, rfl⟩))
    (fun os started H enc _ F => by rw [OpenClaim.pre_eq_preRow]; exact lifted os started H enc F)
theorem plain (f : FuncId) (fn : Func) (hf : Tryz.pinned.checked.prog.funcNamed "pub-kmsg/laws.FnAgainCreateTopicsResponse" = some f) (hfn : Tryz.pinned.checked.prog.funcs[f]? = some fn) :
    false = Tryz.pinned.checked.prog.looks [] ∧ ∀ (j : Nat) t, fn.params[j]? = some t → Tryz.pinned.checked.prog.wantsStandIn t = false := by
  obtain rfl : f = 4 := Option.some.inj ((show Tryz.prog.funcNamed "pub-kmsg/laws.FnAgainCreateTopicsResponse" = some 4 by kernel_rfl).symm.trans hf) |>.symm
  obtain rfl : fn = Tryz.f4 := (Option.some.inj (Tryz.func4.symm.trans hfn)).symm
  refine ⟨by kernel_rfl, fun j t ht => ?_⟩
  rw [Tryz.params4] at ht
  have hm : t ∈ [5, 26] := by simpa using Array.mem_of_getElem? ht
  have hall : ([5, 26].all fun u => !Tryz.prog.wantsStandIn u) = true := by kernel_rfl
  exact (show Tryz.prog.wantsStandIn t = false by simpa using List.all_eq_true.1 hall t hm)
theorem card : Rows.FnAgainCreateTopicsResponseUptoCardSaid :=
  Claim7.holds_tied_plain_at .later [] _ _ _ _ said (fun _ h => by cases h) (by kernel_rfl) (fun _ h => by cases h) fnAgainCreateTopicsResponseUpto_row_tie rfl ⟨rfl, rfl⟩ (by kernel_rfl) rfl plain (by kernel_rfl)
end Go.Proofs.YtiafaedhhpjolaaGreatDoor.fnAgainCreateTopicsResponse
namespace Go.Proofs.YtiafaedhhpjolaaGreatDoor
/-- The second form's card, under a short name, for the claim. -/
theorem fnAgainCreateTopicsResponse_holds : Rows.FnAgainCreateTopicsResponseUptoCardSaid := fnAgainCreateTopicsResponse.card
end Go.Proofs.YtiafaedhhpjolaaGreatDoor
