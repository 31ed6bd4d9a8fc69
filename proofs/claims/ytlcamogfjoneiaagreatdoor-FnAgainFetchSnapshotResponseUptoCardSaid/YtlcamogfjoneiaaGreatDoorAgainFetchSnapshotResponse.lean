import Derived.Test.YtlcamogfjoneiaaGreatDoorKmEnt
import Derived.Test.YtlcamogfjoneiaaGreatDoorKd00
import Derived.Test.YtlcamogfjoneiaaGreatDoorCards
import Derived.Test.YtlcamogfjoneiaaGreatDoorTie
import Derived.WalkKit
import Derived.ProofKit
import Derived.OpenShut
import Derived.Handy
import Derived.Lay
import Derived.Deep.DeepHandedRow
import Derived.Deep.DeepWitnessRowRef
import Derived.SevenTiedAt
set_option linter.unusedVariables false
set_option linter.unusedSimpArgs false
namespace Go.Proofs.YtlcamogfjoneiaaGreatDoor.fnAgainFetchSnapshotResponse
open Go Go.Km Go.ChangeShapes Go.WideShapes Go.ChangeAt Go.RowKit
def m : Msg := { TP := 41, TU := 63, FD := 21, flex := some 0, kept := false, fs := (.cons .all (.scal .i32 0) (.cons .all (.scal .i16 0) (.cons .all (.list 57 none (.struct 76 79 62 (.cons .all .text (.cons .all (.list 77 none (.struct 81 87 67 (.cons .all (.scal .i32 0) (.cons .all (.scal .i16 0) (.cons .all (.struct 88 83 68 (.cons .all (.scal .i64 0) (.cons .all (.scal .i32 0) (.nil true)))) (.cons (.tag 0 0) (.struct 120 85 46 (.cons .all (.scal .i32 0) (.cons .all (.scal .i32 0) (.nil true)))) (.cons .all (.scal .i64 0) (.cons .all (.scal .i64 0) (.cons .all .bytes (.nil true)))))))))) (.nil true))))) (.cons (.tag 0 1) (.list 58 none (.struct 95 98 76 (.cons (.ge 1) (.scal .i32 0) (.cons (.ge 1) .text (.cons (.ge 1) (.scal .u16 0) (.nil true)))))) (.nil true))))) }
def mr : MR := { newPtr := 12, setV := 17, app := 19, rd := 18, rdi := 31, again := 9 }
theorem nw : NewC Tryz.prog mr.newPtr m := c_newPtr_ok (E := E) (np := 0) (npd := 1) (tt Tryz.func12 (by kernel_rfl) rfl (by kernel_rfl) (by decide)) (by decide) (tt Tryz.func21 (by kernel_rfl) rfl (by kernel_rfl) (by decide)) (by decide) (by kernel_rfl) (by kernel_rfl)
theorem im (w : World) : qa Tryz.prog 5 #[] w fun v w' => v = .int .i64 (1 : Nat) ∧ Below w.heap.size w w' := c_implMaxA_ok (E := E) (F := 5) (npf := mr.newPtr) (mvf := 13) (m := m) (np := 0) (mx := 1) i16k ik (tt Tryz.func5 (by kernel_rfl) rfl (by kernel_rfl) (by decide)) (by decide) nw (fun x w => c_maxV_ok (E := E) (np := 1) (mx := 1) (tt Tryz.func13 (by kernel_rfl) rfl (by kernel_rfl) (by decide)) (by decide) x w) (by decide) w
theorem txr : m.fs.txR Tryz.prog E := ⟨trivial, ⟨trivial, ⟨⟨⟨79, by kernel_rfl, by kernel_rfl⟩, ⟨⟨1, _, (tt Tryz.func62 (by kernel_rfl) rfl (by kernel_rfl) (by decide)), by decide⟩, ⟨trivial, ⟨⟨⟨87, by kernel_rfl, by kernel_rfl⟩, ⟨⟨1, _, (tt Tryz.func67 (by kernel_rfl) rfl (by kernel_rfl) (by decide)), by decide⟩, ⟨trivial, ⟨trivial, ⟨⟨⟨1, _, (tt Tryz.func68 (by kernel_rfl) rfl (by kernel_rfl) (by decide)), by decide⟩, ⟨trivial, ⟨trivial, trivial⟩⟩⟩, ⟨⟨⟨1, _, (tt Tryz.func46 (by kernel_rfl) rfl (by kernel_rfl) (by decide)), by decide⟩, ⟨trivial, ⟨trivial, trivial⟩⟩⟩, ⟨trivial, ⟨trivial, ⟨trivial, trivial⟩⟩⟩⟩⟩⟩⟩⟩⟩, trivial⟩⟩⟩⟩, ⟨⟨⟨98, by kernel_rfl, by kernel_rfl⟩, ⟨⟨1, _, (tt Tryz.func76 (by kernel_rfl) rfl (by kernel_rfl) (by decide)), by decide⟩, ⟨trivial, ⟨trivial, ⟨trivial, trivial⟩⟩⟩⟩⟩, trivial⟩⟩⟩⟩
theorem rd : ReadC Tryz.prog E (fun _ => True) m mr.rd := c_rfw_ok (np := 2) (npr := 3) (npd := 1) er rx rk trivial (tt Tryz.func18 (by kernel_rfl) rfl (by kernel_rfl) (by decide)) (by decide) (tt Tryz.func31 (by kernel_rfl) rfl (by kernel_rfl) (by decide)) (of_decide_eq_true (by kernel_rfl)) (tt Tryz.func21 (by kernel_rfl) rfl (by kernel_rfl) (by decide)) (by decide) (by kernel_rfl) (by kernel_rfl) txr (by kernel_rfl) (fun h => by cases h)
theorem lp : lpB m 1 = true := by kernel_rfl
theorem ag : AgainC Tryz.prog E m mr.again 1 := againC (np := 2) (nps := 2) (npa := 2) ew ei rt.row i16k ik o16 ifE (tt Tryz.func9 (by kernel_rfl) rfl (by kernel_rfl) (by decide)) (by decide) nw (tt Tryz.func17 (by kernel_rfl) rfl (by kernel_rfl) (by decide)) (by decide) (by kernel_rfl) rd (tt Tryz.func19 (by kernel_rfl) rfl (by kernel_rfl) (by decide)) (of_decide_eq_true (by kernel_rfl)) (by kernel_rfl) rfl (by decide) lp
def l54 : List FE := [((.mk 4 0 (-1) (-1) (-1) 0 0 .nil), none), ((.mk 3 0 (-1) (-1) (-1) 0 0 .nil), none)]
theorem lc54 : LitC Tryz.prog 54 (toSFs l54) := c_lit_ok (np := 0) sl hrF (tt Tryz.func54 (by kernel_rfl) rfl (by kernel_rfl) (by decide)) (by decide) (by decide) (by decide) (.none rfl (.none rfl (.nil)))
def l55 : List FE := [((.mk 3 0 (-1) (-1) (-1) 0 0 .nil), none), ((.mk 3 0 (-1) (-1) (-1) 0 0 .nil), none)]
theorem lc55 : LitC Tryz.prog 55 (toSFs l55) := c_lit_ok (np := 0) sl hrF (tt Tryz.func55 (by kernel_rfl) rfl (by kernel_rfl) (by decide)) (by decide) (by decide) (by decide) (.none rfl (.none rfl (.nil)))
def l30 : List FE := [((.mk 3 0 (-1) (-1) (-1) 0 0 .nil), none), ((.mk 2 0 (-1) (-1) (-1) 0 0 .nil), none), ((.mk 10 0 (-1) (-1) (-1) 0 0 (.cons (.mk 4 0 (-1) (-1) (-1) 0 0 .nil) (.cons (.mk 3 0 (-1) (-1) (-1) 0 0 .nil) .nil))), some 54), ((.mk 10 0 (-1) (-1) 0 0 0 (.cons (.mk 3 0 (-1) (-1) (-1) 0 0 .nil) (.cons (.mk 3 0 (-1) (-1) (-1) 0 0 .nil) .nil))), some 55), ((.mk 4 0 (-1) (-1) (-1) 0 0 .nil), none), ((.mk 4 0 (-1) (-1) (-1) 0 0 .nil), none), ((.mk 9 0 (-1) (-1) (-1) 0 0 .nil), none)]
theorem lc30 : LitC Tryz.prog 30 (toSFs l30) := c_lit_ok (np := 0) sl hrF (tt Tryz.func30 (by kernel_rfl) rfl (by kernel_rfl) (by decide)) (by decide) (by decide) (by decide) (.none rfl (.none rfl (.some lc54 (.some lc55 (.none rfl (.none rfl (.none rfl (.nil))))))))
def l15 : List FE := [((.mk 8 0 (-1) (-1) (-1) 0 0 .nil), none), ((.mk 11 0 (-1) (-1) (-1) 0 10 (.cons (.mk 3 0 (-1) (-1) (-1) 0 0 .nil) (.cons (.mk 2 0 (-1) (-1) (-1) 0 0 .nil) (.cons (.mk 10 0 (-1) (-1) (-1) 0 0 (.cons (.mk 4 0 (-1) (-1) (-1) 0 0 .nil) (.cons (.mk 3 0 (-1) (-1) (-1) 0 0 .nil) .nil))) (.cons (.mk 10 0 (-1) (-1) 0 0 0 (.cons (.mk 3 0 (-1) (-1) (-1) 0 0 .nil) (.cons (.mk 3 0 (-1) (-1) (-1) 0 0 .nil) .nil))) (.cons (.mk 4 0 (-1) (-1) (-1) 0 0 .nil) (.cons (.mk 4 0 (-1) (-1) (-1) 0 0 .nil) (.cons (.mk 9 0 (-1) (-1) (-1) 0 0 .nil) .nil)))))))), some 30)]
theorem lc15 : LitC Tryz.prog 15 (toSFs l15) := c_lit_ok (np := 0) sl hrF (tt Tryz.func15 (by kernel_rfl) rfl (by kernel_rfl) (by decide)) (by decide) (by decide) (by decide) (.none rfl (.some lc30 (.nil)))
def l16 : List FE := [((.mk 3 1 (-1) (-1) (-1) 0 0 .nil), none), ((.mk 8 1 (-1) (-1) (-1) 0 0 .nil), none), ((.mk 5 1 (-1) (-1) (-1) 0 0 .nil), none)]
theorem lc16 : LitC Tryz.prog 16 (toSFs l16) := c_lit_ok (np := 0) sl hrF (tt Tryz.func16 (by kernel_rfl) rfl (by kernel_rfl) (by decide)) (by decide) (by decide) (by decide) (.none rfl (.none rfl (.none rfl (.nil))))
def l0 : List FE := [((.mk 3 0 (-1) (-1) (-1) 0 0 .nil), none), ((.mk 2 0 (-1) (-1) (-1) 0 0 .nil), none), ((.mk 11 0 (-1) (-1) (-1) 0 10 (.cons (.mk 8 0 (-1) (-1) (-1) 0 0 .nil) (.cons (.mk 11 0 (-1) (-1) (-1) 0 10 (.cons (.mk 3 0 (-1) (-1) (-1) 0 0 .nil) (.cons (.mk 2 0 (-1) (-1) (-1) 0 0 .nil) (.cons (.mk 10 0 (-1) (-1) (-1) 0 0 (.cons (.mk 4 0 (-1) (-1) (-1) 0 0 .nil) (.cons (.mk 3 0 (-1) (-1) (-1) 0 0 .nil) .nil))) (.cons (.mk 10 0 (-1) (-1) 0 0 0 (.cons (.mk 3 0 (-1) (-1) (-1) 0 0 .nil) (.cons (.mk 3 0 (-1) (-1) (-1) 0 0 .nil) .nil))) (.cons (.mk 4 0 (-1) (-1) (-1) 0 0 .nil) (.cons (.mk 4 0 (-1) (-1) (-1) 0 0 .nil) (.cons (.mk 9 0 (-1) (-1) (-1) 0 0 .nil) .nil)))))))) .nil))), some 15), ((.mk 11 0 (-1) (-1) 0 0 10 (.cons (.mk 3 1 (-1) (-1) (-1) 0 0 .nil) (.cons (.mk 8 1 (-1) (-1) (-1) 0 0 .nil) (.cons (.mk 5 1 (-1) (-1) (-1) 0 0 .nil) .nil)))), some 16)]
theorem sp : SpecC Tryz.prog 7 (toSFs l0) 0 := c_spec_ok (np := 0) sl hrF hM (tt Tryz.func7 (by kernel_rfl) rfl (by kernel_rfl) (by decide)) (by decide) (by decide) (by decide) (.none rfl (.none rfl (.some lc15 (.some lc16 (.nil)))))
def al : ML := { implMax := 5, spec := 7, again := mr.again, law := 3, fits2 := 4, fits3 := 11, fits4 := 20, tTup := 35 }
theorem lt : LawT Tryz.prog E al m (toSFs l0) 0 1 := ⟨se, sl, st, hz8, hoM, hM, lv, (tt Tryz.func20 (by kernel_rfl) rfl (by kernel_rfl) (by decide)), (tt Tryz.func11 (by kernel_rfl) rfl (by kernel_rfl) (by decide)), (tt Tryz.func4 (by kernel_rfl) rfl (by kernel_rfl) (by decide)), im, sp, ag⟩
theorem sd : Spd m (toSFs l0) 0 1 := ⟨by kernel_rfl, of_decide_eq_true (by kernel_rfl), by kernel_rfl, fun ver _ => isFlex_eq (by kernel_rfl) ver, lp, rfl, by decide⟩
theorem cost : m.fs.cost ≤ 2047 := of_decide_eq_true (by kernel_rfl)
set_option maxRecDepth 100000 in
theorem walk {W : World} (hL : laidMetH Tryz.prog Rows.fnAgainFetchSnapshotResponseRow.laid W) (n : Nat) (hn : n < 256) (t : Tr) (ts : List Value) (hr : t.Rep W W.heap.size ts) (htk : t.tok) (hwt : t.wt ≤ 1048576) : qa Tryz.prog al.law #[.int .u8 n, .agg ts.toArray] W fun v w' => v = .bool true ∧ Below W.heap.size W w' := by
  obtain ⟨ev, he, hev⟩ := laid_ev (g := E.vErr) (ti := E.tErr) (by kernel_rfl) (by kernel_rfl) ifE (by kernel_rfl) hL
  exact c_againL_ok (np := 2) lt sd (tt Tryz.func3 (by kernel_rfl) rfl (by kernel_rfl) (by decide)) (by decide) hn hr htk (tags_small hwt) (fun ver _ => part_big sd.agr cost hwt) he hev
set_option maxRecDepth 100000 in
theorem contract (H : Type) (enc : TypeId × Value → H) (W : World) (base : Nat) (args : Array Value) (ds gs : List (DataW H)) (before : List MemPlace)
    (hval : ∀ (j : Nat) t v, Tryz.f3.params[j]? = some t → args[j]? = some v → Value.okWide Tryz.prog W .any base t v)
    (hW : DataW.Whole enc Tryz.prog Tryz.f3.params.toList Rows.fnAgainFetchSnapshotResponseSpec.vars false W args.toList ds gs before) (hb : Rows.uptoSmall H (ds ++ gs) = true) (hL : laidMetH Tryz.prog Rows.fnAgainFetchSnapshotResponseRow.laid W) :
    Calls Tryz.prog 3 args W fun e W' => ∃ v, e = .returned v ∧ Rows.fnAgainFetchSnapshotResponseSpec.post enc Tryz.prog Tryz.f3 false true false false W args v W' :=
  againRow (E := E) (tb := 4) tr5 (bk H) Tryz.params3 (by kernel_rfl) Tryz.underlying4 rfl (fun _ _ => rfl) lo ⟨by kernel_rfl, of_decide_eq_true (by kernel_rfl)⟩ ⟨by kernel_rfl, of_decide_eq_true (by kernel_rfl)⟩ (bound hb) (fun n hn t ts hr htk hwt => walk hL n hn t ts hr htk hwt) hval hW
noncomputable def laidWorld (os : Os) : World := World.laidAll Tryz.prog os Rows.fnAgainFetchSnapshotResponseRow.laid
theorem laid_met (os : Os) : laidMetH Tryz.prog Rows.fnAgainFetchSnapshotResponseRow.laid ((laidWorld os).forCall (fun _ _ => 0) ⟨#[], #[.int .u8 0, .agg #[.int .i64 0, .slice none 0 0, .bool false, .slice none 0 0, .slice none 0 0]], []⟩).memory := by
  rw [MakeChecks.laidMetH_plain _ _ _ (by kernel_rfl)]
  exact laidMet_laidAll _ (by kernel_rfl) (by kernel_rfl)
theorem reads (os : Os) {H : Type} (enc : TypeId × Value → H) : ∃ places, DataW.whole enc Tryz.prog ((laidWorld os).forCall (fun _ _ => 0) ⟨#[], #[.int .u8 0, .agg #[.int .i64 0, .slice none 0 0, .bool false, .slice none 0 0, .slice none 0 0]], []⟩).memory Tryz.f3.params.toList Rows.fnAgainFetchSnapshotResponseSpec.vars false #[.int .u8 0, .agg #[.int .i64 0, .slice none 0 0, .bool false, .slice none 0 0, .slice none 0 0]].toList 8 = some ([.lit (.int .u8 0), .agg [.lit (.int .i64 0), .nil, .lit (.bool false), .nil, .nil]], [], places) :=
  ⟨[], by kernel_rfl⟩
set_option maxRecDepth 100000 in
theorem lifted (os : Os) (started : os.Started) (H : Type) (enc : TypeId × Value → H) (F : Stop.Interp) :
    ReturnsInHanded {} Tryz.checked os 3 .any ((Rows.OpenSpec.upto Rows.fnAgainFetchSnapshotResponseSpec).preRow enc Tryz.prog Tryz.f3 Rows.fnAgainFetchSnapshotResponseUptoRow.domain false Rows.fnAgainFetchSnapshotResponseUptoRow.laid) (((Rows.OpenSpec.upto Rows.fnAgainFetchSnapshotResponseSpec).at F).post enc Tryz.prog Tryz.f3 false true false false) := by
  obtain ⟨places, hx⟩ := reads os enc
  refine returnsInHanded_of_row (C := Tryz.checked) (s := Rows.OpenSpec.upto Rows.fnAgainFetchSnapshotResponseSpec) own started (by kernel_rfl) Tryz.func3
    (witness_row_atRef (enc := enc) (C := Tryz.checked) false (laidWorld os) #[.int .u8 0, .agg #[.int .i64 0, .slice none 0 0, .bool false, .slice none 0 0, .slice none 0 0]] (World.laidAll_os _ _ _) (by kernel_rfl) (by kernel_rfl) (by kernel_rfl)
      (OpenSpec.preRow_of_cond 8 hx (by kernel_rfl) (fun k hk => by cases hk; kernel_rfl) (by kernel_rfl) (laid_met os))) ?_
  intro W base args ds gs before hval hW _ hcond _ hL _ _
  exact contract H enc W base args ds gs before hval hW (hcond _ rfl) hL
theorem facts : joinedFacts Tryz.prog 3 Tryz.f3 (Rows.OpenSpec.upto Rows.fnAgainFetchSnapshotResponseSpec).bare Rows.fnAgainFetchSnapshotResponseUptoRow = true := by
  unfold joinedFacts
  rw [lf, me]
  kernel_rfl
theorem said : Rows.FnAgainFetchSnapshotResponseUptoSaid :=
  OpenClaim.holds_of_cond 3 Tryz.f3 rfl rfl rfl rfl rfl rfl rfl ⟨rfl, rfl, rfl, rfl, rfl⟩ rfl rfl rfl rfl rfl (by kernel_rfl) Tryz.func3 facts
    (of_decide_eq_true (by kernel_rfl)) (by unfold Func.isWrapper; first | (rw [if_pos (by decide +kernel)]; kernel_rfl) | (rw [if_neg (by decide +kernel)]; exact ⟨rfl, rfl⟩))
    (fun os started H enc _ F => by rw [OpenClaim.pre_eq_preRow]; exact lifted os started H enc F)
theorem plain (f : FuncId) (fn : Func) (hf : Tryz.pinned.checked.prog.funcNamed "pub-kmsg/laws.FnAgainFetchSnapshotResponse" = some f) (hfn : Tryz.pinned.checked.prog.funcs[f]? = some fn) :
    false = Tryz.pinned.checked.prog.looks [] ∧ ∀ (j : Nat) t, fn.params[j]? = some t → Tryz.pinned.checked.prog.wantsStandIn t = false := by
  obtain rfl : f = 3 := Option.some.inj ((show Tryz.prog.funcNamed "pub-kmsg/laws.FnAgainFetchSnapshotResponse" = some 3 by kernel_rfl).symm.trans hf) |>.symm
  obtain rfl : fn = Tryz.f3 := (Option.some.inj (Tryz.func3.symm.trans hfn)).symm
  refine ⟨by kernel_rfl, fun j t ht => ?_⟩
  rw [Tryz.params3] at ht
  have hm : t ∈ [5, 26] := by simpa using Array.mem_of_getElem? ht
  have hall : ([5, 26].all fun u => !Tryz.prog.wantsStandIn u) = true := by kernel_rfl
  exact (show Tryz.prog.wantsStandIn t = false by simpa using List.all_eq_true.1 hall t hm)
theorem card : Rows.FnAgainFetchSnapshotResponseUptoCardSaid :=
  Claim7.holds_tied_plain_at .later [] _ _ _ _ said (fun _ h => by cases h) (by kernel_rfl) (fun _ h => by cases h) fnAgainFetchSnapshotResponseUpto_row_tie rfl ⟨rfl, rfl⟩ (by kernel_rfl) rfl plain (by kernel_rfl)
end Go.Proofs.YtlcamogfjoneiaaGreatDoor.fnAgainFetchSnapshotResponse
namespace Go.Proofs.YtlcamogfjoneiaaGreatDoor
/-- The second form's card, under a short name, for the claim. -/
theorem fnAgainFetchSnapshotResponse_holds : Rows.FnAgainFetchSnapshotResponseUptoCardSaid := fnAgainFetchSnapshotResponse.card
end Go.Proofs.YtlcamogfjoneiaaGreatDoor
