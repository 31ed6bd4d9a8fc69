/- A LeaderChangeMessage that the spec writes of any tree is read, at every version, and written back as it was, where what is read is of bulk at most 1048576; the variable that the row lists holds what the text lays. -/
import Derived.Test.YtapmfbenmeigpaaDoorKmEnt
import Derived.Test.YtapmfbenmeigpaaDoorCards
import Derived.Test.YtapmfbenmeigpaaDoorTie
import Derived.WalkKit
import Derived.ProofKit
import Derived.OpenShut
import Derived.Handy
import Derived.Lay
import Derived.Deep.DeepHandedRow
import Derived.Deep.DeepWitnessRowRef
import Derived.SevenTiedAt
set_option linter.unusedVariables false
set_option linter.unusedSimpArgs false
namespace Go.Proofs.YtapmfbenmeigpaaDoor.fnAgainLeaderChangeMessage
open Go Go.Km Go.ChangeShapes Go.WideShapes Go.ChangeAt Go.RowKit
def m : Msg := { TP := 87, TU := 62, FD := 64, flex := some 0, kept := true, fs := (.cons .all (.scal .i32 0) (.cons .all (.list 57 none (.struct 90 93 97 (.cons .all (.scal .i32 0) (.cons (.ge 1) .uuid (.nil true))))) (.cons .all (.list 57 none (.struct 90 93 97 (.cons .all (.scal .i32 0) (.cons (.ge 1) .uuid (.nil true))))) (.nil true)))) }
def mk : MK := { newK := 36, app := 38, rd := 37, again := 17 }
theorem nk : NewKC Tryd.prog mk.newK m := c_newK_ok (E := E) (np := 0) (npd := 1) (tt Tryd.func36 (by kernel_rfl) rfl (by kernel_rfl) (by decide)) (by decide) (tt Tryd.func64 (by kernel_rfl) rfl (by kernel_rfl) (by decide)) (by decide) (by kernel_rfl) (by kernel_rfl) (by kernel_rfl) (by kernel_rfl) (by kernel_rfl)
theorem txr : m.fs.txR Tryd.prog E := ⟨trivial, ⟨⟨⟨93, by kernel_rfl, by kernel_rfl⟩, ⟨⟨1, _, (tt Tryd.func97 (by kernel_rfl) rfl (by kernel_rfl) (by decide)), by decide⟩, ⟨trivial, ⟨trivial, trivial⟩⟩⟩⟩, ⟨⟨⟨93, by kernel_rfl, by kernel_rfl⟩, ⟨⟨1, _, (tt Tryd.func97 (by kernel_rfl) rfl (by kernel_rfl) (by decide)), by decide⟩, ⟨trivial, ⟨trivial, trivial⟩⟩⟩⟩, trivial⟩⟩⟩
theorem rd : ReadC Tryd.prog E (fun _ => True) m mk.rd := c_rfw_ok (np := 2) (npr := 3) (npd := 1) er rx trivial (tt Tryd.func37 (by kernel_rfl) rfl (by kernel_rfl) (by decide)) (by decide) (tt Tryd.func65 (by kernel_rfl) rfl (by kernel_rfl) (by decide)) (of_decide_eq_true (by kernel_rfl)) (tt Tryd.func64 (by kernel_rfl) rfl (by kernel_rfl) (by decide)) (by decide) (by kernel_rfl) (by kernel_rfl) txr (by kernel_rfl) (fun _ => by decide)
theorem lp : lpB m 1 = true := by kernel_rfl
theorem ag : AgainKC Tryd.prog E m mk.again := againKC (np := 1) (npa := 2) ew ei rt.row ifE (tt Tryd.func17 (by kernel_rfl) rfl (by kernel_rfl) (by decide)) (by decide) nk rd (tt Tryd.func38 (by kernel_rfl) rfl (by kernel_rfl) (by decide)) (of_decide_eq_true (by kernel_rfl)) (by kernel_rfl) rfl (by kernel_rfl) (by kernel_rfl) (by kernel_rfl) (by kernel_rfl)
def l35 : List FE := [((.mk 3 0 (-1) (-1) (-1) 0 0 .nil), none), ((.mk 7 1 (-1) (-1) (-1) 0 0 .nil), none)]
theorem lc35 : LitC Tryd.prog 35 (toSFs l35) := c_lit_ok (np := 0) sl hrF (tt Tryd.func35 (by kernel_rfl) rfl (by kernel_rfl) (by decide)) (by decide) (by decide) (by decide) (.none rfl (.none rfl (.nil)))
def l0 : List FE := [((.mk 3 0 (-1) (-1) (-1) 0 0 .nil), none), ((.mk 11 0 (-1) (-1) (-1) 0 10 (.cons (.mk 3 0 (-1) (-1) (-1) 0 0 .nil) (.cons (.mk 7 1 (-1) (-1) (-1) 0 0 .nil) .nil))), some 35), ((.mk 11 0 (-1) (-1) (-1) 0 10 (.cons (.mk 3 0 (-1) (-1) (-1) 0 0 .nil) (.cons (.mk 7 1 (-1) (-1) (-1) 0 0 .nil) .nil))), some 35)]
theorem sp : SpecC Tryd.prog 16 (toSFs l0) 0 := c_spec_ok (np := 0) sl hrF hM (tt Tryd.func16 (by kernel_rfl) rfl (by kernel_rfl) (by decide)) (by decide) (by decide) (by decide) (.none rfl (.some lc35 (.some lc35 (.nil))))
def al : ML := { implMax := 0, spec := 16, again := mk.again, law := 5, fits2 := 14, fits3 := 32, fits4 := 62, tTup := 24 }
theorem lt : LawK Tryd.prog E al m (toSFs l0) 0 := ⟨se, sl, st, hz8, hoM, hM, (tt Tryd.func62 (by kernel_rfl) rfl (by kernel_rfl) (by decide)), (tt Tryd.func32 (by kernel_rfl) rfl (by kernel_rfl) (by decide)), (tt Tryd.func14 (by kernel_rfl) rfl (by kernel_rfl) (by decide)), (tt Tryd.func15 (by kernel_rfl) rfl (by kernel_rfl) (by decide)), sp, ag⟩
theorem sd : SpdK m (toSFs l0) 0 := ⟨by kernel_rfl, of_decide_eq_true (by kernel_rfl), by kernel_rfl, fun ver => isFlex_eq (by kernel_rfl) ver, lp, rfl⟩
theorem cost : m.fs.cost ≤ 2047 := of_decide_eq_true (by kernel_rfl)
set_option maxRecDepth 100000 in
theorem walk {W : World} (hL : laidMetH Tryd.prog Rows.fnAgainLeaderChangeMessageRow.laid W) (n : Nat) (hn : n < 256) (t : Tr) (ts : List Value) (hr : t.Rep W W.heap.size ts) (htk : t.tok) (hwt : t.wt ≤ 1048576) : CallsV Tryd.prog al.law #[.int .u8 n, .agg ts.toArray] W fun v w' => v = .bool true ∧ Below W.heap.size W w' := by
  obtain ⟨ev, he, hev⟩ := laid_ev (g := E.vErr) (ti := E.tErr) (by kernel_rfl) (by kernel_rfl) ifE (by kernel_rfl) hL
  exact c_againKL_ok (np := 2) lt sd (tt Tryd.func5 (by kernel_rfl) rfl (by kernel_rfl) (by decide)) (by decide) hn hr htk (tags_small hwt) (kept_big sd.agr cost hwt) he hev
set_option maxRecDepth 100000 in
theorem contract (H : Type) (enc : TypeId × Value → H) (W : World) (base : Nat) (args : Array Value) (ds gs : List (DataW H)) (before : List MemPlace)
    (hval : ∀ (j : Nat) t v, Tryd.f5.params[j]? = some t → args[j]? = some v → Value.okWide Tryd.prog W .any base t v)
    (hW : DataW.Whole enc Tryd.prog Tryd.f5.params.toList Rows.fnAgainLeaderChangeMessageSpec.vars false W args.toList ds gs before) (hb : Rows.uptoSmall H (ds ++ gs) = true) (hL : laidMetH Tryd.prog Rows.fnAgainLeaderChangeMessageRow.laid W) :
    Calls Tryd.prog 5 args W fun e W' => ∃ v, e = .returned v ∧ Rows.fnAgainLeaderChangeMessageSpec.post enc Tryd.prog Tryd.f5 false true false false W args v W' :=
  againRow (E := E) (tb := 4) tr5 (bk H) Tryd.params5 (by kernel_rfl) Tryd.underlying4 rfl (fun _ _ => rfl) lo ⟨by kernel_rfl, of_decide_eq_true (by kernel_rfl)⟩ ⟨by kernel_rfl, of_decide_eq_true (by kernel_rfl)⟩ (bound hb) (fun n hn t ts hr htk hwt => walk hL n hn t ts hr htk hwt) hval hW
noncomputable def laidWorld (os : Os) : World := World.laidAll Tryd.prog os Rows.fnAgainLeaderChangeMessageRow.laid
theorem laid_met (os : Os) : laidMetH Tryd.prog Rows.fnAgainLeaderChangeMessageRow.laid ((laidWorld os).forCall (fun _ _ => 0) ⟨#[], #[.int .u8 0, .agg #[.int .i64 0, .slice none 0 0, .bool false, .slice none 0 0, .slice none 0 0]], []⟩).memory := by
  rw [MakeChecks.laidMetH_plain _ _ _ (by kernel_rfl)]
  exact laidMet_laidAll _ (by kernel_rfl) (by kernel_rfl)
theorem reads (os : Os) {H : Type} (enc : TypeId × Value → H) : ∃ places, DataW.whole enc Tryd.prog ((laidWorld os).forCall (fun _ _ => 0) ⟨#[], #[.int .u8 0, .agg #[.int .i64 0, .slice none 0 0, .bool false, .slice none 0 0, .slice none 0 0]], []⟩).memory Tryd.f5.params.toList Rows.fnAgainLeaderChangeMessageSpec.vars false #[.int .u8 0, .agg #[.int .i64 0, .slice none 0 0, .bool false, .slice none 0 0, .slice none 0 0]].toList 8 = some ([.lit (.int .u8 0), .agg [.lit (.int .i64 0), .nil, .lit (.bool false), .nil, .nil]], [], places) :=
  ⟨[], by kernel_rfl⟩
set_option maxRecDepth 100000 in
theorem lifted (os : Os) (started : os.Started) (H : Type) (enc : TypeId × Value → H) (F : Stop.Interp) :
    ReturnsInHanded {} Tryd.checked os 5 .any ((Rows.OpenSpec.upto Rows.fnAgainLeaderChangeMessageSpec).preRow enc Tryd.prog Tryd.f5 Rows.fnAgainLeaderChangeMessageUptoRow.domain false Rows.fnAgainLeaderChangeMessageUptoRow.laid) (((Rows.OpenSpec.upto Rows.fnAgainLeaderChangeMessageSpec).at F).post enc Tryd.prog Tryd.f5 false true false false) := by
  obtain ⟨places, hx⟩ := reads os enc
  refine returnsInHanded_of_row (C := Tryd.checked) (s := Rows.OpenSpec.upto Rows.fnAgainLeaderChangeMessageSpec) own started (by kernel_rfl) Tryd.func5
    (witness_row_atRef (enc := enc) (C := Tryd.checked) false (laidWorld os) #[.int .u8 0, .agg #[.int .i64 0, .slice none 0 0, .bool false, .slice none 0 0, .slice none 0 0]] (World.laidAll_os _ _ _) (by kernel_rfl) (by kernel_rfl) (by kernel_rfl)
      (OpenSpec.preRow_of_cond 8 hx (by kernel_rfl) (fun k hk => by cases hk; kernel_rfl) (by kernel_rfl) (laid_met os))) ?_
  intro W base args ds gs before hval hW _ hcond _ hL _ _
  exact contract H enc W base args ds gs before hval hW (hcond _ rfl) hL
theorem facts : joinedFacts Tryd.prog 5 Tryd.f5 (Rows.OpenSpec.upto Rows.fnAgainLeaderChangeMessageSpec).bare Rows.fnAgainLeaderChangeMessageUptoRow = true := by
  unfold joinedFacts
  rw [lf, me]
  kernel_rfl
theorem said : Rows.FnAgainLeaderChangeMessageUptoSaid :=
  OpenClaim.holds_of_cond 5 Tryd.f5 rfl rfl rfl rfl rfl rfl rfl ⟨rfl, rfl, rfl, rfl, rfl⟩ rfl rfl rfl rfl rfl (by kernel_rfl) Tryd.func5 facts
    (of_decide_eq_true (by kernel_rfl)) (by unfold Func.isWrapper; first | (rw [if_pos (by decide +kernel)]; kernel_rfl) | (rw [if_neg (by decide +kernel)]; exact ⟨rfl, rfl⟩))
    (fun os started H enc _ F => by rw [OpenClaim.pre_eq_preRow]; exact lifted os started H enc F)
theorem plain (f : FuncId) (fn : Func) (hf : Tryd.pinned.checked.prog.funcNamed "pub-kmsg/laws.FnAgainLeaderChangeMessage" = some f) (hfn : Tryd.pinned.checked.prog.funcs[f]? = some fn) :
    false = Tryd.pinned.checked.prog.looks [] ∧ ∀ (j : Nat) t, fn.params[j]? = some t → Tryd.pinned.checked.prog.wantsStandIn t = false := by
  obtain rfl : f = 5 := Option.some.inj ((show Tryd.prog.funcNamed "pub-kmsg/laws.FnAgainLeaderChangeMessage" = some 5 by kernel_rfl).symm.trans hf) |>.symm
  obtain rfl : fn = Tryd.f5 := (Option.some.inj (Tryd.func5.symm.trans hfn)).symm
  refine ⟨by kernel_rfl, fun j t ht => ?_⟩
  rw [Tryd.params5] at ht
  have hm : t ∈ [5, 32] := by simpa using Array.mem_of_getElem? ht
  have hall : ([5, 32].all fun u => !Tryd.prog.wantsStandIn u) = true := by kernel_rfl
  exact (show Tryd.prog.wantsStandIn t = false by simpa using List.all_eq_true.1 hall t hm)
theorem card : Rows.FnAgainLeaderChangeMessageUptoCardSaid :=
  Claim7.holds_tied_plain_at .later [] _ _ _ _ said (fun _ h => by cases h) (by kernel_rfl) (fun _ h => by cases h) fnAgainLeaderChangeMessageUpto_row_tie rfl ⟨rfl, rfl⟩ (by kernel_rfl) rfl plain (by kernel_rfl)
end Go.Proofs.YtapmfbenmeigpaaDoor.fnAgainLeaderChangeMessage
namespace Go.Proofs.YtapmfbenmeigpaaDoor
/-- The second form's card, under a short name, for the claim. -/
theorem fnAgainLeaderChangeMessage_holds : Rows.FnAgainLeaderChangeMessageUptoCardSaid := fnAgainLeaderChangeMessage.card
end Go.Proofs.YtapmfbenmeigpaaDoor
