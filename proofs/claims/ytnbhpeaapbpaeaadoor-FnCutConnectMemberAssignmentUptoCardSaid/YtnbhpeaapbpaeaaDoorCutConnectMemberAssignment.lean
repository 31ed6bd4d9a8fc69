/- A ConnectMemberAssignment that the spec writes of any tree and that ends anywhere ahead of its end is an error, at every version, where what is read is of bulk at most 1048576; the variable that the row lists holds what the text lays. -/
import Derived.Test.YtnbhpeaapbpaeaaDoorKmEnt
import Derived.Test.YtnbhpeaapbpaeaaDoorCards
import Derived.Test.YtnbhpeaapbpaeaaDoorTie
import Derived.WalkKit
import Derived.ProofKit
import Derived.OpenShut
import Derived.Handy
import Derived.Lay
import Derived.Deep.DeepHandedRow
import Derived.Deep.DeepWitnessRowRef
import Derived.SevenTiedAt
set_option linter.unusedVariables false
set_option linter.unusedSimpArgs false
namespace Go.Proofs.YtnbhpeaapbpaeaaDoor.fnCutConnectMemberAssignment
open Go Go.Km Go.ChangeShapes Go.WideShapes Go.ChangeAt Go.RowKit
def m : Msg := { TP := 107, TU := 82, FD := 57, flex := none, kept := true, fs := (.cons .all (.scal .i16 0) (.cons .all .text (.cons .all .text (.cons .all (.scal .i64 0) (.cons .all (.list 79 none (.struct 109 112 84 (.cons .all .text (.cons .all (.list 110 none (.scal .i16 0)) (.nil false))))) (.cons (.ge 1) (.list 80 none (.struct 113 114 85 (.cons .all .text (.cons .all (.list 110 none (.scal .i16 0)) (.nil false))))) (.cons (.ge 1) (.scal .i32 0) (.nil false)))))))) }
def mk : MK := { newK := 42, app := 44, rd := 43, again := 22 }
theorem nk : NewKC Tryd.prog mk.newK m := c_newK_ok (E := E) (np := 0) (npd := 1) (tt Tryd.func42 (by kernel_rfl) rfl (by kernel_rfl) (by decide)) (by decide) (tt Tryd.func57 (by kernel_rfl) rfl (by kernel_rfl) (by decide)) (by decide) (by kernel_rfl) (by kernel_rfl) (by kernel_rfl) (by kernel_rfl) (by kernel_rfl)
theorem txr : m.fs.txR Tryd.prog E := ⟨trivial, ⟨trivial, ⟨trivial, ⟨trivial, ⟨⟨⟨112, by kernel_rfl, by kernel_rfl⟩, ⟨⟨1, _, (tt Tryd.func84 (by kernel_rfl) rfl (by kernel_rfl) (by decide)), by decide⟩, ⟨trivial, ⟨⟨⟨54, by kernel_rfl, by kernel_rfl⟩, trivial⟩, trivial⟩⟩⟩⟩, ⟨⟨⟨114, by kernel_rfl, by kernel_rfl⟩, ⟨⟨1, _, (tt Tryd.func85 (by kernel_rfl) rfl (by kernel_rfl) (by decide)), by decide⟩, ⟨trivial, ⟨⟨⟨54, by kernel_rfl, by kernel_rfl⟩, trivial⟩, trivial⟩⟩⟩⟩, ⟨trivial, trivial⟩⟩⟩⟩⟩⟩⟩
theorem rd : ReadC Tryd.prog E (fun tags => tags = []) m mk.rd := c_rfw_ok (np := 2) (npr := 3) (npd := 1) er rx rfl (tt Tryd.func43 (by kernel_rfl) rfl (by kernel_rfl) (by decide)) (by decide) (tt Tryd.func58 (by kernel_rfl) rfl (by kernel_rfl) (by decide)) (of_decide_eq_true (by kernel_rfl)) (tt Tryd.func57 (by kernel_rfl) rfl (by kernel_rfl) (by decide)) (by decide) (by kernel_rfl) (by kernel_rfl) txr (by kernel_rfl) (fun _ => by decide)
theorem lp : lpB m 1 = true := by kernel_rfl
theorem ag : AgainKC Tryd.prog E m mk.again := againKC (np := 1) (npa := 2) ew ei rt.row ifE (tt Tryd.func22 (by kernel_rfl) rfl (by kernel_rfl) (by decide)) (by decide) nk rd (tt Tryd.func44 (by kernel_rfl) rfl (by kernel_rfl) (by decide)) (of_decide_eq_true (by kernel_rfl)) (by kernel_rfl) rfl (by kernel_rfl) (by kernel_rfl) (by kernel_rfl) (by kernel_rfl)
def l40 : List FE := [((.mk 8 0 (-1) (-1) (-1) 0 0 .nil), none), ((.mk 11 0 (-1) (-1) (-1) 0 2 .nil), none)]
theorem lc40 : LitC Tryd.prog 40 (toSFs l40) := c_lit_ok (np := 0) sl hrF (tt Tryd.func40 (by kernel_rfl) rfl (by kernel_rfl) (by decide)) (by decide) (by decide) (by decide) (.none rfl (.none rfl (.nil)))
def l41 : List FE := [((.mk 8 0 (-1) (-1) (-1) 0 0 .nil), none), ((.mk 11 0 (-1) (-1) (-1) 0 2 .nil), none)]
theorem lc41 : LitC Tryd.prog 41 (toSFs l41) := c_lit_ok (np := 0) sl hrF (tt Tryd.func41 (by kernel_rfl) rfl (by kernel_rfl) (by decide)) (by decide) (by decide) (by decide) (.none rfl (.none rfl (.nil)))
def l0 : List FE := [((.mk 2 0 (-1) (-1) (-1) 0 0 .nil), none), ((.mk 8 0 (-1) (-1) (-1) 0 0 .nil), none), ((.mk 8 0 (-1) (-1) (-1) 0 0 .nil), none), ((.mk 4 0 (-1) (-1) (-1) 0 0 .nil), none), ((.mk 11 0 (-1) (-1) (-1) 0 10 (.cons (.mk 8 0 (-1) (-1) (-1) 0 0 .nil) (.cons (.mk 11 0 (-1) (-1) (-1) 0 2 .nil) .nil))), some 40), ((.mk 11 1 (-1) (-1) (-1) 0 10 (.cons (.mk 8 0 (-1) (-1) (-1) 0 0 .nil) (.cons (.mk 11 0 (-1) (-1) (-1) 0 2 .nil) .nil))), some 41), ((.mk 3 1 (-1) (-1) (-1) 0 0 .nil), none)]
theorem sp : SpecC Tryd.prog 21 (toSFs l0) (-1) := c_spec_ok (np := 0) sl hrF hM (tt Tryd.func21 (by kernel_rfl) rfl (by kernel_rfl) (by decide)) (by decide) (by decide) (by decide) (.none rfl (.none rfl (.none rfl (.none rfl (.some lc40 (.some lc41 (.none rfl (.nil))))))))
def al : ML := { implMax := 0, spec := 21, again := mk.again, law := 6, fits2 := 20, fits3 := 39, fits4 := 56, tTup := 23 }
theorem lt : LawK Tryd.prog E al m (toSFs l0) (-1) := ⟨se, sl, st, hz8, hoM, hM, (tt Tryd.func56 (by kernel_rfl) rfl (by kernel_rfl) (by decide)), (tt Tryd.func39 (by kernel_rfl) rfl (by kernel_rfl) (by decide)), (tt Tryd.func20 (by kernel_rfl) rfl (by kernel_rfl) (by decide)), (tt Tryd.func8 (by kernel_rfl) rfl (by kernel_rfl) (by decide)), sp, ag⟩
theorem sd : SpdK m (toSFs l0) (-1) := ⟨by kernel_rfl, of_decide_eq_true (by kernel_rfl), by kernel_rfl, fun ver => isFlex_eq (by kernel_rfl) ver, lp, rfl⟩
theorem cost : m.fs.cost ≤ 2047 := of_decide_eq_true (by kernel_rfl)
theorem i16u : intT Tryd.prog E.tU16 = some .u16 := by kernel_rfl
set_option maxRecDepth 100000 in
theorem walk {W : World} (hL : laidMetH Tryd.prog Rows.fnCutConnectMemberAssignmentRow.laid W) (n : Nat) (hn : n < 256) (k : Nat) (hk : k < 65536) (t : Tr) (ts : List Value) (hr : t.Rep W W.heap.size ts) (htk : t.tok) (hwt : t.wt ≤ 1048576) : CallsV Tryd.prog al.law #[.int .u8 n, .agg ts.toArray, .int .u16 k] W fun v w' => v = .bool true ∧ Below W.heap.size W w' := by
  obtain ⟨ev, he, hev⟩ := laid_ev (g := E.vErr) (ti := E.tErr) (by kernel_rfl) (by kernel_rfl) ifE (by kernel_rfl) hL
  exact c_cutK_ok (np := 3) lt sd (tt Tryd.func6 (by kernel_rfl) rfl (by kernel_rfl) (by decide)) (by decide) i16u hn hk hr htk (tags_small hwt) (kept_big sd.agr cost hwt) he hev
set_option maxRecDepth 100000 in
theorem contract (H : Type) (enc : TypeId × Value → H) (W : World) (base : Nat) (args : Array Value) (ds gs : List (DataW H)) (before : List MemPlace)
    (hval : ∀ (j : Nat) t v, Tryd.f6.params[j]? = some t → args[j]? = some v → Value.okWide Tryd.prog W .any base t v)
    (hW : DataW.Whole enc Tryd.prog Tryd.f6.params.toList Rows.fnCutConnectMemberAssignmentSpec.vars false W args.toList ds gs before) (hb : Rows.uptoSmall H (ds ++ gs) = true) (hL : laidMetH Tryd.prog Rows.fnCutConnectMemberAssignmentRow.laid W) :
    Calls Tryd.prog 6 args W fun e W' => ∃ v, e = .returned v ∧ Rows.fnCutConnectMemberAssignmentSpec.post enc Tryd.prog Tryd.f6 false true false false W args v W' :=
  cutRow (E := E) (tb := 4) tr5 (bk H) Tryd.params6 (by kernel_rfl) Tryd.underlying4 rfl (fun _ _ _ => rfl) lo ⟨by kernel_rfl, of_decide_eq_true (by kernel_rfl)⟩ ⟨by kernel_rfl, of_decide_eq_true (by kernel_rfl)⟩ ⟨by kernel_rfl, of_decide_eq_true (by kernel_rfl)⟩ Tryd.underlying41 (bound hb) (fun n k hn hk t ts hr htk hwt => walk hL n hn k hk t ts hr htk hwt) hval hW
noncomputable def laidWorld (os : Os) : World := World.laidAll Tryd.prog os Rows.fnCutConnectMemberAssignmentRow.laid
theorem laid_met (os : Os) : laidMetH Tryd.prog Rows.fnCutConnectMemberAssignmentRow.laid ((laidWorld os).forCall (fun _ _ => 0) ⟨#[], #[.int .u8 0, .agg #[.int .i64 0, .slice none 0 0, .bool false, .slice none 0 0, .slice none 0 0], .int .u16 0], []⟩).memory := by
  rw [MakeChecks.laidMetH_plain _ _ _ (by kernel_rfl)]
  exact laidMet_laidAll _ (by kernel_rfl) (by kernel_rfl)
theorem reads (os : Os) {H : Type} (enc : TypeId × Value → H) : ∃ places, DataW.whole enc Tryd.prog ((laidWorld os).forCall (fun _ _ => 0) ⟨#[], #[.int .u8 0, .agg #[.int .i64 0, .slice none 0 0, .bool false, .slice none 0 0, .slice none 0 0], .int .u16 0], []⟩).memory Tryd.f6.params.toList Rows.fnCutConnectMemberAssignmentSpec.vars false #[.int .u8 0, .agg #[.int .i64 0, .slice none 0 0, .bool false, .slice none 0 0, .slice none 0 0], .int .u16 0].toList 8 = some ([.lit (.int .u8 0), .agg [.lit (.int .i64 0), .nil, .lit (.bool false), .nil, .nil], .lit (.int .u16 0)], [], places) :=
  ⟨[], by kernel_rfl⟩
set_option maxRecDepth 100000 in
theorem lifted (os : Os) (started : os.Started) (H : Type) (enc : TypeId × Value → H) (F : Stop.Interp) :
    ReturnsInHanded {} Tryd.checked os 6 .any ((Rows.OpenSpec.upto Rows.fnCutConnectMemberAssignmentSpec).preRow enc Tryd.prog Tryd.f6 Rows.fnCutConnectMemberAssignmentUptoRow.domain false Rows.fnCutConnectMemberAssignmentUptoRow.laid) (((Rows.OpenSpec.upto Rows.fnCutConnectMemberAssignmentSpec).at F).post enc Tryd.prog Tryd.f6 false true false false) := by
  obtain ⟨places, hx⟩ := reads os enc
  refine returnsInHanded_of_row (C := Tryd.checked) (s := Rows.OpenSpec.upto Rows.fnCutConnectMemberAssignmentSpec) own started (by kernel_rfl) Tryd.func6
    (witness_row_atRef (enc := enc) (C := Tryd.checked) false (laidWorld os) #[.int .u8 0, .agg #[.int .i64 0, .slice none 0 0, .bool false, .slice none 0 0, .slice none 0 0], .int .u16 0] (World.laidAll_os _ _ _) (by kernel_rfl) (by kernel_rfl) (by kernel_rfl)
      (OpenSpec.preRow_of_cond 8 hx (by kernel_rfl) (fun k hk => by cases hk; kernel_rfl) (by kernel_rfl) (laid_met os))) ?_
  intro W base args ds gs before hval hW _ hcond _ hL _ _
  exact contract H enc W base args ds gs before hval hW (hcond _ rfl) hL
theorem facts : joinedFacts Tryd.prog 6 Tryd.f6 (Rows.OpenSpec.upto Rows.fnCutConnectMemberAssignmentSpec).bare Rows.fnCutConnectMemberAssignmentUptoRow = true := by
  unfold joinedFacts
  rw [lf, me]
  kernel_rfl
theorem said : Rows.FnCutConnectMemberAssignmentUptoSaid :=
  OpenClaim.holds_of_cond 6 Tryd.f6 rfl rfl rfl rfl rfl rfl rfl ⟨rfl, rfl, rfl, rfl, rfl⟩ rfl rfl rfl rfl rfl (by kernel_rfl) Tryd.func6 facts
    (of_decide_eq_true (by kernel_rfl)) (by unfold Func.isWrapper; first | (rw [if_pos (by decide +kernel)]; kernel_rfl) | (rw [if_neg (by decide +kernel)]; exact ⟨rfl, rfl⟩))
    (fun os started H enc _ F => by rw [OpenClaim.pre_eq_preRow]; exact lifted os started H enc F)
theorem plain (f : FuncId) (fn : Func) (hf : Tryd.pinned.checked.prog.funcNamed "pub-kmsg/laws.FnCutConnectMemberAssignment" = some f) (hfn : Tryd.pinned.checked.prog.funcs[f]? = some fn) :
    false = Tryd.pinned.checked.prog.looks [] ∧ ∀ (j : Nat) t, fn.params[j]? = some t → Tryd.pinned.checked.prog.wantsStandIn t = false := by
  obtain rfl : f = 6 := Option.some.inj ((show Tryd.prog.funcNamed "pub-kmsg/laws.FnCutConnectMemberAssignment" = some 6 by kernel_rfl).symm.trans hf) |>.symm
  obtain rfl : fn = Tryd.f6 := (Option.some.inj (Tryd.func6.symm.trans hfn)).symm
  refine ⟨by kernel_rfl, fun j t ht => ?_⟩
  rw [Tryd.params6] at ht
  have hm : t ∈ [5, 33, 41] := by simpa using Array.mem_of_getElem? ht
  have hall : ([5, 33, 41].all fun u => !Tryd.prog.wantsStandIn u) = true := by kernel_rfl
  exact (show Tryd.prog.wantsStandIn t = false by simpa using List.all_eq_true.1 hall t hm)
theorem card : Rows.FnCutConnectMemberAssignmentUptoCardSaid :=
  Claim7.holds_tied_plain_at .later [] _ _ _ _ said (fun _ h => by cases h) (by kernel_rfl) (fun _ h => by cases h) fnCutConnectMemberAssignmentUpto_row_tie rfl ⟨rfl, rfl⟩ (by kernel_rfl) rfl plain (by kernel_rfl)
end Go.Proofs.YtnbhpeaapbpaeaaDoor.fnCutConnectMemberAssignment
namespace Go.Proofs.YtnbhpeaapbpaeaaDoor
/-- The second form's card, under a short name, for the claim. -/
theorem fnCutConnectMemberAssignment_holds : Rows.FnCutConnectMemberAssignmentUptoCardSaid := fnCutConnectMemberAssignment.card
end Go.Proofs.YtnbhpeaapbpaeaaDoor
