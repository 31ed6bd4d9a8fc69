/- A DescribeClusterRequest that the spec writes of any tree and that ends anywhere ahead of its end is an error, at every version, where what is read is of bulk at most 1048576; the variable that the row lists holds what the text lays. -/
import Derived.Test.YtfgpkjcmhiclbaaDoorKmEnt
import Derived.Test.YtfgpkjcmhiclbaaDoorCards
import Derived.Test.YtfgpkjcmhiclbaaDoorTie
import Derived.WalkKit
import Derived.ProofKit
import Derived.OpenShut
import Derived.Handy
import Derived.Lay
import Derived.Deep.DeepHandedRow
import Derived.Deep.DeepWitnessRowRef
import Derived.SevenTiedAt
set_option linter.unusedVariables false
set_option linter.unusedSimpArgs false
namespace Go.Proofs.YtfgpkjcmhiclbaaDoor.fnCutDescribeClusterRequest
open Go Go.Km Go.ChangeShapes Go.WideShapes Go.ChangeAt Go.RowKit
def m : Msg := { TP := 56, TU := 112, FD := 84, flex := some 0, kept := false, fs := (.cons .all (.scal .bool 0) (.cons (.ge 1) (.scal .i8 1) (.cons (.ge 2) (.scal .bool 0) (.nil true)))) }
def mr : MR := { newPtr := 39, setV := 41, app := 43, rd := 42, rdi := 85, again := 20 }
theorem nw : NewC Tryd.prog mr.newPtr m := c_newPtr_ok (E := E) (np := 0) (npd := 1) (tt Tryd.func39 (by kernel_rfl) rfl (by kernel_rfl) (by decide)) (by decide) (tt Tryd.func84 (by kernel_rfl) rfl (by kernel_rfl) (by decide)) (by decide) (by kernel_rfl) (by kernel_rfl)
theorem im (w : World) : CallsV Tryd.prog 18 #[] w fun v w' => v = .int .i64 (2 : Nat) ∧ Below w.heap.size w w' := c_implMaxA_ok (E := E) (F := 18) (npf := mr.newPtr) (mvf := 40) (m := m) (np := 0) (mx := 2) i16k ik (tt Tryd.func18 (by kernel_rfl) rfl (by kernel_rfl) (by decide)) (by decide) nw (fun x w => c_maxV_ok (E := E) (np := 1) (mx := 2) (tt Tryd.func40 (by kernel_rfl) rfl (by kernel_rfl) (by decide)) (by decide) x w) (by decide) w
theorem txr : m.fs.txR Tryd.prog E := ⟨trivial, ⟨trivial, ⟨trivial, trivial⟩⟩⟩
theorem rd : ReadC Tryd.prog E (fun _ => True) m mr.rd := c_rfw_ok (np := 2) (npr := 3) (npd := 1) er rx trivial (tt Tryd.func42 (by kernel_rfl) rfl (by kernel_rfl) (by decide)) (by decide) (tt Tryd.func85 (by kernel_rfl) rfl (by kernel_rfl) (by decide)) (of_decide_eq_true (by kernel_rfl)) (tt Tryd.func84 (by kernel_rfl) rfl (by kernel_rfl) (by decide)) (by decide) (by kernel_rfl) (by kernel_rfl) txr (by kernel_rfl) (fun h => by cases h)
theorem lp : lpB m 2 = true := by kernel_rfl
theorem ag : AgainC Tryd.prog E m mr.again 2 := againC (np := 2) (nps := 2) (npa := 2) ew ei rt.row i16k ik o16 ifE (tt Tryd.func20 (by kernel_rfl) rfl (by kernel_rfl) (by decide)) (by decide) nw (tt Tryd.func41 (by kernel_rfl) rfl (by kernel_rfl) (by decide)) (by decide) (by kernel_rfl) rd (tt Tryd.func43 (by kernel_rfl) rfl (by kernel_rfl) (by decide)) (of_decide_eq_true (by kernel_rfl)) (by kernel_rfl) rfl (by decide) lp
def l0 : List FE := [((.mk 0 0 (-1) (-1) (-1) 0 0 .nil), none), ((.mk 1 1 (-1) (-1) (-1) 1 0 .nil), none), ((.mk 0 2 (-1) (-1) (-1) 0 0 .nil), none)]
theorem sp : SpecC Tryd.prog 19 (toSFs l0) 0 := c_spec_ok (np := 0) sl hrF hM (tt Tryd.func19 (by kernel_rfl) rfl (by kernel_rfl) (by decide)) (by decide) (by decide) (by decide) (.none rfl (.none rfl (.none rfl (.nil))))
def al : ML := { implMax := 18, spec := 19, again := mr.again, law := 5, fits2 := 13, fits3 := 32, fits4 := 73, tTup := 24 }
theorem lt : LawT Tryd.prog E al m (toSFs l0) 0 2 := ⟨se, sl, st, hz8, hoM, hM, lv, (tt Tryd.func73 (by kernel_rfl) rfl (by kernel_rfl) (by decide)), (tt Tryd.func32 (by kernel_rfl) rfl (by kernel_rfl) (by decide)), (tt Tryd.func13 (by kernel_rfl) rfl (by kernel_rfl) (by decide)), im, sp, ag⟩
theorem sd : Spd m (toSFs l0) 0 2 := ⟨by kernel_rfl, of_decide_eq_true (by kernel_rfl), by kernel_rfl, fun ver _ => isFlex_eq (by kernel_rfl) ver, lp, rfl, by decide⟩
theorem cost : m.fs.cost ≤ 2047 := of_decide_eq_true (by kernel_rfl)
theorem i16u : intT Tryd.prog E.tU16 = some .u16 := by kernel_rfl
set_option maxRecDepth 100000 in
theorem walk {W : World} (hL : laidMetH Tryd.prog Rows.fnCutDescribeClusterRequestRow.laid W) (n : Nat) (hn : n < 256) (k : Nat) (hk : k < 65536) (t : Tr) (ts : List Value) (hr : t.Rep W W.heap.size ts) (htk : t.tok) (hwt : t.wt ≤ 1048576) : CallsV Tryd.prog al.law #[.int .u8 n, .agg ts.toArray, .int .u16 k] W fun v w' => v = .bool true ∧ Below W.heap.size W w' := by
  obtain ⟨ev, he, hev⟩ := laid_ev (g := E.vErr) (ti := E.tErr) (by kernel_rfl) (by kernel_rfl) ifE (by kernel_rfl) hL
  exact c_cutL_ok (np := 3) lt sd (tt Tryd.func5 (by kernel_rfl) rfl (by kernel_rfl) (by decide)) (by decide) i16u hn hk hr htk (tags_small hwt) (fun ver _ => part_big sd.agr cost hwt) he hev
set_option maxRecDepth 100000 in
theorem contract (H : Type) (enc : TypeId × Value → H) (W : World) (base : Nat) (args : Array Value) (ds gs : List (DataW H)) (before : List MemPlace)
    (hval : ∀ (j : Nat) t v, Tryd.f5.params[j]? = some t → args[j]? = some v → Value.okWide Tryd.prog W .any base t v)
    (hW : DataW.Whole enc Tryd.prog Tryd.f5.params.toList Rows.fnCutDescribeClusterRequestSpec.vars false W args.toList ds gs before) (hb : Rows.uptoSmall H (ds ++ gs) = true) (hL : laidMetH Tryd.prog Rows.fnCutDescribeClusterRequestRow.laid W) :
    Calls Tryd.prog 5 args W fun e W' => ∃ v, e = .returned v ∧ Rows.fnCutDescribeClusterRequestSpec.post enc Tryd.prog Tryd.f5 false true false false W args v W' :=
  cutRow (E := E) (tb := 4) tr5 (bk H) Tryd.params5 (by kernel_rfl) Tryd.underlying4 rfl (fun _ _ _ => rfl) lo ⟨by kernel_rfl, of_decide_eq_true (by kernel_rfl)⟩ ⟨by kernel_rfl, of_decide_eq_true (by kernel_rfl)⟩ ⟨by kernel_rfl, of_decide_eq_true (by kernel_rfl)⟩ Tryd.underlying33 (bound hb) (fun n k hn hk t ts hr htk hwt => walk hL n hn k hk t ts hr htk hwt) hval hW
noncomputable def laidWorld (os : Os) : World := World.laidAll Tryd.prog os Rows.fnCutDescribeClusterRequestRow.laid
theorem laid_met (os : Os) : laidMetH Tryd.prog Rows.fnCutDescribeClusterRequestRow.laid ((laidWorld os).forCall (fun _ _ => 0) ⟨#[], #[.int .u8 0, .agg #[.int .i64 0, .slice none 0 0, .bool false, .slice none 0 0, .slice none 0 0], .int .u16 0], []⟩).memory := by
  rw [MakeChecks.laidMetH_plain _ _ _ (by kernel_rfl)]
  exact laidMet_laidAll _ (by kernel_rfl) (by kernel_rfl)
theorem reads (os : Os) {H : Type} (enc : TypeId × Value → H) : ∃ places, DataW.whole enc Tryd.prog ((laidWorld os).forCall (fun _ _ => 0) ⟨#[], #[.int .u8 0, .agg #[.int .i64 0, .slice none 0 0, .bool false, .slice none 0 0, .slice none 0 0], .int .u16 0], []⟩).memory Tryd.f5.params.toList Rows.fnCutDescribeClusterRequestSpec.vars false #[.int .u8 0, .agg #[.int .i64 0, .slice none 0 0, .bool false, .slice none 0 0, .slice none 0 0], .int .u16 0].toList 8 = some ([.lit (.int .u8 0), .agg [.lit (.int .i64 0), .nil, .lit (.bool false), .nil, .nil], .lit (.int .u16 0)], [], places) :=
  ⟨[], by kernel_rfl⟩
set_option maxRecDepth 100000 in
theorem lifted (os : Os) (started : os.Started) (H : Type) (enc : TypeId × Value → H) (F : Stop.Interp) :
    ReturnsInHanded {} Tryd.checked os 5 .any ((Rows.OpenSpec.upto Rows.fnCutDescribeClusterRequestSpec).preRow enc Tryd.prog Tryd.f5 Rows.fnCutDescribeClusterRequestUptoRow.domain false Rows.fnCutDescribeClusterRequestUptoRow.laid) (((Rows.OpenSpec.upto Rows.fnCutDescribeClusterRequestSpec).at F).post enc Tryd.prog Tryd.f5 false true false false) := by
  obtain ⟨places, hx⟩ := reads os enc
  refine returnsInHanded_of_row (C := Tryd.checked) (s := Rows.OpenSpec.upto Rows.fnCutDescribeClusterRequestSpec) own started (by kernel_rfl) Tryd.func5
    (witness_row_atRef (enc := enc) (C := Tryd.checked) false (laidWorld os) #[.int .u8 0, .agg #[.int .i64 0, .slice none 0 0, .bool false, .slice none 0 0, .slice none 0 0], .int .u16 0] (World.laidAll_os _ _ _) (by kernel_rfl) (by kernel_rfl) (by kernel_rfl)
      (OpenSpec.preRow_of_cond 8 hx (by kernel_rfl) (fun k hk => by cases hk; kernel_rfl) (by kernel_rfl) (laid_met os))) ?_
  intro W base args ds gs before hval hW _ hcond _ hL _ _
  exact contract H enc W base args ds gs before hval hW (hcond _ rfl) hL
theorem facts : joinedFacts Tryd.prog 5 Tryd.f5 (Rows.OpenSpec.upto Rows.fnCutDescribeClusterRequestSpec).bare Rows.fnCutDescribeClusterRequestUptoRow = true := by
  unfold joinedFacts
  rw [lf, me]
  kernel_rfl
theorem said : Rows.FnCutDescribeClusterRequestUptoSaid :=
  OpenClaim.holds_of_cond 5 Tryd.f5 rfl rfl rfl rfl rfl rfl rfl ⟨rfl, rfl, rfl, rfl, rfl⟩ rfl rfl rfl rfl rfl (by kernel_rfl) Tryd.func5 facts
    (of_decide_eq_true (by kernel_rfl)) (by unfold Func.isWrapper; first | (rw [if_pos (by decide +kernel)]; kernel_rfl) | (rw [if_neg (by decide +kernel)]; exact ⟨rfl, rfl⟩))
    (fun os started H enc _ F => by rw [OpenClaim.pre_eq_preRow]; exact lifted os started H enc F)
theorem plain (f : FuncId) (fn : Func) (hf : Tryd.pinned.checked.prog.funcNamed "pub-kmsg/laws.FnCutDescribeClusterRequest" = some f) (hfn : Tryd.pinned.checked.prog.funcs[f]? = some fn) :
    false = Tryd.pinned.checked.prog.looks [] ∧ ∀ (j : Nat) t, fn.params[j]? = some t → Tryd.pinned.checked.prog.wantsStandIn t = false := by
  obtain rfl : f = 5 := Option.some.inj ((show Tryd.prog.funcNamed "pub-kmsg/laws.FnCutDescribeClusterRequest" = some 5 by kernel_rfl).symm.trans hf) |>.symm
  obtain rfl : fn = Tryd.f5 := (Option.some.inj (Tryd.func5.symm.trans hfn)).symm
  refine ⟨by kernel_rfl, fun j t ht => ?_⟩
  rw [Tryd.params5] at ht
  have hm : t ∈ [5, 32, 33] := by simpa using Array.mem_of_getElem? ht
  have hall : ([5, 32, 33].all fun u => !Tryd.prog.wantsStandIn u) = true := by kernel_rfl
  exact (show Tryd.prog.wantsStandIn t = false by simpa using List.all_eq_true.1 hall t hm)
theorem card : Rows.FnCutDescribeClusterRequestUptoCardSaid :=
  Claim7.holds_tied_plain_at .later [] _ _ _ _ said (fun _ h => by cases h) (by kernel_rfl) (fun _ h => by cases h) fnCutDescribeClusterRequestUpto_row_tie rfl ⟨rfl, rfl⟩ (by kernel_rfl) rfl plain (by kernel_rfl)
end Go.Proofs.YtfgpkjcmhiclbaaDoor.fnCutDescribeClusterRequest
namespace Go.Proofs.YtfgpkjcmhiclbaaDoor
/-- The second form's card, under a short name, for the claim. -/
theorem fnCutDescribeClusterRequest_holds : Rows.FnCutDescribeClusterRequestUptoCardSaid := fnCutDescribeClusterRequest.card
end Go.Proofs.YtfgpkjcmhiclbaaDoor
