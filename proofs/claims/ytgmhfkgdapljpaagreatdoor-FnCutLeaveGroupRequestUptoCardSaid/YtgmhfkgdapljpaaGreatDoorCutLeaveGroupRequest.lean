/- A LeaveGroupRequest that the spec writes of any tree and that ends anywhere ahead of its end is an error, at every version, where what is read is of bulk at most 1048576; the variable that the row lists holds what the text lays. -/
import Derived.Test.YtgmhfkgdapljpaaGreatDoorKmEnt
import Derived.Test.YtgmhfkgdapljpaaGreatDoorKe00
import Derived.Test.YtgmhfkgdapljpaaGreatDoorCards
import Derived.Test.YtgmhfkgdapljpaaGreatDoorTie
import Derived.WalkKit
import Derived.ProofKit
import Derived.OpenShut
import Derived.Handy
import Derived.Lay
import Derived.Deep.DeepHandedRow
import Derived.Deep.DeepWitnessRowRef
import Derived.SevenTiedAt
set_option linter.unusedVariables false
set_option linter.unusedSimpArgs false
namespace Go.Proofs.YtgmhfkgdapljpaaGreatDoor.fnCutLeaveGroupRequest
open Go Go.Km Go.ChangeShapes Go.WideShapes Go.ChangeAt Go.RowKit
def m : Msg := { TP := 57, TU := 109, FD := 97, flex := some 4, kept := false, fs := (.cons .all .text (.cons (.btw 0 2) .text (.cons (.ge 3) (.list 107 none (.struct 110 113 139 (.cons .all .text (.cons .all .ntext (.cons (.ge 5) .ntext (.nil true)))))) (.nil true)))) }
def mr : MR := { newPtr := 44, setV := 47, app := 49, rd := 48, rdi := 98, again := 20 }
theorem nw : NewC Tryz.prog mr.newPtr m := c_newPtr_ok (E := E) (np := 0) (npd := 1) (tt Tryz.func44 (by kernel_rfl) rfl (by kernel_rfl) (by decide)) (by decide) (tt Tryz.func97 (by kernel_rfl) rfl (by kernel_rfl) (by decide)) (by decide) (by kernel_rfl) (by kernel_rfl)
theorem im (w : World) : CallsV Tryz.prog 18 #[] w fun v w' => v = .int .i64 (5 : Nat) ∧ Below w.heap.size w w' := c_implMaxA_ok (E := E) (F := 18) (npf := mr.newPtr) (mvf := 45) (m := m) (np := 0) (mx := 5) i16k ik (tt Tryz.func18 (by kernel_rfl) rfl (by kernel_rfl) (by decide)) (by decide) nw (fun x w => c_maxV_ok (E := E) (np := 1) (mx := 5) (tt Tryz.func45 (by kernel_rfl) rfl (by kernel_rfl) (by decide)) (by decide) x w) (by decide) w
theorem txr : m.fs.txR Tryz.prog E := ⟨trivial, ⟨trivial, ⟨⟨⟨113, by kernel_rfl, by kernel_rfl⟩, ⟨⟨1, _, (tt Tryz.func139 (by kernel_rfl) rfl (by kernel_rfl) (by decide)), by decide⟩, ⟨trivial, ⟨trivial, ⟨trivial, trivial⟩⟩⟩⟩⟩, trivial⟩⟩⟩
theorem rd : ReadC Tryz.prog E (fun _ => True) m mr.rd := c_rfw_ok (np := 2) (npr := 3) (npd := 1) er rx trivial (tt Tryz.func48 (by kernel_rfl) rfl (by kernel_rfl) (by decide)) (by decide) (tt Tryz.func98 (by kernel_rfl) rfl (by kernel_rfl) (by decide)) (of_decide_eq_true (by kernel_rfl)) (tt Tryz.func97 (by kernel_rfl) rfl (by kernel_rfl) (by decide)) (by decide) (by kernel_rfl) (by kernel_rfl) txr (by kernel_rfl) (fun h => by cases h)
theorem lp : lpB m 5 = true := by kernel_rfl
theorem ag : AgainC Tryz.prog E m mr.again 5 := againC (np := 2) (nps := 2) (npa := 2) ew ei rt.row i16k ik o16 ifE (tt Tryz.func20 (by kernel_rfl) rfl (by kernel_rfl) (by decide)) (by decide) nw (tt Tryz.func47 (by kernel_rfl) rfl (by kernel_rfl) (by decide)) (by decide) (by kernel_rfl) rd (tt Tryz.func49 (by kernel_rfl) rfl (by kernel_rfl) (by decide)) (of_decide_eq_true (by kernel_rfl)) (by kernel_rfl) rfl (by decide) lp
def l46 : List FE := [((.mk 8 0 (-1) (-1) (-1) 0 0 .nil), none), ((.mk 8 0 (-1) 0 (-1) 0 0 .nil), none), ((.mk 8 5 (-1) 5 (-1) 0 0 .nil), none)]
theorem lc46 : LitC Tryz.prog 46 (toSFs l46) := c_lit_ok (np := 0) sl hrF (tt Tryz.func46 (by kernel_rfl) rfl (by kernel_rfl) (by decide)) (by decide) (by decide) (by decide) (.none rfl (.none rfl (.none rfl (.nil))))
def l0 : List FE := [((.mk 8 0 (-1) (-1) (-1) 0 0 .nil), none), ((.mk 8 0 2 (-1) (-1) 0 0 .nil), none), ((.mk 11 3 (-1) (-1) (-1) 0 10 (.cons (.mk 8 0 (-1) (-1) (-1) 0 0 .nil) (.cons (.mk 8 0 (-1) 0 (-1) 0 0 .nil) (.cons (.mk 8 5 (-1) 5 (-1) 0 0 .nil) .nil)))), some 46)]
theorem sp : SpecC Tryz.prog 19 (toSFs l0) 4 := c_spec_ok (np := 0) sl hrF hM (tt Tryz.func19 (by kernel_rfl) rfl (by kernel_rfl) (by decide)) (by decide) (by decide) (by decide) (.none rfl (.none rfl (.some lc46 (.nil))))
def al : ML := { implMax := 18, spec := 19, again := mr.again, law := 5, fits2 := 9, fits3 := 31, fits4 := 69, tTup := 36 }
theorem lt : LawT Tryz.prog E al m (toSFs l0) 4 5 := ⟨se, sl, st, hz8, hoM, hM, lv, (tt Tryz.func69 (by kernel_rfl) rfl (by kernel_rfl) (by decide)), (tt Tryz.func31 (by kernel_rfl) rfl (by kernel_rfl) (by decide)), (tt Tryz.func9 (by kernel_rfl) rfl (by kernel_rfl) (by decide)), im, sp, ag⟩
theorem sd : Spd m (toSFs l0) 4 5 := ⟨by kernel_rfl, of_decide_eq_true (by kernel_rfl), by kernel_rfl, fun ver _ => isFlex_eq (by kernel_rfl) ver, lp, rfl, by decide⟩
theorem cost : m.fs.cost ≤ 2047 := of_decide_eq_true (by kernel_rfl)
theorem i16u : intT Tryz.prog E.tU16 = some .u16 := by kernel_rfl
set_option maxRecDepth 100000 in
theorem walk {W : World} (hL : laidMetH Tryz.prog Rows.fnCutLeaveGroupRequestRow.laid W) (n : Nat) (hn : n < 256) (k : Nat) (hk : k < 65536) (t : Tr) (ts : List Value) (hr : t.Rep W W.heap.size ts) (htk : t.tok) (hwt : t.wt ≤ 1048576) : CallsV Tryz.prog al.law #[.int .u8 n, .agg ts.toArray, .int .u16 k] W fun v w' => v = .bool true ∧ Below W.heap.size W w' := by
  obtain ⟨ev, he, hev⟩ := laid_ev (g := E.vErr) (ti := E.tErr) (by kernel_rfl) (by kernel_rfl) ifE (by kernel_rfl) hL
  exact c_cutL_ok (np := 3) lt sd (tt Tryz.func5 (by kernel_rfl) rfl (by kernel_rfl) (by decide)) (by decide) i16u hn hk hr htk (tags_small hwt) (fun ver _ => part_big sd.agr cost hwt) he hev
set_option maxRecDepth 100000 in
theorem contract (H : Type) (enc : TypeId × Value → H) (W : World) (base : Nat) (args : Array Value) (ds gs : List (DataW H)) (before : List MemPlace)
    (hval : ∀ (j : Nat) t v, Tryz.f5.params[j]? = some t → args[j]? = some v → Value.okWide Tryz.prog W .any base t v)
    (hW : DataW.Whole enc Tryz.prog Tryz.f5.params.toList Rows.fnCutLeaveGroupRequestSpec.vars false W args.toList ds gs before) (hb : Rows.uptoSmall H (ds ++ gs) = true) (hL : laidMetH Tryz.prog Rows.fnCutLeaveGroupRequestRow.laid W) :
    Calls Tryz.prog 5 args W fun e W' => ∃ v, e = .returned v ∧ Rows.fnCutLeaveGroupRequestSpec.post enc Tryz.prog Tryz.f5 false true false false W args v W' :=
  cutRow (E := E) (tb := 4) tr5 (bk H) Tryz.params5 (by kernel_rfl) Tryz.underlying4 rfl (fun _ _ _ => rfl) lo ⟨by kernel_rfl, of_decide_eq_true (by kernel_rfl)⟩ ⟨by kernel_rfl, of_decide_eq_true (by kernel_rfl)⟩ ⟨by kernel_rfl, of_decide_eq_true (by kernel_rfl)⟩ Tryz.underlying27 (bound hb) (fun n k hn hk t ts hr htk hwt => walk hL n hn k hk t ts hr htk hwt) hval hW
noncomputable def laidWorld (os : Os) : World := World.laidAll Tryz.prog os Rows.fnCutLeaveGroupRequestRow.laid
theorem laid_met (os : Os) : laidMetH Tryz.prog Rows.fnCutLeaveGroupRequestRow.laid ((laidWorld os).forCall (fun _ _ => 0) ⟨#[], #[.int .u8 0, .agg #[.int .i64 0, .slice none 0 0, .bool false, .slice none 0 0, .slice none 0 0], .int .u16 0], []⟩).memory := by
  rw [MakeChecks.laidMetH_plain _ _ _ (by kernel_rfl)]
  exact laidMet_laidAll _ (by kernel_rfl) (by kernel_rfl)
theorem reads (os : Os) {H : Type} (enc : TypeId × Value → H) : ∃ places, DataW.whole enc Tryz.prog ((laidWorld os).forCall (fun _ _ => 0) ⟨#[], #[.int .u8 0, .agg #[.int .i64 0, .slice none 0 0, .bool false, .slice none 0 0, .slice none 0 0], .int .u16 0], []⟩).memory Tryz.f5.params.toList Rows.fnCutLeaveGroupRequestSpec.vars false #[.int .u8 0, .agg #[.int .i64 0, .slice none 0 0, .bool false, .slice none 0 0, .slice none 0 0], .int .u16 0].toList 8 = some ([.lit (.int .u8 0), .agg [.lit (.int .i64 0), .nil, .lit (.bool false), .nil, .nil], .lit (.int .u16 0)], [], places) :=
  ⟨[], by kernel_rfl⟩
set_option maxRecDepth 100000 in
theorem lifted (os : Os) (started : os.Started) (H : Type) (enc : TypeId × Value → H) (F : Stop.Interp) :
    ReturnsInHanded {} Tryz.checked os 5 .any ((Rows.OpenSpec.upto Rows.fnCutLeaveGroupRequestSpec).preRow enc Tryz.prog Tryz.f5 Rows.fnCutLeaveGroupRequestUptoRow.domain false Rows.fnCutLeaveGroupRequestUptoRow.laid) (((Rows.OpenSpec.upto Rows.fnCutLeaveGroupRequestSpec).at F).post enc Tryz.prog Tryz.f5 false true false false) := by
  obtain ⟨places, hx⟩ := reads os enc
  refine returnsInHanded_of_row (C := Tryz.checked) (s := Rows.OpenSpec.upto Rows.fnCutLeaveGroupRequestSpec) own started (by kernel_rfl) Tryz.func5
    (witness_row_atRef (enc := enc) (C := Tryz.checked) false (laidWorld os) #[.int .u8 0, .agg #[.int .i64 0, .slice none 0 0, .bool false, .slice none 0 0, .slice none 0 0], .int .u16 0] (World.laidAll_os _ _ _) (by kernel_rfl) (by kernel_rfl) (by kernel_rfl)
      (OpenSpec.preRow_of_cond 8 hx (by kernel_rfl) (fun k hk => by cases hk; kernel_rfl) (by kernel_rfl) (laid_met os))) ?_
  intro W base args ds gs before hval hW _ hcond _ hL _ _
  exact contract H enc W base args ds gs before hval hW (hcond _ rfl) hL
theorem facts : joinedFacts Tryz.prog 5 Tryz.f5 (Rows.OpenSpec.upto Rows.fnCutLeaveGroupRequestSpec).bare Rows.fnCutLeaveGroupRequestUptoRow = true := by
  unfold joinedFacts
  rw [lf, me]
  kernel_rfl
theorem said : Rows.FnCutLeaveGroupRequestUptoSaid :=
  OpenClaim.holds_of_cond 5 Tryz.f5 rfl rfl rfl rfl rfl rfl rfl ⟨rfl, rfl, rfl, rfl, rfl⟩ rfl rfl rfl rfl rfl (by kernel_rfl) Tryz.func5 facts
    (of_decide_eq_true (by kernel_rfl)) (by unfold Func.isWrapper; first | (rw [if_pos (by decide +kernel)]; kernel_rfl) | (rw [if_neg (by decide +kernel)]; exact ⟨rfl, rfl⟩))
    (fun os started H enc _ F => by rw [OpenClaim.pre_eq_preRow]; exact lifted os started H enc F)
theorem plain (f : FuncId) (fn : Func) (hf : Tryz.pinned.checked.prog.funcNamed "pub-kmsg/laws.FnCutLeaveGroupRequest" = some f) (hfn : Tryz.pinned.checked.prog.funcs[f]? = some fn) :
    false = Tryz.pinned.checked.prog.looks [] ∧ ∀ (j : Nat) t, fn.params[j]? = some t → Tryz.pinned.checked.prog.wantsStandIn t = false := by
  obtain rfl : f = 5 := Option.some.inj ((show Tryz.prog.funcNamed "pub-kmsg/laws.FnCutLeaveGroupRequest" = some 5 by kernel_rfl).symm.trans hf) |>.symm
  obtain rfl : fn = Tryz.f5 := (Option.some.inj (Tryz.func5.symm.trans hfn)).symm
  refine ⟨by kernel_rfl, fun j t ht => ?_⟩
  rw [Tryz.params5] at ht
  have hm : t ∈ [5, 26, 27] := by simpa using Array.mem_of_getElem? ht
  have hall : ([5, 26, 27].all fun u => !Tryz.prog.wantsStandIn u) = true := by kernel_rfl
  exact (show Tryz.prog.wantsStandIn t = false by simpa using List.all_eq_true.1 hall t hm)
theorem card : Rows.FnCutLeaveGroupRequestUptoCardSaid :=
  Claim7.holds_tied_plain_at .later [] _ _ _ _ said (fun _ h => by cases h) (by kernel_rfl) (fun _ h => by cases h) fnCutLeaveGroupRequestUpto_row_tie rfl ⟨rfl, rfl⟩ (by kernel_rfl) rfl plain (by kernel_rfl)
end Go.Proofs.YtgmhfkgdapljpaaGreatDoor.fnCutLeaveGroupRequest
namespace Go.Proofs.YtgmhfkgdapljpaaGreatDoor
/-- The second form's card, under a short name, for the claim. -/
theorem fnCutLeaveGroupRequest_holds : Rows.FnCutLeaveGroupRequestUptoCardSaid := fnCutLeaveGroupRequest.card
end Go.Proofs.YtgmhfkgdapljpaaGreatDoor
