import Derived.Test.YtiafaedhhpjolaaGreatDoorKmEnt
import Derived.Test.YtiafaedhhpjolaaGreatDoorCards
import Derived.Test.YtiafaedhhpjolaaGreatDoorTie
import Derived.WalkKit
import Derived.ProofKit
import Derived.OpenShut
import Derived.Handy
import Derived.Lay
import Derived.Deep.DeepHandedRow
import Derived.Deep.DeepWitnessRowRef
import Derived.SevenTiedAt
set_option linter.unusedVariables false
set_option linter.unusedSimpArgs false
namespace Go.Proofs.YtiafaedhhpjolaaGreatDoor.fnCutTxnMetadataValue
open Go Go.Km Go.ChangeShapes Go.WideShapes Go.ChangeAt Go.RowKit
def m : Msg := { TP := 70, TU := 55, FD := 29, flex := some 1, kept := true, fs := (.cons .all (.scal .i64 0) (.cons .all (.scal .i16 0) (.cons .all (.scal .i32 0) (.cons .all (.named .i8 49 0) (.cons .all (.list 50 (some 0) (.struct 77 80 67 (.cons .all .text (.cons .all (.list 78 none (.scal .i32 0)) (.nil true))))) (.cons .all (.scal .i64 0) (.cons .all (.scal .i64 0) (.cons (.tag 0 0) (.scal .i64 (-1)) (.cons (.tag 1 0) (.scal .i64 (-1)) (.cons (.tag 2 0) (.scal .i16 0) (.cons (.tag 3 0) (.scal .i16 (-1)) (.nil true)))))))))))) }
def mk : MK := { newK := 18, app := 20, rd := 19, again := 8 }
theorem nk : NewKC Tryz.prog mk.newK m := c_newK_ok (E := E) (np := 0) (npd := 1) (tt Tryz.func18 (by kernel_rfl) rfl (by kernel_rfl) (by decide)) (by decide) (tt Tryz.func29 (by kernel_rfl) rfl (by kernel_rfl) (by decide)) (by decide) (by kernel_rfl) (by kernel_rfl) (by kernel_rfl) (by kernel_rfl) (by kernel_rfl)
theorem txr : m.fs.txR Tryz.prog E := ⟨trivial, ⟨trivial, ⟨trivial, ⟨trivial, ⟨⟨⟨80, by kernel_rfl, by kernel_rfl⟩, ⟨⟨1, _, (tt Tryz.func67 (by kernel_rfl) rfl (by kernel_rfl) (by decide)), by decide⟩, ⟨trivial, ⟨⟨⟨21, by kernel_rfl, by kernel_rfl⟩, trivial⟩, trivial⟩⟩⟩⟩, ⟨trivial, ⟨trivial, ⟨trivial, ⟨trivial, ⟨trivial, ⟨trivial, trivial⟩⟩⟩⟩⟩⟩⟩⟩⟩⟩⟩
theorem rd : ReadC Tryz.prog E (fun _ => True) m mk.rd := c_rfw_ok (np := 2) (npr := 3) (npd := 1) er rx rk trivial (tt Tryz.func19 (by kernel_rfl) rfl (by kernel_rfl) (by decide)) (by decide) (tt Tryz.func30 (by kernel_rfl) rfl (by kernel_rfl) (by decide)) (of_decide_eq_true (by kernel_rfl)) (tt Tryz.func29 (by kernel_rfl) rfl (by kernel_rfl) (by decide)) (by decide) (by kernel_rfl) (by kernel_rfl) txr (by kernel_rfl) (fun _ => by decide)
theorem lp : lpB m 1 = true := by kernel_rfl
theorem ag : AgainKC Tryz.prog E m mk.again := againKC (np := 1) (npa := 2) ew ei rt.row ifE (tt Tryz.func8 (by kernel_rfl) rfl (by kernel_rfl) (by decide)) (by decide) nk rd (tt Tryz.func20 (by kernel_rfl) rfl (by kernel_rfl) (by decide)) (of_decide_eq_true (by kernel_rfl)) (by kernel_rfl) rfl (by kernel_rfl) (by kernel_rfl) (by kernel_rfl) (by kernel_rfl)
def l17 : List FE := [((.mk 8 0 (-1) (-1) (-1) 0 0 .nil), none), ((.mk 11 0 (-1) (-1) (-1) 0 3 .nil), none)]
theorem lc17 : LitC Tryz.prog 17 (toSFs l17) := c_lit_ok (np := 0) sl hrF (tt Tryz.func17 (by kernel_rfl) rfl (by kernel_rfl) (by decide)) (by decide) (by decide) (by decide) (.none rfl (.none rfl (.nil)))
def l0 : List FE := [((.mk 4 0 (-1) (-1) (-1) 0 0 .nil), none), ((.mk 2 0 (-1) (-1) (-1) 0 0 .nil), none), ((.mk 3 0 (-1) (-1) (-1) 0 0 .nil), none), ((.mk 1 0 (-1) (-1) (-1) 0 0 .nil), none), ((.mk 11 0 (-1) (-1) (-1) 0 10 (.cons (.mk 8 0 (-1) (-1) (-1) 0 0 .nil) (.cons (.mk 11 0 (-1) (-1) (-1) 0 3 .nil) .nil))), some 17), ((.mk 4 0 (-1) (-1) (-1) 0 0 .nil), none), ((.mk 4 0 (-1) (-1) (-1) 0 0 .nil), none), ((.mk 4 0 (-1) (-1) 0 (-1) 0 .nil), none), ((.mk 4 0 (-1) (-1) 1 (-1) 0 .nil), none), ((.mk 2 0 (-1) (-1) 2 0 0 .nil), none), ((.mk 2 0 (-1) (-1) 3 (-1) 0 .nil), none)]
theorem sp : SpecC Tryz.prog 7 (toSFs l0) 1 := c_spec_ok (np := 0) sl hrF hM (tt Tryz.func7 (by kernel_rfl) rfl (by kernel_rfl) (by decide)) (by decide) (by decide) (by decide) (.none rfl (.none rfl (.none rfl (.none rfl (.some lc17 (.none rfl (.none rfl (.none rfl (.none rfl (.none rfl (.none rfl (.nil))))))))))))
def al : ML := { implMax := 0, spec := 7, again := mk.again, law := 3, fits2 := 5, fits3 := 15, fits4 := 28, tTup := 34 }
theorem lt : LawK Tryz.prog E al m (toSFs l0) 1 := ⟨⟨se, sl, st, hz8, hoM, hM, (tt Tryz.func6 (by kernel_rfl) rfl (by kernel_rfl) (by decide)), sp⟩, (tt Tryz.func28 (by kernel_rfl) rfl (by kernel_rfl) (by decide)), (tt Tryz.func15 (by kernel_rfl) rfl (by kernel_rfl) (by decide)), (tt Tryz.func5 (by kernel_rfl) rfl (by kernel_rfl) (by decide)), ag⟩
theorem sd : SpdK m (toSFs l0) 1 := ⟨by kernel_rfl, of_decide_eq_true (by kernel_rfl), by kernel_rfl, fun ver => isFlex_eq (by kernel_rfl) ver, lp, rfl⟩
theorem cost : m.fs.cost ≤ 2047 := of_decide_eq_true (by kernel_rfl)
theorem i16u : qr Tryz.prog E.tU16 = some .u16 := by kernel_rfl
set_option maxRecDepth 100000 in
theorem walk {W : World} (hL : laidMetH Tryz.prog Rows.fnCutTxnMetadataValueRow.laid W) (n : Nat) (hn : n < 256) (k : Nat) (hk : k < 65536) (t : Tr) (ts : List Value) (hr : t.Rep W W.heap.size ts) (htk : t.tok) (hwt : t.wt ≤ 1048576) : qa Tryz.prog al.law #[.int .u8 n, .agg ts.toArray, .int .u16 k] W fun v w' => v = .bool true ∧ Below W.heap.size W w' := by
  obtain ⟨ev, he, hev⟩ := laid_ev (g := E.vErr) (ti := E.tErr) (by kernel_rfl) (by kernel_rfl) ifE (by kernel_rfl) hL
  exact c_cutK_ok (np := 3) lt sd (tt Tryz.func3 (by kernel_rfl) rfl (by kernel_rfl) (by decide)) (by decide) i16u hn hk hr htk (tags_small hwt) (kept_big sd.agr cost hwt) he hev
set_option maxRecDepth 100000 in
theorem contract (H : Type) (enc : TypeId × Value → H) (W : World) (base : Nat) (args : Array Value) (ds gs : List (DataW H)) (before : List MemPlace)
    (hval : ∀ (j : Nat) t v, Tryz.f3.params[j]? = some t → args[j]? = some v → Value.okWide Tryz.prog W .any base t v)
    (hW : DataW.Whole enc Tryz.prog Tryz.f3.params.toList Rows.fnCutTxnMetadataValueSpec.vars false W args.toList ds gs before) (hb : Rows.uptoSmall H (ds ++ gs) = true) (hL : laidMetH Tryz.prog Rows.fnCutTxnMetadataValueRow.laid W) :
    Calls Tryz.prog 3 args W fun e W' => ∃ v, e = .returned v ∧ Rows.fnCutTxnMetadataValueSpec.post enc Tryz.prog Tryz.f3 false true false false W args v W' :=
  cutRow (E := E) (tb := 4) tr5 (bk H) Tryz.params3 (by kernel_rfl) Tryz.underlying4 rfl (fun _ _ _ => rfl) lo ⟨by kernel_rfl, of_decide_eq_true (by kernel_rfl)⟩ ⟨by kernel_rfl, of_decide_eq_true (by kernel_rfl)⟩ ⟨by kernel_rfl, of_decide_eq_true (by kernel_rfl)⟩ Tryz.underlying27 (bound hb) (fun n k hn hk t ts hr htk hwt => walk hL n hn k hk t ts hr htk hwt) hval hW
noncomputable def laidWorld (os : Os) : World := World.laidAll Tryz.prog os Rows.fnCutTxnMetadataValueRow.laid
theorem laid_met (os : Os) : laidMetH Tryz.prog Rows.fnCutTxnMetadataValueRow.laid ((laidWorld os).forCall (fun _ _ => 0) ⟨#[], #[.int .u8 0, .agg #[.int .i64 0, .slice none 0 0, .bool false, .slice none 0 0, .slice none 0 0], .int .u16 0], []⟩).memory := by
  rw [MakeChecks.laidMetH_plain _ _ _ (by kernel_rfl)]
  exact laidMet_laidAll _ (by kernel_rfl) (by kernel_rfl)
theorem reads (os : Os) {H : Type} (enc : TypeId × Value → H) : ∃ places, DataW.whole enc Tryz.prog ((laidWorld os).forCall (fun _ _ => 0) ⟨#[], #[.int .u8 0, .agg #[.int .i64 0, .slice none 0 0, .bool false, .slice none 0 0, .slice none 0 0], .int .u16 0], []⟩).memory Tryz.f3.params.toList Rows.fnCutTxnMetadataValueSpec.vars false #[.int .u8 0, .agg #[.int .i64 0, .slice none 0 0, .bool false, .slice none 0 0, .slice none 0 0], .int .u16 0].toList 8 = some ([.lit (.int .u8 0), .agg [.lit (.int .i64 0), .nil, .lit (.bool false), .nil, .nil], .lit (.int .u16 0)], [], places) :=
  ⟨[], by kernel_rfl⟩
set_option maxRecDepth 100000 in
theorem lifted (os : Os) (started : os.Started) (H : Type) (enc : TypeId × Value → H) (F : Stop.Interp) :
    ReturnsInHanded {} Tryz.checked os 3 .any ((Rows.OpenSpec.upto Rows.fnCutTxnMetadataValueSpec).preRow enc Tryz.prog Tryz.f3 Rows.fnCutTxnMetadataValueUptoRow.domain false Rows.fnCutTxnMetadataValueUptoRow.laid) (((Rows.OpenSpec.upto Rows.fnCutTxnMetadataValueSpec).at F).post enc Tryz.prog Tryz.f3 false true false false) := by
  obtain ⟨places, hx⟩ := reads os enc
  refine returnsInHanded_of_row (C := Tryz.checked) (s := Rows.OpenSpec.upto Rows.fnCutTxnMetadataValueSpec) own started (by kernel_rfl) Tryz.func3
    (witness_row_atRef (enc := enc) (C := Tryz.checked) false (laidWorld os) #[.int .u8 0, .agg #[.int .i64 0, .slice none 0 0, .bool false, .slice none 0 0, .slice none 0 0], .int .u16 0] (World.laidAll_os _ _ _) (by kernel_rfl) (by kernel_rfl) (by kernel_rfl)
      (OpenSpec.preRow_of_cond 8 hx (by kernel_rfl) (fun k hk => by cases hk; kernel_rfl) (by kernel_rfl) (laid_met os))) ?_
  intro W base args ds gs before hval hW _ hcond _ hL _ _
  exact contract H enc W base args ds gs before hval hW (hcond _ rfl) hL
theorem facts : joinedFacts Tryz.prog 3 Tryz.f3 (Rows.OpenSpec.upto Rows.fnCutTxnMetadataValueSpec).bare Rows.fnCutTxnMetadataValueUptoRow = true := by
  unfold joinedFacts
  rw [lf, me]
  kernel_rfl
theorem said : Rows.FnCutTxnMetadataValueUptoSaid :=
  OpenClaim.holds_of_cond 3 Tryz.f3 rfl rfl rfl rfl rfl rfl rfl ⟨rfl, rfl, rfl, rfl, rfl⟩ rfl rfl rfl rfl rfl (by kernel_rfl) Tryz.func3 facts
    (of_decide_eq_true (by kernel_rfl)) (by unfold Func.isWrapper; first | (rw [if_pos (by decide +kernel)]; kernel_rfl) | (rw [if_neg (by decide +kernel)]; exact ⟨rfl, rfl⟩))
    (fun os started H enc _ F => by rw [OpenClaim.pre_eq_preRow]; exact lifted os started H enc F)
theorem plain (f : FuncId) (fn : Func) (hf : Tryz.pinned.checked.prog.funcNamed "pub-kmsg/laws.FnCutTxnMetadataValue" = some f) (hfn : Tryz.pinned.checked.prog.funcs[f]? = some fn) :
    false = Tryz.pinned.checked.prog.looks [] ∧ ∀ (j : Nat) t, fn.params[j]? = some t → Tryz.pinned.checked.prog.wantsStandIn t = false := by
  obtain rfl : f = 3 := Option.some.inj ((show Tryz.prog.funcNamed "pub-kmsg/laws.FnCutTxnMetadataValue" = some 3 by kernel_rfl).symm.trans hf) |>.symm
  obtain rfl : fn = Tryz.f3 := (Option.some.inj (Tryz.func3.symm.trans hfn)).symm
  refine ⟨by kernel_rfl, fun j t ht => ?_⟩
  rw [Tryz.params3] at ht
  have hm : t ∈ [5, 26, 27] := by simpa using Array.mem_of_getElem? ht
  have hall : ([5, 26, 27].all fun u => !Tryz.prog.wantsStandIn u) = true := by kernel_rfl
  exact (show Tryz.prog.wantsStandIn t = false by simpa using List.all_eq_true.1 hall t hm)
theorem card : Rows.FnCutTxnMetadataValueUptoCardSaid :=
  Claim7.holds_tied_plain_at .later [] _ _ _ _ said (fun _ h => by cases h) (by kernel_rfl) (fun _ h => by cases h) fnCutTxnMetadataValueUpto_row_tie rfl ⟨rfl, rfl⟩ (by kernel_rfl) rfl plain (by kernel_rfl)
end Go.Proofs.YtiafaedhhpjolaaGreatDoor.fnCutTxnMetadataValue
namespace Go.Proofs.YtiafaedhhpjolaaGreatDoor
/-- The second form's card, under a short name, for the claim. -/
theorem fnCutTxnMetadataValue_holds : Rows.FnCutTxnMetadataValueUptoCardSaid := fnCutTxnMetadataValue.card
end Go.Proofs.YtiafaedhhpjolaaGreatDoor
