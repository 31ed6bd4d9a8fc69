/- A message of old, of either version, is read as it was; one that ends anywhere ahead of its end is an error; the variable that the row lists holds what the text lays. -/
import Derived.Test.YtlfhagnjemjaoaaDoorKmEnv
import Derived.Test.YtlfhagnjemjaoaaDoorKf00
import Derived.Test.YtlfhagnjemjaoaaDoorCards
import Derived.Test.YtlfhagnjemjaoaaDoorTie
import Derived.WalkKit
import Derived.ProofKit
import Derived.OpenShut
import Derived.Handy
import Derived.Lay
import Derived.Deep.DeepHandedRow
import Derived.Deep.DeepWitnessRowRef
import Derived.SevenTiedAt
set_option linter.unusedVariables false
set_option linter.unusedSimpArgs false
namespace Go.Proofs.YtlfhagnjemjaoaaDoor.fnTellOld
open Go Go.Km Go.ChangeShapes Go.WideShapes Go.ChangeAt Go.RowKit
def oc : OC := { tOld := 44, tOct := 42, tV := 72, tP := 125, tV1 := 75, tFn := 47, tTup := 49, own := 39, octets := 40, fOct := 42, oldB := 20, f8 := 37, f13 := 16, fits := 17, tv0 := 18, tv1 := 19, sold := 21, rf := 38, rf1 := 41 }
theorem ot : OT Tryd.prog E oc where
  row := by kernel_rfl
  mixed := by kernel_rfl
  oB := by kernel_rfl
  oO := by kernel_rfl
  o64 := by kernel_rfl
  o32 := by kernel_rfl
  o8 := by kernel_rfl
  oU8 := by kernel_rfl
  aOct := by kernel_rfl
  aOld := by kernel_rfl
  c0 := by kernel_rfl
  c1 := by kernel_rfl
  f0 := by kernel_rfl
  f1 := by kernel_rfl
  f2 := by kernel_rfl
  f3 := by kernel_rfl
  f4 := by kernel_rfl
  f5 := by kernel_rfl
  f6 := by kernel_rfl
  f7 := by kernel_rfl
  lOct := by kernel_rfl
  lOld := by kernel_rfl
  u8 := by kernel_rfl
  i8 := by kernel_rfl
  i32 := by kernel_rfl
  i64 := by kernel_rfl
  int := by kernel_rfl
  u16 := by kernel_rfl
  fixed := (tu Tryd.func35)
  same := (tu Tryd.func10)
  tf8 := (tu Tryd.func37)
  tf13 := (tu Tryd.func16)
  tfits := (tu Tryd.func17)
  town := (tu Tryd.func39)
  tocts := (tu Tryd.func40)
  tfoct := (tu Tryd.func42)
  toldB := (tu Tryd.func20)
  tsold := (tu Tryd.func21)
theorem ott : OldT Tryd.prog E oc where
  old := by kernel_rfl
  oct := by kernel_rfl
  bytes := by kernel_rfl
  u8 := by kernel_rfl
  i8 := by kernel_rfl
  i32 := by kernel_rfl
  i64 := by kernel_rfl
  u16 := by kernel_rfl
  bool := by kernel_rfl
  cOld := by kernel_rfl
  cOct := by kernel_rfl
  c8 := by kernel_rfl
  ci8 := by kernel_rfl
  c32 := by kernel_rfl
  c64 := by kernel_rfl
  cBool := by kernel_rfl
  cBytes := by kernel_rfl
def m0 : Msg := { TP := 125, TU := 72, FD := 103, flex := none, kept := false, fs := .nil false }
theorem fo0 : ∀ i, i < 7 → fieldOff Tryd.prog oc.tV i = some i := fun i hi => of_decide_eq_true (List.all_eq_true.1 (show ((List.range 7).all fun i => decide (fieldOff Tryd.prog oc.tV i = some i)) = true by kernel_rfl) i (List.mem_range.2 hi))
def m1 : Msg := { TP := 126, TU := 75, FD := 106, flex := none, kept := false, fs := .nil false }
theorem fo1 : ∀ i, i < 8 → fieldOff Tryd.prog oc.tV1 i = some i := fun i hi => of_decide_eq_true (List.all_eq_true.1 (show ((List.range 8).all fun i => decide (fieldOff Tryd.prog oc.tV1 i = some i)) = true by kernel_rfl) i (List.mem_range.2 hi))
theorem tell (one : Bool) (l : List UInt8) (X : OX) (sv ev : Value) (w : World) (hX : ((fsV one).rd false 0 (l, false)).2.2.2 = false → ((fsV one).rd false 0 (l, false)).1 = X.data one ∧ X.k.length ≤ big ∧ X.v.length ≤ big) (hin : BytesIn Tryd.prog E w sv l) (hl : l.length ≤ big) (he : w.cell? ⟨E.vErr, 0, none⟩ = some ev) (hev : ∃ u z, ev = .iface u z) : CallsV Tryd.prog (if one then oc.tv1 else oc.tv0) #[sv] w fun r w' => TellV Tryd.prog E one l X w r w' := by
  cases one with
  | false =>
    exact c_tellX_ok (np := 1) (npf := 2) (npr := 3) (one := false) (TV := oc.tV) (TU := 0) (m := m0) (R := c_tellR0 E oc) ot er rx ifE (tt Tryd.func18 (by kernel_rfl) rfl (by kernel_rfl) (by decide)) (by decide) (tt Tryd.func38 (by kernel_rfl) rfl (by kernel_rfl) (by decide)) (by decide) (tt Tryd.func63 (by kernel_rfl) rfl (by kernel_rfl) (by decide)) (tt Tryd.func103 (by kernel_rfl) rfl (by kernel_rfl) (by decide)) (by kernel_rfl) (by kernel_rfl) hin hl he hev (fun h => (hX h).1) (fun h A W q4 cs sb B h1 h2 h3 h4 h5 h6 h7 h8 h9 h10 => c_tellR0_ok ot fo0 h1 h2 h3 h4 h5 h6 h7 h8 h9 h10 (hX h).2.1 (hX h).2.2)
  | true =>
    exact c_tellX_ok (np := 1) (npf := 2) (npr := 3) (one := true) (TV := oc.tV1) (TU := 0) (m := m1) (R := c_tellR1 E oc) ot er rx ifE (tt Tryd.func19 (by kernel_rfl) rfl (by kernel_rfl) (by decide)) (by decide) (tt Tryd.func41 (by kernel_rfl) rfl (by kernel_rfl) (by decide)) (by decide) (tt Tryd.func64 (by kernel_rfl) rfl (by kernel_rfl) (by decide)) (tt Tryd.func106 (by kernel_rfl) rfl (by kernel_rfl) (by decide)) (by kernel_rfl) (by kernel_rfl) hin hl he hev (fun h => (hX h).1) (fun h A W q4 cs sb B h1 h2 h3 h4 h5 h6 h7 h8 h9 h10 => c_tellR1_ok ot fo1 h1 h2 h3 h4 h5 h6 h7 h8 h9 h10 (hX h).2.1 (hX h).2.2)
set_option maxRecDepth 100000 in
theorem walk {W : World} (hL : laidMetH Tryd.prog Rows.fnTellOldRow.laid W) (X : OX) (cs : List Value) (one : Bool) (k : Nat) (hr : X.Rep Tryd.prog E W cs) (hok : X.ok) (hk : k < 65536) : CallsV Tryd.prog 6 #[.agg cs.toArray, .bool one, .int .u16 k] W fun v w' => v = .bool true ∧ Below W.heap.size W w' := by
  obtain ⟨ev, he, hev⟩ := laid_ev (g := E.vErr) (ti := E.tErr) (by kernel_rfl) (by kernel_rfl) ifE (by kernel_rfl) hL
  exact c_tellOld_ok (np := 3) ot tell (tt Tryd.func6 (by kernel_rfl) rfl (by kernel_rfl) (by decide)) (by decide) hk hr hok he hev
set_option maxRecDepth 100000 in
theorem contract (H : Type) (enc : TypeId × Value → H) (W : World) (base : Nat) (args : Array Value) (ds gs : List (DataW H)) (before : List MemPlace)
    (hval : ∀ (j : Nat) t v, Tryd.f6.params[j]? = some t → args[j]? = some v → Value.okWide Tryd.prog W .any base t v)
    (hW : DataW.Whole enc Tryd.prog Tryd.f6.params.toList Rows.fnTellOldSpec.vars false W args.toList ds gs before) (hL : laidMetH Tryd.prog Rows.fnTellOldRow.laid W) :
    Calls Tryd.prog 6 args W fun e W' => ∃ v, e = .returned v ∧ Rows.fnTellOldSpec.post enc Tryd.prog Tryd.f6 false true false false W args v W' :=
  tellRow (E := E) (C := oc) ott Tryd.params6 (by kernel_rfl) rfl (fun _ _ _ => rfl) lo ⟨by kernel_rfl, of_decide_eq_true (by kernel_rfl)⟩ ⟨by kernel_rfl, of_decide_eq_true (by kernel_rfl)⟩ ⟨by kernel_rfl, of_decide_eq_true (by kernel_rfl)⟩ (walk hL) hval hW
noncomputable def laidWorld (os : Os) : World := World.laidAll Tryd.prog os Rows.fnTellOldRow.laid
theorem laid_met (os : Os) : laidMetH Tryd.prog Rows.fnTellOldRow.laid ((laidWorld os).forCall (fun _ _ => 0) ⟨#[], #[.agg #[.int .i64 0, .int .i32 0, .int .i32 0, .int .i8 0, .int .i8 0, .int .i64 0, .bool false, .slice none 0 0, .bool false, .slice none 0 0], .bool false, .int .u16 0], []⟩).memory := by
  rw [MakeChecks.laidMetH_plain _ _ _ (by kernel_rfl)]
  exact laidMet_laidAll _ (by kernel_rfl) (by kernel_rfl)
theorem reads (os : Os) {H : Type} (enc : TypeId × Value → H) : ∃ places, DataW.whole enc Tryd.prog ((laidWorld os).forCall (fun _ _ => 0) ⟨#[], #[.agg #[.int .i64 0, .int .i32 0, .int .i32 0, .int .i8 0, .int .i8 0, .int .i64 0, .bool false, .slice none 0 0, .bool false, .slice none 0 0], .bool false, .int .u16 0], []⟩).memory Tryd.f6.params.toList Rows.fnTellOldSpec.vars false #[Value.agg #[.int .i64 0, .int .i32 0, .int .i32 0, .int .i8 0, .int .i8 0, .int .i64 0, .bool false, .slice none 0 0, .bool false, .slice none 0 0], .bool false, .int .u16 0].toList 8 = some ([.agg [.lit (.int .i64 0), .lit (.int .i32 0), .lit (.int .i32 0), .lit (.int .i8 0), .lit (.int .i8 0), .lit (.int .i64 0), .agg [.lit (.bool false), .nil], .agg [.lit (.bool false), .nil]], .lit (.bool false), .lit (.int .u16 0)], [], places) :=
  ⟨[], by kernel_rfl⟩
set_option maxRecDepth 100000 in
theorem lifted (os : Os) (started : os.Started) (H : Type) (enc : TypeId × Value → H) (F : Stop.Interp) :
    ReturnsInHanded {} Tryd.checked os 6 .any ((OpenSpec.ofChange Rows.fnTellOldSpec).preRow enc Tryd.prog Tryd.f6 Rows.fnTellOldRow.domain false Rows.fnTellOldRow.laid) (((OpenSpec.ofChange Rows.fnTellOldSpec).at F).post enc Tryd.prog Tryd.f6 false true false false) := by
  obtain ⟨places, hx⟩ := reads os enc
  refine returnsInHanded_of_row (C := Tryd.checked) (s := OpenSpec.ofChange Rows.fnTellOldSpec) own started (by kernel_rfl) Tryd.func6
    (witness_row_atRef (enc := enc) (C := Tryd.checked) false (laidWorld os) #[.agg #[.int .i64 0, .int .i32 0, .int .i32 0, .int .i8 0, .int .i8 0, .int .i64 0, .bool false, .slice none 0 0, .bool false, .slice none 0 0], .bool false, .int .u16 0] (World.laidAll_os _ _ _) (by kernel_rfl) (by kernel_rfl) (by kernel_rfl)
      (OpenSpec.preRow_of_cond 8 hx (by kernel_rfl) (fun k hk => by cases hk) (by kernel_rfl) (laid_met os))) ?_
  intro W base args ds gs before hval hW _ _ _ hL _ _
  exact contract H enc W base args ds gs before hval hW hL
theorem facts : joinedFacts Tryd.prog 6 Tryd.f6 (OpenSpec.ofChange Rows.fnTellOldSpec).bare Rows.fnTellOldRow = true := by
  unfold joinedFacts
  rw [lf, me]
  kernel_rfl
theorem said : Rows.FnTellOldSaid :=
  OpenClaim.holds_of_cond 6 Tryd.f6 rfl rfl rfl rfl rfl rfl rfl ⟨rfl, rfl, rfl, rfl, rfl⟩ rfl rfl rfl rfl rfl (by kernel_rfl) Tryd.func6 facts
    (of_decide_eq_true (by kernel_rfl)) (by unfold Func.isWrapper; first | (rw [if_pos (by decide +kernel)]; kernel_rfl) | (rw [if_neg (by decide +kernel)]; exact ⟨rfl, rfl⟩))
    (fun os started H enc _ F => by rw [OpenClaim.pre_eq_preRow]; exact lifted os started H enc F)
theorem plain (f : FuncId) (fn : Func) (hf : Tryd.pinned.checked.prog.funcNamed "pub-kmsg/laws.FnTellOld" = some f) (hfn : Tryd.pinned.checked.prog.funcs[f]? = some fn) :
    false = Tryd.pinned.checked.prog.looks [] ∧ ∀ (j : Nat) t, fn.params[j]? = some t → Tryd.pinned.checked.prog.wantsStandIn t = false := by
  obtain rfl : f = 6 := Option.some.inj ((show Tryd.prog.funcNamed "pub-kmsg/laws.FnTellOld" = some 6 by kernel_rfl).symm.trans hf) |>.symm
  obtain rfl : fn = Tryd.f6 := (Option.some.inj (Tryd.func6.symm.trans hfn)).symm
  refine ⟨by kernel_rfl, fun j t ht => ?_⟩
  rw [Tryd.params6] at ht
  have hm : t ∈ [44, 4, 45] := by simpa using Array.mem_of_getElem? ht
  have hall : ([44, 4, 45].all fun u => !Tryd.prog.wantsStandIn u) = true := by kernel_rfl
  exact (show Tryd.prog.wantsStandIn t = false by simpa using List.all_eq_true.1 hall t hm)
theorem card : Rows.FnTellOldCardSaid :=
  Claim7.holds_tied_plain_at .later [] _ _ _ _ said (fun _ h => by cases h) (by kernel_rfl) (fun _ h => by cases h) fnTellOld_row_tie rfl ⟨rfl, rfl⟩ (by kernel_rfl) rfl plain (by kernel_rfl)
end Go.Proofs.YtlfhagnjemjaoaaDoor.fnTellOld
namespace Go.Proofs.YtlfhagnjemjaoaaDoor
/-- The card, under a short name, for the claim. -/
theorem fnTellOld_holds : Rows.FnTellOldCardSaid := fnTellOld.card
end Go.Proofs.YtlfhagnjemjaoaaDoor
