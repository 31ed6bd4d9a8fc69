/- What is read of any octets as a ControlRecordKey is written as octets that are read again, and written as the same: whatever the octets; the variable that the row lists holds what the text lays. -/
import Derived.Test.YtlfhagnjemjaoaaDoorKmEnt
import Derived.Test.YtlfhagnjemjaoaaDoorCards
import Derived.Test.YtlfhagnjemjaoaaDoorTie
import Derived.WalkKit
import Derived.ProofKit
import Derived.OpenShut
import Derived.Handy
import Derived.Lay
import Derived.Deep.DeepHandedRow
import Derived.Deep.DeepWitnessRowRef
import Derived.SevenTiedAt
set_option linter.unusedVariables false
set_option linter.unusedSimpArgs false
namespace Go.Proofs.YtlfhagnjemjaoaaDoor.fnAnyControlRecordKey
open Go Go.Km Go.ChangeShapes Go.WideShapes Go.ChangeAt Go.RowKit
def m : Msg := { TP := 123, TU := 65, FD := 60, flex := none, kept := true, fs := (.cons .all (.named .i16 63 0) (.nil false)) }
def mk : MK := { newK := 32, app := 34, rd := 33, again := 13 }
theorem nk : NewKC Tryd.prog mk.newK m := c_newK_ok (E := E) (np := 0) (npd := 1) (tt Tryd.func32 (by kernel_rfl) rfl (by kernel_rfl) (by decide)) (by decide) (tt Tryd.func60 (by kernel_rfl) rfl (by kernel_rfl) (by decide)) (by decide) (by kernel_rfl) (by kernel_rfl) (by kernel_rfl) (by kernel_rfl) (by kernel_rfl)
theorem txr : m.fs.txR Tryd.prog E := ⟨trivial, trivial⟩
theorem rd : ReadC Tryd.prog E (fun _ => True) m mk.rd := c_rfw_ok (np := 2) (npr := 3) (npd := 1) er rx trivial (tt Tryd.func33 (by kernel_rfl) rfl (by kernel_rfl) (by decide)) (by decide) (tt Tryd.func61 (by kernel_rfl) rfl (by kernel_rfl) (by decide)) (of_decide_eq_true (by kernel_rfl)) (tt Tryd.func60 (by kernel_rfl) rfl (by kernel_rfl) (by decide)) (by decide) (by kernel_rfl) (by kernel_rfl) txr (by kernel_rfl) (fun _ => by decide)
theorem lp : lpB m 1 = true := by kernel_rfl
theorem ag : AgainKC Tryd.prog E m mk.again := againKC (np := 1) (npa := 2) ew ei rt.row ifE (tt Tryd.func13 (by kernel_rfl) rfl (by kernel_rfl) (by decide)) (by decide) nk rd (tt Tryd.func34 (by kernel_rfl) rfl (by kernel_rfl) (by decide)) (of_decide_eq_true (by kernel_rfl)) (by kernel_rfl) rfl (by kernel_rfl) (by kernel_rfl) (by kernel_rfl) (by kernel_rfl)
def l0 : List FE := [((.mk 2 0 (-1) (-1) (-1) 0 0 .nil), none)]
theorem sp : SpecC Tryd.prog 15 (toSFs l0) (-1) := c_spec_ok (np := 0) sl hrF hM (tt Tryd.func15 (by kernel_rfl) rfl (by kernel_rfl) (by decide)) (by decide) (by decide) (by decide) (.none rfl (.nil))
def al : ML := { implMax := 0, spec := 15, again := mk.again, law := 5, fits2 := 0, fits3 := 0, fits4 := 0, tTup := 24 }
theorem lt : LawK0 Tryd.prog E al (toSFs l0) (-1) := ⟨se, sl, st, hz8, hoM, hM, (tt Tryd.func14 (by kernel_rfl) rfl (by kernel_rfl) (by decide)), sp⟩
def ck : CK := { TU := 65, TP := 123, TK := 63, FD := 60 }
theorem ckt : CkT Tryd.prog E ck := ⟨by kernel_rfl, by kernel_rfl, by kernel_rfl, by kernel_rfl, (tt Tryd.func60 (by kernel_rfl) rfl (by kernel_rfl) (by decide))⟩
theorem hag : CrkC Tryd.prog E mk.again := c_crkAgain_ok (np := 1) (npw := 2) ew (by decide) er rx (by decide) rt.row ifE ckt rfl (tt Tryd.func13 (by kernel_rfl) rfl (by kernel_rfl) (by decide)) (by decide) nk (tt Tryd.func33 (by kernel_rfl) rfl (by kernel_rfl) (by decide)) (by decide) (tt Tryd.func61 (by kernel_rfl) rfl (by kernel_rfl) (by decide)) (tt Tryd.func34 (by kernel_rfl) rfl (by kernel_rfl) (by decide)) (by kernel_rfl) (by kernel_rfl) (by kernel_rfl)
set_option maxRecDepth 100000 in
theorem walk {W : World} (hL : laidMetH Tryd.prog Rows.fnAnyControlRecordKeyRow.laid W) (sv : Value) (l : List UInt8) (hin : BytesIn Tryd.prog E W sv l) (hl : l.length ≤ maxLen) : CallsV Tryd.prog al.law #[sv] W fun v w' => v = .bool true ∧ Below W.heap.size W w' := by
  obtain ⟨ev, he, hev⟩ := laid_ev (g := E.vErr) (ti := E.tErr) (by kernel_rfl) (by kernel_rfl) ifE (by kernel_rfl) hL
  exact c_anyK_ok (np := 1) lt (by kernel_rfl) (of_decide_eq_true (by kernel_rfl)) (by kernel_rfl) hag (tt Tryd.func5 (by kernel_rfl) rfl (by kernel_rfl) (by decide)) (by decide) hin (Nat.le_trans hl (by decide)) he hev
set_option maxRecDepth 100000 in
theorem contract (H : Type) (enc : TypeId × Value → H) (W : World) (base : Nat) (args : Array Value) (ds gs : List (DataW H)) (before : List MemPlace)
    (hval : ∀ (j : Nat) t v, Tryd.f5.params[j]? = some t → args[j]? = some v → Value.okWide Tryd.prog W .any base t v)
    (hW : DataW.Whole enc Tryd.prog Tryd.f5.params.toList Rows.fnAnyControlRecordKeySpec.vars false W args.toList ds gs before) (hL : laidMetH Tryd.prog Rows.fnAnyControlRecordKeyRow.laid W) :
    Calls Tryd.prog 5 args W fun e W' => ∃ v, e = .returned v ∧ Rows.fnAnyControlRecordKeySpec.post enc Tryd.prog Tryd.f5 false true false false W args v W' :=
  anyKRow (E := E) (tb := 4) Tryd.params5 (by kernel_rfl) Tryd.underlying4 rfl (fun _ => rfl) lo ⟨by kernel_rfl, of_decide_eq_true (by kernel_rfl)⟩ Tryd.underlying5 Tryd.underlying22 (by kernel_rfl) (walk hL) hval hW
noncomputable def laidWorld (os : Os) : World := World.laidAll Tryd.prog os Rows.fnAnyControlRecordKeyRow.laid
theorem laid_met (os : Os) : laidMetH Tryd.prog Rows.fnAnyControlRecordKeyRow.laid ((laidWorld os).forCall (fun _ _ => 0) ⟨#[], #[.slice none 0 0], []⟩).memory := by
  rw [MakeChecks.laidMetH_plain _ _ _ (by kernel_rfl)]
  exact laidMet_laidAll _ (by kernel_rfl) (by kernel_rfl)
theorem reads (os : Os) {H : Type} (enc : TypeId × Value → H) : ∃ places, DataW.whole enc Tryd.prog ((laidWorld os).forCall (fun _ _ => 0) ⟨#[], #[.slice none 0 0], []⟩).memory Tryd.f5.params.toList Rows.fnAnyControlRecordKeySpec.vars false #[Value.slice none 0 0].toList 8 = some ([.nil], [], places) :=
  ⟨[], by kernel_rfl⟩
set_option maxRecDepth 100000 in
theorem lifted (os : Os) (started : os.Started) (H : Type) (enc : TypeId × Value → H) (F : Stop.Interp) :
    ReturnsInHanded {} Tryd.checked os 5 .any ((OpenSpec.ofChange Rows.fnAnyControlRecordKeySpec).preRow enc Tryd.prog Tryd.f5 Rows.fnAnyControlRecordKeyRow.domain false Rows.fnAnyControlRecordKeyRow.laid) (((OpenSpec.ofChange Rows.fnAnyControlRecordKeySpec).at F).post enc Tryd.prog Tryd.f5 false true false false) := by
  obtain ⟨places, hx⟩ := reads os enc
  refine returnsInHanded_of_row (C := Tryd.checked) (s := OpenSpec.ofChange Rows.fnAnyControlRecordKeySpec) own started (by kernel_rfl) Tryd.func5
    (witness_row_atRef (enc := enc) (C := Tryd.checked) false (laidWorld os) #[.slice none 0 0] (World.laidAll_os _ _ _) (by kernel_rfl) (by kernel_rfl) (by kernel_rfl)
      (OpenSpec.preRow_of_cond 8 hx (by kernel_rfl) (fun k hk => by cases hk) (by kernel_rfl) (laid_met os))) ?_
  intro W base args ds gs before hval hW _ _ _ hL _ _
  exact contract H enc W base args ds gs before hval hW hL
theorem facts : joinedFacts Tryd.prog 5 Tryd.f5 (OpenSpec.ofChange Rows.fnAnyControlRecordKeySpec).bare Rows.fnAnyControlRecordKeyRow = true := by
  unfold joinedFacts
  rw [lf, me]
  kernel_rfl
theorem said : Rows.FnAnyControlRecordKeySaid :=
  OpenClaim.holds_of_cond 5 Tryd.f5 rfl rfl rfl rfl rfl rfl rfl ⟨rfl, rfl, rfl, rfl, rfl⟩ rfl rfl rfl rfl rfl (by kernel_rfl) Tryd.func5 facts
    (of_decide_eq_true (by kernel_rfl)) (by unfold Func.isWrapper; first | (rw [if_pos (by decide +kernel)]; kernel_rfl) | (rw [if_neg (by decide +kernel)]; exact ⟨rfl, rfl⟩))
    (fun os started H enc _ F => by rw [OpenClaim.pre_eq_preRow]; exact lifted os started H enc F)
theorem plain (f : FuncId) (fn : Func) (hf : Tryd.pinned.checked.prog.funcNamed "pub-kmsg/laws.FnAnyControlRecordKey" = some f) (hfn : Tryd.pinned.checked.prog.funcs[f]? = some fn) :
    false = Tryd.pinned.checked.prog.looks [] ∧ ∀ (j : Nat) t, fn.params[j]? = some t → Tryd.pinned.checked.prog.wantsStandIn t = false := by
  obtain rfl : f = 5 := Option.some.inj ((show Tryd.prog.funcNamed "pub-kmsg/laws.FnAnyControlRecordKey" = some 5 by kernel_rfl).symm.trans hf) |>.symm
  obtain rfl : fn = Tryd.f5 := (Option.some.inj (Tryd.func5.symm.trans hfn)).symm
  refine ⟨by kernel_rfl, fun j t ht => ?_⟩
  rw [Tryd.params5] at ht
  have hm : t ∈ [22] := by simpa using Array.mem_of_getElem? ht
  have hall : ([22].all fun u => !Tryd.prog.wantsStandIn u) = true := by kernel_rfl
  exact (show Tryd.prog.wantsStandIn t = false by simpa using List.all_eq_true.1 hall t hm)
theorem card : Rows.FnAnyControlRecordKeyCardSaid :=
  Claim7.holds_tied_plain_at .later [] _ _ _ _ said (fun _ h => by cases h) (by kernel_rfl) (fun _ h => by cases h) fnAnyControlRecordKey_row_tie rfl ⟨rfl, rfl⟩ (by kernel_rfl) rfl plain (by kernel_rfl)
end Go.Proofs.YtlfhagnjemjaoaaDoor.fnAnyControlRecordKey
namespace Go.Proofs.YtlfhagnjemjaoaaDoor
/-- The card, under a short name, for the claim. -/
theorem fnAnyControlRecordKey_holds : Rows.FnAnyControlRecordKeyCardSaid := fnAnyControlRecordKey.card
end Go.Proofs.YtlfhagnjemjaoaaDoor
