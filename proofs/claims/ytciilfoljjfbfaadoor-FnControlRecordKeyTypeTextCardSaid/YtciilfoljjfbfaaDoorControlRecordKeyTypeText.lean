/- A kind and its text lead to one another, whatever the number; the tables that the row lists hold what the texts lay. -/
import Derived.Test.YtciilfoljjfbfaaDoorKmEnv
import Derived.Test.YtciilfoljjfbfaaDoorCards
import Derived.Test.YtciilfoljjfbfaaDoorTie
import Derived.WalkKit
import Derived.ProofKit
import Derived.OpenShut
import Derived.Handy
import Derived.Lay
import Derived.Deep.DeepHandedRow
import Derived.Deep.DeepWitnessRowRef
import Derived.SevenTiedAt
set_option linter.unusedVariables false
set_option linter.unusedSimpArgs false
namespace Go.Proofs.YtciilfoljjfbfaaDoor.fnControlRecordKeyTypeText
open Go Go.Km Go.ChangeShapes Go.WideShapes Go.ChangeAt Go.RowKit
set_option maxRecDepth 100000 in
theorem tab {W : World} (hL : laidMetH Tryd.prog Rows.fnControlRecordKeyTypeTextRow.laid W) : Lib.TabIs Tryd.prog W "strings.asciiSpace" .u8 Lib.asciiSpaceTab := by
  have e : Rows.fnControlRecordKeyTypeTextRow.laid = [("unicode/utf8.acceptRanges", Rows.laid_unicode_utf8_acceptRanges), ("unicode.White_Space", Rows.laid_unicode_White_Space), ("strings.asciiSpace", Lib.tabData .u8 Lib.asciiSpaceTab), ("unicode.CaseRanges", Rows.laid_unicode_CaseRanges), ("unicode/utf8.first", Rows.laid_unicode_utf8_first)] := by kernel_rfl
  rw [MakeChecks.laidMetH_plain _ _ _ (by kernel_rfl), e] at hL
  exact tab_of hL (g := 0) (t := 65) (e := 5) (by kernel_rfl) (by kernel_rfl) (by kernel_rfl) (by kernel_rfl) (by kernel_rfl) (by kernel_rfl)
theorem walk {W : World} (hL : laidMetH Tryd.prog Rows.fnControlRecordKeyTypeTextRow.laid W) (x : Int) (h0 : -1000000 ≤ x) (h1 : x ≤ 1000000) : CallsV Tryd.prog 4 #[.int .i16 x] W fun v w' => v = .bool true ∧ Below W.heap.size W w' :=
  c_lawT_ok kx (tu Tryd.func4) x h0 h1 W (tab hL)
set_option maxRecDepth 100000 in
theorem contract (H : Type) (enc : TypeId × Value → H) (W : World) (base : Nat) (args : Array Value) (ds gs : List (DataW H)) (before : List MemPlace)
    (hval : ∀ (j : Nat) t v, Tryd.f4.params[j]? = some t → args[j]? = some v → Value.okWide Tryd.prog W .any base t v)
    (hW : DataW.Whole enc Tryd.prog Tryd.f4.params.toList Rows.fnControlRecordKeyTypeTextSpec.vars false W args.toList ds gs before) (hL : laidMetH Tryd.prog Rows.fnControlRecordKeyTypeTextRow.laid W) :
    Calls Tryd.prog 4 args W fun e W' => ∃ v, e = .returned v ∧ Rows.fnControlRecordKeyTypeTextSpec.post enc Tryd.prog Tryd.f4 false true false false W args v W' :=
  i16Row (L := 4) (tb := 4) Tryd.params4 (by kernel_rfl) Tryd.underlying4 rfl (fun _ => rfl) lo ⟨by kernel_rfl, of_decide_eq_true (by kernel_rfl)⟩ Tryd.underlying30 (walk hL) hval hW
noncomputable def laidWorld (os : Os) : World := World.laidAll Tryd.prog os Rows.fnControlRecordKeyTypeTextRow.laid
theorem laid_met (os : Os) : laidMetH Tryd.prog Rows.fnControlRecordKeyTypeTextRow.laid ((laidWorld os).forCall (fun _ _ => 0) ⟨#[], #[.int .i16 0], []⟩).memory := by
  rw [MakeChecks.laidMetH_plain _ _ _ (by kernel_rfl)]
  exact laidMet_laidAll _ (by kernel_rfl) (by kernel_rfl)
theorem reads (os : Os) {H : Type} (enc : TypeId × Value → H) : ∃ places, DataW.whole enc Tryd.prog ((laidWorld os).forCall (fun _ _ => 0) ⟨#[], #[.int .i16 0], []⟩).memory Tryd.f4.params.toList Rows.fnControlRecordKeyTypeTextSpec.vars false #[Value.int .i16 0].toList 8 = some ([.lit (.int .i16 0)], [], places) :=
  ⟨[], by kernel_rfl⟩
set_option maxRecDepth 100000 in
theorem lifted (os : Os) (started : os.Started) (H : Type) (enc : TypeId × Value → H) (F : Stop.Interp) :
    ReturnsInHanded {} Tryd.checked os 4 .any ((OpenSpec.ofChange Rows.fnControlRecordKeyTypeTextSpec).preRow enc Tryd.prog Tryd.f4 Rows.fnControlRecordKeyTypeTextRow.domain false Rows.fnControlRecordKeyTypeTextRow.laid) (((OpenSpec.ofChange Rows.fnControlRecordKeyTypeTextSpec).at F).post enc Tryd.prog Tryd.f4 false true false false) := by
  obtain ⟨places, hx⟩ := reads os enc
  refine returnsInHanded_of_row (C := Tryd.checked) (s := OpenSpec.ofChange Rows.fnControlRecordKeyTypeTextSpec) own started (by kernel_rfl) Tryd.func4
    (witness_row_atRef (enc := enc) (C := Tryd.checked) false (laidWorld os) #[.int .i16 0] (World.laidAll_os _ _ _) (by kernel_rfl) (by kernel_rfl) (by kernel_rfl)
      (OpenSpec.preRow_of_cond 8 hx (by kernel_rfl) (fun k hk => by cases hk) (by kernel_rfl) (laid_met os))) ?_
  intro W base args ds gs before hval hW _ _ _ hL _ _
  exact contract H enc W base args ds gs before hval hW hL
theorem facts : joinedFacts Tryd.prog 4 Tryd.f4 (OpenSpec.ofChange Rows.fnControlRecordKeyTypeTextSpec).bare Rows.fnControlRecordKeyTypeTextRow = true := by
  unfold joinedFacts
  rw [lf, me]
  kernel_rfl
theorem said : Rows.FnControlRecordKeyTypeTextSaid :=
  OpenClaim.holds_of_cond 4 Tryd.f4 rfl rfl rfl rfl rfl rfl rfl ⟨rfl, rfl, rfl, rfl, rfl⟩ rfl rfl rfl rfl rfl (by kernel_rfl) Tryd.func4 facts
    (of_decide_eq_true (by kernel_rfl)) (by unfold Func.isWrapper; first | (rw [if_pos (by decide +kernel)]; kernel_rfl) | (rw [if_neg (by decide +kernel)]; exact ⟨rfl, rfl⟩))
    (fun os started H enc _ F => by rw [OpenClaim.pre_eq_preRow]; exact lifted os started H enc F)
theorem plain (f : FuncId) (fn : Func) (hf : Tryd.pinned.checked.prog.funcNamed "pub-kmsg/laws.FnControlRecordKeyTypeText" = some f) (hfn : Tryd.pinned.checked.prog.funcs[f]? = some fn) :
    false = Tryd.pinned.checked.prog.looks [] ∧ ∀ (j : Nat) t, fn.params[j]? = some t → Tryd.pinned.checked.prog.wantsStandIn t = false := by
  obtain rfl : f = 4 := Option.some.inj ((show Tryd.prog.funcNamed "pub-kmsg/laws.FnControlRecordKeyTypeText" = some 4 by kernel_rfl).symm.trans hf) |>.symm
  obtain rfl : fn = Tryd.f4 := (Option.some.inj (Tryd.func4.symm.trans hfn)).symm
  refine ⟨by kernel_rfl, fun j t ht => ?_⟩
  rw [Tryd.params4] at ht
  have hm : t ∈ [30] := by simpa using Array.mem_of_getElem? ht
  have hall : ([30].all fun u => !Tryd.prog.wantsStandIn u) = true := by kernel_rfl
  exact (show Tryd.prog.wantsStandIn t = false by simpa using List.all_eq_true.1 hall t hm)
theorem card : Rows.FnControlRecordKeyTypeTextCardSaid :=
  Claim7.holds_tied_plain_at .later [] _ _ _ _ said (fun _ h => by cases h) (by kernel_rfl) (fun _ h => by cases h) fnControlRecordKeyTypeText_row_tie rfl ⟨rfl, rfl⟩ (by kernel_rfl) rfl plain (by kernel_rfl)
end Go.Proofs.YtciilfoljjfbfaaDoor.fnControlRecordKeyTypeText
namespace Go.Proofs.YtciilfoljjfbfaaDoor
/-- The card, under a short name, for the claim. -/
theorem fnControlRecordKeyTypeText_holds : Rows.FnControlRecordKeyTypeTextCardSaid := fnControlRecordKeyTypeText.card
end Go.Proofs.YtciilfoljjfbfaaDoor
