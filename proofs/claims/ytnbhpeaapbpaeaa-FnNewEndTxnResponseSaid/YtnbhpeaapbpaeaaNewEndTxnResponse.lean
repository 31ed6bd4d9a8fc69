/- A new EndTxnResponse is written, at every version, as the defaults are: whatever the number that the version is taken from: no condition. -/
import Derived.Test.YtnbhpeaapbpaeaaKmEnv
import Derived.WalkKit
import Derived.ProofKit
import Derived.OpenShut
import Derived.ShutString
import Derived.ChangeOld
import Derived.Below
import Derived.SizedLaws
set_option linter.unusedVariables false
set_option linter.unusedSimpArgs false
namespace Go.Proofs.Ytnbhpeaapbpaeaa.fnNewEndTxnResponse
open Go Go.Km Go.ChangeShapes Go.WideShapes Go.ChangeAt Go.RowKit
def m : Msg := { TP := 48, TU := 60, FD := 22, flex := some 3, kept := false, fs := (.cons .all (.scal .i32 0) (.cons .all (.scal .i16 0) (.cons (.ge 5) (.scal .i64 (-1)) (.cons (.ge 5) (.scal .i16 (-1)) (.nil true))))) }
def nn : MN := { newPtr := 17, maxV := 18, setV := 19, app := 20, implMax := 9, implNew := 12, spec := 10, law := 4 }
def l0 : List FE := [((.mk 3 0 (-1) (-1) (-1) 0 0 .nil), none), ((.mk 2 0 (-1) (-1) (-1) 0 0 .nil), none), ((.mk 4 5 (-1) (-1) (-1) (-1) 0 .nil), none), ((.mk 2 5 (-1) (-1) (-1) (-1) 0 .nil), none)]
theorem sp : SpecC Try.prog nn.spec (toSFs l0) 3 := c_spec_ok (np := 0) sl hrF hM (tt Try.func10 (by kernel_rfl) rfl (by kernel_rfl) (by decide)) (by decide) (by decide) (by decide) (.none rfl (.none rfl (.none rfl (.none rfl (.nil)))))
theorem nw : NewC Try.prog nn.newPtr m := c_newPtr_ok (E := E) (np := 0) (npd := 1) (tt Try.func17 (by kernel_rfl) rfl (by kernel_rfl) (by decide)) (by decide) (tt Try.func22 (by kernel_rfl) rfl (by kernel_rfl) (by decide)) (by decide) (by kernel_rfl) (by kernel_rfl)
theorem im (w : World) : CallsV Try.prog nn.implMax #[] w fun v w' => v = .int .i64 (5 : Nat) ∧ Below w.heap.size w w' := c_implMax_ok (E := E) (N := nn) (m := m) (np := 0) (mx := 5) i16k ik (tt Try.func9 (by kernel_rfl) rfl (by kernel_rfl) (by decide)) (by decide) nw (fun x w => c_maxV_ok (E := E) (np := 1) (mx := 5) (tt Try.func18 (by kernel_rfl) rfl (by kernel_rfl) (by decide)) (by decide) x w) (by decide) w
theorem pure_law : pureB (toSFs l0) 3 m 5 = true := by kernel_rfl
theorem inw (ver : Nat) (h : ver ≤ 5) (w : World) : CallsV Try.prog nn.implNew #[.int .i64 ver] w fun v w' => w'.ownsRow w.heap.size E.tU8 1 v (m.wfs.wr (m.isFlex ver) ver m.wfs.dflt []).length ((m.wfs.wr (m.isFlex ver) ver m.wfs.dflt []).map bv) ∧ Below w.heap.size w w' := c_implNew_ok (E := E) (m := m) (N := nn) (np := 1) (nps := 2) (npa := 2) ew ei i16k ik o16 (tt Try.func12 (by kernel_rfl) rfl (by kernel_rfl) (by decide)) (by decide) nw (tt Try.func19 (by kernel_rfl) rfl (by kernel_rfl) (by decide)) (by decide) (by kernel_rfl) (tt Try.func20 (by kernel_rfl) rfl (by kernel_rfl) (by decide)) (of_decide_eq_true (by kernel_rfl)) (by kernel_rfl) rfl (by kernel_rfl) (ver := ver) (by omega) (pureB_big pure_law ver h) w
theorem walk {n : Nat} (hn : n < 256) (w : World) : CallsV Try.prog nn.law #[.int .u8 n] w fun v w' => v = .bool true ∧ Below w.heap.size w w' := c_lawNew_ok (E := E) (bs := fun ver => m.wfs.wr (m.isFlex ver) ver m.wfs.dflt []) (N := nn) (np := 1) (mx := 5) (fs := toSFs l0) (flex := 3) se sl st hz8 hL3 hoM hM lv (tt Try.func4 (by kernel_rfl) rfl (by kernel_rfl) (by decide)) (by decide) im (by decide) sp (by kernel_rfl) (by decide) inw (pureB_eq pure_law) (pureB_big pure_law) hn w
set_option maxRecDepth 100000 in
theorem lifted (os : Os) (started : os.Started) (H : Type) (enc : TypeId × Value → H) :
    ReturnsInHanded {} Try.checked os 4 .any (Rows.fnNewEndTxnResponseSpec.pre6 enc Try.prog Try.f4 Rows.fnNewEndTxnResponseRow.domain false) (Rows.fnNewEndTxnResponseSpec.post enc Try.prog Try.f4 false true false false) := by
  refine returnsInHanded_of_change_sized (C := Try.checked) own started (by kernel_rfl) Try.func4
    (ChangeSpec.witness6 (enc := enc) (C := Try.checked) false ⟨#[], #[.int .u8 0], []⟩ 8 (by kernel_rfl) (by kernel_rfl) (by kernel_rfl) (by kernel_rfl)) ?_
  intro W base args ds gs before hval0 hW hcnd hsz0 _
  have hval : ∀ (j : Nat) t v, Try.f4.params[j]? = some t → args[j]? = some v → Value.okWide Try.prog W .any base t v := hval0
  have hW' := hW
  obtain ⟨p, q, hA0, hV, rfl, hfz, hnd⟩ := hW
  have hA : DataW.TrodAll enc Try.prog W 0 (fun _ => true) true Try.f4.params.toList args.toList ds p := hA0
  rw [Try.params4] at hA hval
  obtain ⟨v0, d0, rfl, rfl, h0⟩ := trodAll_one hA
  obtain ⟨rfl, rfl⟩ := trodVars_none hV
  obtain ⟨a, rfl, rfl, rfl, wa⟩ := open_int Try.underlying5 (hval 0 5 v0 rfl rfl) h0
  clear hA0 hval0 hsz0
  obtain ⟨n, rfl, hn⟩ : ∃ n : Nat, a = (n : Int) ∧ n < 256 := u8_nat wa
  refine (walk hn W).2.mono fun e W' ⟨v, he, hv, bel⟩ => ?_
  subst he; subst hv
  exact ⟨_, rfl, _, _, _, [], _, [], hW', trodAll_mk1 (shut_bool Try.underlying4 _), trodAll_mk1 (shut_int Try.underlying5 wa), rfl, bel.frame _, fun h => by cases h⟩
theorem facts : joinedFacts Try.prog 4 Try.f4 Rows.fnNewEndTxnResponseSpec Rows.fnNewEndTxnResponseRow = true := by
  unfold joinedFacts
  rw [lf, me]
  kernel_rfl
theorem over : Rows.fnNewEndTxnResponseRow.holds Try.pinned (OpenSpec.ofChange Rows.fnNewEndTxnResponseSpec) :=
  OpenClaim.holds_of_wide 4 Try.f4 rfl rfl rfl rfl rfl rfl rfl ⟨rfl, rfl, rfl, rfl, rfl⟩ rfl rfl rfl rfl rfl (by kernel_rfl) Try.func4 facts
    (of_decide_eq_true (by kernel_rfl)) (by unfold Func.isWrapper; first | (rw [if_pos (by decide +kernel)]; kernel_rfl) | (rw [if_neg (by decide +kernel)]; exact ⟨rfl, rfl⟩))
    (fun os started H enc _ => lifted os started H enc)
theorem proved : Rows.FnNewEndTxnResponseSaid := over
end Go.Proofs.Ytnbhpeaapbpaeaa.fnNewEndTxnResponse
namespace Go.Proofs.Ytnbhpeaapbpaeaa
/-- The row, under a short name, for the claim. -/
theorem fnNewEndTxnResponse_holds : Rows.FnNewEndTxnResponseSaid := fnNewEndTxnResponse.proved
end Go.Proofs.Ytnbhpeaapbpaeaa
