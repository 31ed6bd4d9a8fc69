/- A new UpdateRaftVoterRequest is written, at every version, as the defaults are: whatever the number that the version is taken from: no condition. -/
import Derived.Test.YtgijjjnbakdbgaaKmEnv
import Derived.WalkKit
import Derived.ProofKit
import Derived.OpenShut
import Derived.ShutString
import Derived.ChangeOld
import Derived.Below
import Derived.SizedLaws
set_option linter.unusedVariables false
set_option linter.unusedSimpArgs false
namespace Go.Proofs.Ytgijjjnbakdbgaa.fnNewUpdateRaftVoterRequest
open Go Go.Km Go.ChangeShapes Go.WideShapes Go.ChangeAt Go.RowKit
def m : Msg := { TP := 60, TU := 132, FD := 145, flex := some 0, kept := false, fs := (.cons .all .ntext (.cons .all (.scal .i32 0) (.cons .all (.scal .i32 0) (.cons .all .uuid (.cons .all (.list 128 none (.struct 134 137 222 (.cons .all .text (.cons .all .text (.cons .all (.scal .u16 0) (.nil true)))))) (.cons .all (.struct 139 130 223 (.cons .all (.scal .i16 0) (.cons .all (.scal .i16 0) (.nil true)))) (.nil true))))))) }
def nn : MN := { newPtr := 87, maxV := 88, setV := 91, app := 92, implMax := 40, implNew := 42, spec := 41, law := 10 }
def l89 : List FE := [((.mk 8 0 (-1) (-1) (-1) 0 0 .nil), none), ((.mk 8 0 (-1) (-1) (-1) 0 0 .nil), none), ((.mk 5 0 (-1) (-1) (-1) 0 0 .nil), none)]
theorem lc89 : LitC Try.prog 89 (toSFs l89) := c_lit_ok (np := 0) sl hrF (tt Try.func89 (by kernel_rfl) rfl (by kernel_rfl) (by decide)) (by decide) (by decide) (by decide) (.none rfl (.none rfl (.none rfl (.nil))))
def l90 : List FE := [((.mk 2 0 (-1) (-1) (-1) 0 0 .nil), none), ((.mk 2 0 (-1) (-1) (-1) 0 0 .nil), none)]
theorem lc90 : LitC Try.prog 90 (toSFs l90) := c_lit_ok (np := 0) sl hrF (tt Try.func90 (by kernel_rfl) rfl (by kernel_rfl) (by decide)) (by decide) (by decide) (by decide) (.none rfl (.none rfl (.nil)))
def l0 : List FE := [((.mk 8 0 (-1) 0 (-1) 0 0 .nil), none), ((.mk 3 0 (-1) (-1) (-1) 0 0 .nil), none), ((.mk 3 0 (-1) (-1) (-1) 0 0 .nil), none), ((.mk 7 0 (-1) (-1) (-1) 0 0 .nil), none), ((.mk 11 0 (-1) (-1) (-1) 0 10 (.cons (.mk 8 0 (-1) (-1) (-1) 0 0 .nil) (.cons (.mk 8 0 (-1) (-1) (-1) 0 0 .nil) (.cons (.mk 5 0 (-1) (-1) (-1) 0 0 .nil) .nil)))), some 89), ((.mk 10 0 (-1) (-1) (-1) 0 0 (.cons (.mk 2 0 (-1) (-1) (-1) 0 0 .nil) (.cons (.mk 2 0 (-1) (-1) (-1) 0 0 .nil) .nil))), some 90)]
theorem sp : SpecC Try.prog nn.spec (toSFs l0) 0 := c_spec_ok (np := 0) sl hrF hM (tt Try.func41 (by kernel_rfl) rfl (by kernel_rfl) (by decide)) (by decide) (by decide) (by decide) (.none rfl (.none rfl (.none rfl (.none rfl (.some lc89 (.some lc90 (.nil)))))))
theorem nw : NewC Try.prog nn.newPtr m := c_newPtr_ok (E := E) (np := 0) (npd := 1) (tt Try.func87 (by kernel_rfl) rfl (by kernel_rfl) (by decide)) (by decide) (tt Try.func145 (by kernel_rfl) rfl (by kernel_rfl) (by decide)) (by decide) (by kernel_rfl) (by kernel_rfl)
theorem im (w : World) : CallsV Try.prog nn.implMax #[] w fun v w' => v = .int .i64 (0 : Nat) ∧ Below w.heap.size w w' := c_implMax_ok (E := E) (N := nn) (m := m) (np := 0) (mx := 0) i16k ik (tt Try.func40 (by kernel_rfl) rfl (by kernel_rfl) (by decide)) (by decide) nw (fun x w => c_maxV_ok (E := E) (np := 1) (mx := 0) (tt Try.func88 (by kernel_rfl) rfl (by kernel_rfl) (by decide)) (by decide) x w) (by decide) w
theorem pure_law : pureB (toSFs l0) 0 m 0 = true := by kernel_rfl
theorem inw (ver : Nat) (h : ver ≤ 0) (w : World) : CallsV Try.prog nn.implNew #[.int .i64 ver] w fun v w' => w'.ownsRow w.heap.size E.tU8 1 v (m.wfs.wr (m.isFlex ver) ver m.wfs.dflt []).length ((m.wfs.wr (m.isFlex ver) ver m.wfs.dflt []).map bv) ∧ Below w.heap.size w w' := c_implNew_ok (E := E) (m := m) (N := nn) (np := 1) (nps := 2) (npa := 2) ew ei i16k ik o16 (tt Try.func42 (by kernel_rfl) rfl (by kernel_rfl) (by decide)) (by decide) nw (tt Try.func91 (by kernel_rfl) rfl (by kernel_rfl) (by decide)) (by decide) (by kernel_rfl) (tt Try.func92 (by kernel_rfl) rfl (by kernel_rfl) (by decide)) (of_decide_eq_true (by kernel_rfl)) (by kernel_rfl) rfl (by kernel_rfl) (ver := ver) (by omega) (pureB_big pure_law ver h) w
theorem walk {n : Nat} (hn : n < 256) (w : World) : CallsV Try.prog nn.law #[.int .u8 n] w fun v w' => v = .bool true ∧ Below w.heap.size w w' := c_lawNew_ok (E := E) (bs := fun ver => m.wfs.wr (m.isFlex ver) ver m.wfs.dflt []) (N := nn) (np := 1) (mx := 0) (fs := toSFs l0) (flex := 0) se sl st hz8 hL3 hoM hM lv (tt Try.func10 (by kernel_rfl) rfl (by kernel_rfl) (by decide)) (by decide) im (by decide) sp (by kernel_rfl) (by decide) inw (pureB_eq pure_law) (pureB_big pure_law) hn w
set_option maxRecDepth 100000 in
theorem lifted (os : Os) (started : os.Started) (H : Type) (enc : TypeId × Value → H) :
    ReturnsInHanded {} Try.checked os 10 .any (Rows.fnNewUpdateRaftVoterRequestSpec.pre6 enc Try.prog Try.f10 Rows.fnNewUpdateRaftVoterRequestRow.domain false) (Rows.fnNewUpdateRaftVoterRequestSpec.post enc Try.prog Try.f10 false true false false) := by
  refine returnsInHanded_of_change_sized (C := Try.checked) own started (by kernel_rfl) Try.func10
    (ChangeSpec.witness6 (enc := enc) (C := Try.checked) false ⟨#[], #[.int .u8 0], []⟩ 8 (by kernel_rfl) (by kernel_rfl) (by kernel_rfl) (by kernel_rfl)) ?_
  intro W base args ds gs before hval0 hW hcnd hsz0 _
  have hval : ∀ (j : Nat) t v, Try.f10.params[j]? = some t → args[j]? = some v → Value.okWide Try.prog W .any base t v := hval0
  have hW' := hW
  obtain ⟨p, q, hA0, hV, rfl, hfz, hnd⟩ := hW
  have hA : DataW.TrodAll enc Try.prog W 0 (fun _ => true) true Try.f10.params.toList args.toList ds p := hA0
  rw [Try.params10] at hA hval
  obtain ⟨v0, d0, rfl, rfl, h0⟩ := trodAll_one hA
  obtain ⟨rfl, rfl⟩ := trodVars_none hV
  obtain ⟨a, rfl, rfl, rfl, wa⟩ := open_int Try.underlying5 (hval 0 5 v0 rfl rfl) h0
  clear hA0 hval0 hsz0
  obtain ⟨n, rfl, hn⟩ : ∃ n : Nat, a = (n : Int) ∧ n < 256 := u8_nat wa
  refine (walk hn W).2.mono fun e W' ⟨v, he, hv, bel⟩ => ?_
  subst he; subst hv
  exact ⟨_, rfl, _, _, _, [], _, [], hW', trodAll_mk1 (shut_bool Try.underlying4 _), trodAll_mk1 (shut_int Try.underlying5 wa), rfl, bel.frame _, fun h => by cases h⟩
theorem facts : joinedFacts Try.prog 10 Try.f10 Rows.fnNewUpdateRaftVoterRequestSpec Rows.fnNewUpdateRaftVoterRequestRow = true := by
  unfold joinedFacts
  rw [lf, me]
  kernel_rfl
theorem over : Rows.fnNewUpdateRaftVoterRequestRow.holds Try.pinned (OpenSpec.ofChange Rows.fnNewUpdateRaftVoterRequestSpec) :=
  OpenClaim.holds_of_wide 10 Try.f10 rfl rfl rfl rfl rfl rfl rfl ⟨rfl, rfl, rfl, rfl, rfl⟩ rfl rfl rfl rfl rfl (by kernel_rfl) Try.func10 facts
    (of_decide_eq_true (by kernel_rfl)) (by unfold Func.isWrapper; first | (rw [if_pos (by decide +kernel)]; kernel_rfl) | (rw [if_neg (by decide +kernel)]; exact ⟨rfl, rfl⟩))
    (fun os started H enc _ => lifted os started H enc)
theorem proved : Rows.FnNewUpdateRaftVoterRequestSaid := over
end Go.Proofs.Ytgijjjnbakdbgaa.fnNewUpdateRaftVoterRequest
namespace Go.Proofs.Ytgijjjnbakdbgaa
/-- The row, under a short name, for the claim. -/
theorem fnNewUpdateRaftVoterRequest_holds : Rows.FnNewUpdateRaftVoterRequestSaid := fnNewUpdateRaftVoterRequest.proved
end Go.Proofs.Ytgijjjnbakdbgaa
