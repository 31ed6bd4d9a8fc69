/- A new BeginQuorumEpochRequest is written, at every version, as the defaults are: whatever the number that the version is taken from: no condition. -/
import Derived.Test.YtgijjjnbakdbgaaKmEnv
import Derived.WalkKit
import Derived.ProofKit
import Derived.OpenShut
import Derived.ShutString
import Derived.ChangeOld
import Derived.Below
import Derived.SizedLaws
set_option linter.unusedVariables false
set_option linter.unusedSimpArgs false
namespace Go.Proofs.Ytgijjjnbakdbgaa.fnNewBeginQuorumEpochRequest
open Go Go.Km Go.ChangeShapes Go.WideShapes Go.ChangeAt Go.RowKit
def m : Msg := { TP := 68, TU := 176, FD := 155, flex := some 1, kept := false, fs := (.cons .all .ntext (.cons (.ge 1) (.scal .i32 (-1)) (.cons .all (.list 173 none (.struct 177 180 230 (.cons .all .text (.cons .all (.list 178 none (.struct 181 183 231 (.cons .all (.scal .i32 0) (.cons (.ge 1) .uuid (.cons .all (.scal .i32 0) (.cons .all (.scal .i32 0) (.nil true))))))) (.nil true))))) (.cons (.ge 1) (.list 174 none (.struct 184 185 232 (.cons .all .text (.cons .all .text (.cons .all (.scal .u16 0) (.nil true)))))) (.nil true))))) }
def nn : MN := { newPtr := 108, maxV := 109, setV := 112, app := 113, implMax := 52, implNew := 54, spec := 53, law := 14 }
def l156 : List FE := [((.mk 3 0 (-1) (-1) (-1) 0 0 .nil), none), ((.mk 7 1 (-1) (-1) (-1) 0 0 .nil), none), ((.mk 3 0 (-1) (-1) (-1) 0 0 .nil), none), ((.mk 3 0 (-1) (-1) (-1) 0 0 .nil), none)]
theorem lc156 : LitC Try.prog 156 (toSFs l156) := c_lit_ok (np := 0) sl hrF (tt Try.func156 (by kernel_rfl) rfl (by kernel_rfl) (by decide)) (by decide) (by decide) (by decide) (.none rfl (.none rfl (.none rfl (.none rfl (.nil)))))
def l110 : List FE := [((.mk 8 0 (-1) (-1) (-1) 0 0 .nil), none), ((.mk 11 0 (-1) (-1) (-1) 0 10 (.cons (.mk 3 0 (-1) (-1) (-1) 0 0 .nil) (.cons (.mk 7 1 (-1) (-1) (-1) 0 0 .nil) (.cons (.mk 3 0 (-1) (-1) (-1) 0 0 .nil) (.cons (.mk 3 0 (-1) (-1) (-1) 0 0 .nil) .nil))))), some 156)]
theorem lc110 : LitC Try.prog 110 (toSFs l110) := c_lit_ok (np := 0) sl hrF (tt Try.func110 (by kernel_rfl) rfl (by kernel_rfl) (by decide)) (by decide) (by decide) (by decide) (.none rfl (.some lc156 (.nil)))
def l111 : List FE := [((.mk 8 0 (-1) (-1) (-1) 0 0 .nil), none), ((.mk 8 0 (-1) (-1) (-1) 0 0 .nil), none), ((.mk 5 0 (-1) (-1) (-1) 0 0 .nil), none)]
theorem lc111 : LitC Try.prog 111 (toSFs l111) := c_lit_ok (np := 0) sl hrF (tt Try.func111 (by kernel_rfl) rfl (by kernel_rfl) (by decide)) (by decide) (by decide) (by decide) (.none rfl (.none rfl (.none rfl (.nil))))
def l0 : List FE := [((.mk 8 0 (-1) 0 (-1) 0 0 .nil), none), ((.mk 3 1 (-1) (-1) (-1) (-1) 0 .nil), none), ((.mk 11 0 (-1) (-1) (-1) 0 10 (.cons (.mk 8 0 (-1) (-1) (-1) 0 0 .nil) (.cons (.mk 11 0 (-1) (-1) (-1) 0 10 (.cons (.mk 3 0 (-1) (-1) (-1) 0 0 .nil) (.cons (.mk 7 1 (-1) (-1) (-1) 0 0 .nil) (.cons (.mk 3 0 (-1) (-1) (-1) 0 0 .nil) (.cons (.mk 3 0 (-1) (-1) (-1) 0 0 .nil) .nil))))) .nil))), some 110), ((.mk 11 1 (-1) (-1) (-1) 0 10 (.cons (.mk 8 0 (-1) (-1) (-1) 0 0 .nil) (.cons (.mk 8 0 (-1) (-1) (-1) 0 0 .nil) (.cons (.mk 5 0 (-1) (-1) (-1) 0 0 .nil) .nil)))), some 111)]
theorem sp : SpecC Try.prog nn.spec (toSFs l0) 1 := c_spec_ok (np := 0) sl hrF hM (tt Try.func53 (by kernel_rfl) rfl (by kernel_rfl) (by decide)) (by decide) (by decide) (by decide) (.none rfl (.none rfl (.some lc110 (.some lc111 (.nil)))))
theorem nw : NewC Try.prog nn.newPtr m := c_newPtr_ok (E := E) (np := 0) (npd := 1) (tt Try.func108 (by kernel_rfl) rfl (by kernel_rfl) (by decide)) (by decide) (tt Try.func155 (by kernel_rfl) rfl (by kernel_rfl) (by decide)) (by decide) (by kernel_rfl) (by kernel_rfl)
theorem im (w : World) : CallsV Try.prog nn.implMax #[] w fun v w' => v = .int .i64 (1 : Nat) ∧ Below w.heap.size w w' := c_implMax_ok (E := E) (N := nn) (m := m) (np := 0) (mx := 1) i16k ik (tt Try.func52 (by kernel_rfl) rfl (by kernel_rfl) (by decide)) (by decide) nw (fun x w => c_maxV_ok (E := E) (np := 1) (mx := 1) (tt Try.func109 (by kernel_rfl) rfl (by kernel_rfl) (by decide)) (by decide) x w) (by decide) w
theorem pure_law : pureB (toSFs l0) 1 m 1 = true := by kernel_rfl
theorem inw (ver : Nat) (h : ver ≤ 1) (w : World) : CallsV Try.prog nn.implNew #[.int .i64 ver] w fun v w' => w'.ownsRow w.heap.size E.tU8 1 v (m.wfs.wr (m.isFlex ver) ver m.wfs.dflt []).length ((m.wfs.wr (m.isFlex ver) ver m.wfs.dflt []).map bv) ∧ Below w.heap.size w w' := c_implNew_ok (E := E) (m := m) (N := nn) (np := 1) (nps := 2) (npa := 2) ew ei i16k ik o16 (tt Try.func54 (by kernel_rfl) rfl (by kernel_rfl) (by decide)) (by decide) nw (tt Try.func112 (by kernel_rfl) rfl (by kernel_rfl) (by decide)) (by decide) (by kernel_rfl) (tt Try.func113 (by kernel_rfl) rfl (by kernel_rfl) (by decide)) (of_decide_eq_true (by kernel_rfl)) (by kernel_rfl) rfl (by kernel_rfl) (ver := ver) (by omega) (pureB_big pure_law ver h) w
theorem walk {n : Nat} (hn : n < 256) (w : World) : CallsV Try.prog nn.law #[.int .u8 n] w fun v w' => v = .bool true ∧ Below w.heap.size w w' := c_lawNew_ok (E := E) (bs := fun ver => m.wfs.wr (m.isFlex ver) ver m.wfs.dflt []) (N := nn) (np := 1) (mx := 1) (fs := toSFs l0) (flex := 1) se sl st hz8 hL3 hoM hM lv (tt Try.func14 (by kernel_rfl) rfl (by kernel_rfl) (by decide)) (by decide) im (by decide) sp (by kernel_rfl) (by decide) inw (pureB_eq pure_law) (pureB_big pure_law) hn w
set_option maxRecDepth 100000 in
theorem lifted (os : Os) (started : os.Started) (H : Type) (enc : TypeId × Value → H) :
    ReturnsInHanded {} Try.checked os 14 .any (Rows.fnNewBeginQuorumEpochRequestSpec.pre6 enc Try.prog Try.f14 Rows.fnNewBeginQuorumEpochRequestRow.domain false) (Rows.fnNewBeginQuorumEpochRequestSpec.post enc Try.prog Try.f14 false true false false) := by
  refine returnsInHanded_of_change_sized (C := Try.checked) own started (by kernel_rfl) Try.func14
    (ChangeSpec.witness6 (enc := enc) (C := Try.checked) false ⟨#[], #[.int .u8 0], []⟩ 8 (by kernel_rfl) (by kernel_rfl) (by kernel_rfl) (by kernel_rfl)) ?_
  intro W base args ds gs before hval0 hW hcnd hsz0 _
  have hval : ∀ (j : Nat) t v, Try.f14.params[j]? = some t → args[j]? = some v → Value.okWide Try.prog W .any base t v := hval0
  have hW' := hW
  obtain ⟨p, q, hA0, hV, rfl, hfz, hnd⟩ := hW
  have hA : DataW.TrodAll enc Try.prog W 0 (fun _ => true) true Try.f14.params.toList args.toList ds p := hA0
  rw [Try.params14] at hA hval
  obtain ⟨v0, d0, rfl, rfl, h0⟩ := trodAll_one hA
  obtain ⟨rfl, rfl⟩ := trodVars_none hV
  obtain ⟨a, rfl, rfl, rfl, wa⟩ := open_int Try.underlying5 (hval 0 5 v0 rfl rfl) h0
  clear hA0 hval0 hsz0
  obtain ⟨n, rfl, hn⟩ : ∃ n : Nat, a = (n : Int) ∧ n < 256 := u8_nat wa
  refine (walk hn W).2.mono fun e W' ⟨v, he, hv, bel⟩ => ?_
  subst he; subst hv
  exact ⟨_, rfl, _, _, _, [], _, [], hW', trodAll_mk1 (shut_bool Try.underlying4 _), trodAll_mk1 (shut_int Try.underlying5 wa), rfl, bel.frame _, fun h => by cases h⟩
theorem facts : joinedFacts Try.prog 14 Try.f14 Rows.fnNewBeginQuorumEpochRequestSpec Rows.fnNewBeginQuorumEpochRequestRow = true := by
  unfold joinedFacts
  rw [lf, me]
  kernel_rfl
theorem over : Rows.fnNewBeginQuorumEpochRequestRow.holds Try.pinned (OpenSpec.ofChange Rows.fnNewBeginQuorumEpochRequestSpec) :=
  OpenClaim.holds_of_wide 14 Try.f14 rfl rfl rfl rfl rfl rfl rfl ⟨rfl, rfl, rfl, rfl, rfl⟩ rfl rfl rfl rfl rfl (by kernel_rfl) Try.func14 facts
    (of_decide_eq_true (by kernel_rfl)) (by unfold Func.isWrapper; first | (rw [if_pos (by decide +kernel)]; kernel_rfl) | (rw [if_neg (by decide +kernel)]; exact ⟨rfl, rfl⟩))
    (fun os started H enc _ => lifted os started H enc)
theorem proved : Rows.FnNewBeginQuorumEpochRequestSaid := over
end Go.Proofs.Ytgijjjnbakdbgaa.fnNewBeginQuorumEpochRequest
namespace Go.Proofs.Ytgijjjnbakdbgaa
/-- The row, under a short name, for the claim. -/
theorem fnNewBeginQuorumEpochRequest_holds : Rows.FnNewBeginQuorumEpochRequestSaid := fnNewBeginQuorumEpochRequest.proved
end Go.Proofs.Ytgijjjnbakdbgaa
