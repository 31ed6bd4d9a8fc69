/- A new OffsetCommitRequest is written, at every version, as the defaults are: whatever the number that the version is taken from: no condition. -/
import Derived.Test.YtgkjpknmfdmghaaKmEnv
import Derived.WalkKit
import Derived.ProofKit
import Derived.OpenShut
import Derived.ShutString
import Derived.ChangeOld
import Derived.Below
import Derived.SizedLaws
set_option linter.unusedVariables false
set_option linter.unusedSimpArgs false
namespace Go.Proofs.Ytgkjpknmfdmghaa.fnNewOffsetCommitRequest
open Go Go.Km Go.ChangeShapes Go.WideShapes Go.ChangeAt Go.RowKit
def m : Msg := { TP := 39, TU := 56, FD := 27, flex := some 8, kept := false, fs := (.cons .all .text (.cons (.ge 1) (.scal .i32 (-1)) (.cons (.ge 1) .text (.cons (.ge 7) .ntext (.cons (.btw 2 4) (.scal .i64 (-1)) (.cons .all (.list 51 none (.struct 62 66 115 (.cons (.btw 0 9) .text (.cons (.ge 10) .uuid (.cons .all (.list 64 none (.struct 68 70 116 (.cons .all (.scal .i32 0) (.cons .all (.scal .i64 0) (.cons (.btw 1 1) (.scal .i64 (-1)) (.cons (.ge 6) (.scal .i32 (-1)) (.cons .all .ntext (.nil true)))))))) (.nil true)))))) (.nil true))))))) }
def nn : MN := { newPtr := 15, maxV := 16, setV := 18, app := 19, implMax := 5, implNew := 8, spec := 6, law := 3 }
def l28 : List FE := [((.mk 3 0 (-1) (-1) (-1) 0 0 .nil), none), ((.mk 4 0 (-1) (-1) (-1) 0 0 .nil), none), ((.mk 4 1 1 (-1) (-1) (-1) 0 .nil), none), ((.mk 3 6 (-1) (-1) (-1) (-1) 0 .nil), none), ((.mk 8 0 (-1) 0 (-1) 0 0 .nil), none)]
theorem lc28 : LitC Try.prog 28 (toSFs l28) := c_lit_ok (np := 0) sl hrF (tt Try.func28 (by kernel_rfl) rfl (by kernel_rfl) (by decide)) (by decide) (by decide) (by decide) (.none rfl (.none rfl (.none rfl (.none rfl (.none rfl (.nil))))))
def l17 : List FE := [((.mk 8 0 9 (-1) (-1) 0 0 .nil), none), ((.mk 7 10 (-1) (-1) (-1) 0 0 .nil), none), ((.mk 11 0 (-1) (-1) (-1) 0 10 (.cons (.mk 3 0 (-1) (-1) (-1) 0 0 .nil) (.cons (.mk 4 0 (-1) (-1) (-1) 0 0 .nil) (.cons (.mk 4 1 1 (-1) (-1) (-1) 0 .nil) (.cons (.mk 3 6 (-1) (-1) (-1) (-1) 0 .nil) (.cons (.mk 8 0 (-1) 0 (-1) 0 0 .nil) .nil)))))), some 28)]
theorem lc17 : LitC Try.prog 17 (toSFs l17) := c_lit_ok (np := 0) sl hrF (tt Try.func17 (by kernel_rfl) rfl (by kernel_rfl) (by decide)) (by decide) (by decide) (by decide) (.none rfl (.none rfl (.some lc28 (.nil))))
def l0 : List FE := [((.mk 8 0 (-1) (-1) (-1) 0 0 .nil), none), ((.mk 3 1 (-1) (-1) (-1) (-1) 0 .nil), none), ((.mk 8 1 (-1) (-1) (-1) 0 0 .nil), none), ((.mk 8 7 (-1) 7 (-1) 0 0 .nil), none), ((.mk 4 2 4 (-1) (-1) (-1) 0 .nil), none), ((.mk 11 0 (-1) (-1) (-1) 0 10 (.cons (.mk 8 0 9 (-1) (-1) 0 0 .nil) (.cons (.mk 7 10 (-1) (-1) (-1) 0 0 .nil) (.cons (.mk 11 0 (-1) (-1) (-1) 0 10 (.cons (.mk 3 0 (-1) (-1) (-1) 0 0 .nil) (.cons (.mk 4 0 (-1) (-1) (-1) 0 0 .nil) (.cons (.mk 4 1 1 (-1) (-1) (-1) 0 .nil) (.cons (.mk 3 6 (-1) (-1) (-1) (-1) 0 .nil) (.cons (.mk 8 0 (-1) 0 (-1) 0 0 .nil) .nil)))))) .nil)))), some 17)]
theorem sp : SpecC Try.prog nn.spec (toSFs l0) 8 := c_spec_ok (np := 0) sl hrF hM (tt Try.func6 (by kernel_rfl) rfl (by kernel_rfl) (by decide)) (by decide) (by decide) (by decide) (.none rfl (.none rfl (.none rfl (.none rfl (.none rfl (.some lc17 (.nil)))))))
theorem nw : NewC Try.prog nn.newPtr m := c_newPtr_ok (E := E) (np := 0) (npd := 1) (tt Try.func15 (by kernel_rfl) rfl (by kernel_rfl) (by decide)) (by decide) (tt Try.func27 (by kernel_rfl) rfl (by kernel_rfl) (by decide)) (by decide) (by kernel_rfl) (by kernel_rfl)
theorem im (w : World) : CallsV Try.prog nn.implMax #[] w fun v w' => v = .int .i64 (10 : Nat) ∧ Below w.heap.size w w' := c_implMax_ok (E := E) (N := nn) (m := m) (np := 0) (mx := 10) i16k ik (tt Try.func5 (by kernel_rfl) rfl (by kernel_rfl) (by decide)) (by decide) nw (fun x w => c_maxV_ok (E := E) (np := 1) (mx := 10) (tt Try.func16 (by kernel_rfl) rfl (by kernel_rfl) (by decide)) (by decide) x w) (by decide) w
theorem pure_law : pureB (toSFs l0) 8 m 10 = true := by kernel_rfl
theorem inw (ver : Nat) (h : ver ≤ 10) (w : World) : CallsV Try.prog nn.implNew #[.int .i64 ver] w fun v w' => w'.ownsRow w.heap.size E.tU8 1 v (m.wfs.wr (m.isFlex ver) ver m.wfs.dflt []).length ((m.wfs.wr (m.isFlex ver) ver m.wfs.dflt []).map bv) ∧ Below w.heap.size w w' := c_implNew_ok (E := E) (m := m) (N := nn) (np := 1) (nps := 2) (npa := 2) ew ei i16k ik o16 (tt Try.func8 (by kernel_rfl) rfl (by kernel_rfl) (by decide)) (by decide) nw (tt Try.func18 (by kernel_rfl) rfl (by kernel_rfl) (by decide)) (by decide) (by kernel_rfl) (tt Try.func19 (by kernel_rfl) rfl (by kernel_rfl) (by decide)) (of_decide_eq_true (by kernel_rfl)) (by kernel_rfl) rfl (by kernel_rfl) (ver := ver) (by omega) (pureB_big pure_law ver h) w
theorem walk {n : Nat} (hn : n < 256) (w : World) : CallsV Try.prog nn.law #[.int .u8 n] w fun v w' => v = .bool true ∧ Below w.heap.size w w' := c_lawNew_ok (E := E) (bs := fun ver => m.wfs.wr (m.isFlex ver) ver m.wfs.dflt []) (N := nn) (np := 1) (mx := 10) (fs := toSFs l0) (flex := 8) se sl st hz8 hL3 hoM hM lv (tt Try.func3 (by kernel_rfl) rfl (by kernel_rfl) (by decide)) (by decide) im (by decide) sp (by kernel_rfl) (by decide) inw (pureB_eq pure_law) (pureB_big pure_law) hn w
set_option maxRecDepth 100000 in
theorem lifted (os : Os) (started : os.Started) (H : Type) (enc : TypeId × Value → H) :
    ReturnsInHanded {} Try.checked os 3 .any (Rows.fnNewOffsetCommitRequestSpec.pre6 enc Try.prog Try.f3 Rows.fnNewOffsetCommitRequestRow.domain false) (Rows.fnNewOffsetCommitRequestSpec.post enc Try.prog Try.f3 false true false false) := by
  refine returnsInHanded_of_change_sized (C := Try.checked) own started (by kernel_rfl) Try.func3
    (ChangeSpec.witness6 (enc := enc) (C := Try.checked) false ⟨#[], #[.int .u8 0], []⟩ 8 (by kernel_rfl) (by kernel_rfl) (by kernel_rfl) (by kernel_rfl)) ?_
  intro W base args ds gs before hval0 hW hcnd hsz0 _
  have hval : ∀ (j : Nat) t v, Try.f3.params[j]? = some t → args[j]? = some v → Value.okWide Try.prog W .any base t v := hval0
  have hW' := hW
  obtain ⟨p, q, hA0, hV, rfl, hfz, hnd⟩ := hW
  have hA : DataW.TrodAll enc Try.prog W 0 (fun _ => true) true Try.f3.params.toList args.toList ds p := hA0
  rw [Try.params3] at hA hval
  obtain ⟨v0, d0, rfl, rfl, h0⟩ := trodAll_one hA
  obtain ⟨rfl, rfl⟩ := trodVars_none hV
  obtain ⟨a, rfl, rfl, rfl, wa⟩ := open_int Try.underlying5 (hval 0 5 v0 rfl rfl) h0
  clear hA0 hval0 hsz0
  obtain ⟨n, rfl, hn⟩ : ∃ n : Nat, a = (n : Int) ∧ n < 256 := u8_nat wa
  refine (walk hn W).2.mono fun e W' ⟨v, he, hv, bel⟩ => ?_
  subst he; subst hv
  exact ⟨_, rfl, _, _, _, [], _, [], hW', trodAll_mk1 (shut_bool Try.underlying4 _), trodAll_mk1 (shut_int Try.underlying5 wa), rfl, bel.frame _, fun h => by cases h⟩
theorem facts : joinedFacts Try.prog 3 Try.f3 Rows.fnNewOffsetCommitRequestSpec Rows.fnNewOffsetCommitRequestRow = true := by
  unfold joinedFacts
  rw [lf, me]
  kernel_rfl
theorem over : Rows.fnNewOffsetCommitRequestRow.holds Try.pinned (OpenSpec.ofChange Rows.fnNewOffsetCommitRequestSpec) :=
  OpenClaim.holds_of_wide 3 Try.f3 rfl rfl rfl rfl rfl rfl rfl ⟨rfl, rfl, rfl, rfl, rfl⟩ rfl rfl rfl rfl rfl (by kernel_rfl) Try.func3 facts
    (of_decide_eq_true (by kernel_rfl)) (by unfold Func.isWrapper; first | (rw [if_pos (by decide +kernel)]; kernel_rfl) | (rw [if_neg (by decide +kernel)]; exact ⟨rfl, rfl⟩))
    (fun os started H enc _ => lifted os started H enc)
theorem proved : Rows.FnNewOffsetCommitRequestSaid := over
end Go.Proofs.Ytgkjpknmfdmghaa.fnNewOffsetCommitRequest
namespace Go.Proofs.Ytgkjpknmfdmghaa
/-- The row, under a short name, for the claim. -/
theorem fnNewOffsetCommitRequest_holds : Rows.FnNewOffsetCommitRequestSaid := fnNewOffsetCommitRequest.proved
end Go.Proofs.Ytgkjpknmfdmghaa
