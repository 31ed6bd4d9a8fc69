/- A new ShareFetchRequest is written, at every version, as the defaults are: whatever the number that the version is taken from: no condition. -/
import Derived.Test.YtgkjpknmfdmghaaKmEnv
import Derived.WalkKit
import Derived.ProofKit
import Derived.OpenShut
import Derived.ShutString
import Derived.ChangeOld
import Derived.Below
import Derived.SizedLaws
set_option linter.unusedVariables false
set_option linter.unusedSimpArgs false
namespace Go.Proofs.Ytgkjpknmfdmghaa.fnNewShareFetchRequest
open Go Go.Km Go.ChangeShapes Go.WideShapes Go.ChangeAt Go.RowKit
def m : Msg := { TP := 48, TU := 87, FD := 49, flex := some 0, kept := false, fs := (.cons .all .ntext (.cons .all .ntext (.cons .all (.scal .i32 0) (.cons .all (.scal .i32 0) (.cons .all (.scal .i32 0) (.cons .all (.scal .i32 2147483647) (.cons (.ge 1) (.scal .i32 0) (.cons (.ge 1) (.scal .i32 0) (.cons (.ge 2) (.scal .i8 0) (.cons (.ge 2) (.scal .bool 0) (.cons .all (.list 84 none (.struct 90 93 117 (.cons .all .uuid (.cons .all (.list 91 none (.struct 94 97 118 (.cons .all (.scal .i32 0) (.cons (.btw 0 0) (.scal .i32 0) (.cons .all (.list 95 none (.struct 98 101 119 (.cons .all (.scal .i64 0) (.cons .all (.scal .i64 0) (.cons .all (.list 99 none (.scal .i8 0)) (.nil true)))))) (.nil true)))))) (.nil true))))) (.cons .all (.list 85 none (.struct 102 105 120 (.cons .all .uuid (.cons .all (.list 103 none (.scal .i32 0)) (.nil true))))) (.nil true))))))))))))) }
def nn : MN := { newPtr := 21, maxV := 22, setV := 25, app := 26, implMax := 12, implNew := 14, spec := 13, law := 4 }
def l65 : List FE := [((.mk 4 0 (-1) (-1) (-1) 0 0 .nil), none), ((.mk 4 0 (-1) (-1) (-1) 0 0 .nil), none), ((.mk 11 0 (-1) (-1) (-1) 0 1 .nil), none)]
theorem lc65 : LitC Try.prog 65 (toSFs l65) := c_lit_ok (np := 0) sl hrF (tt Try.func65 (by kernel_rfl) rfl (by kernel_rfl) (by decide)) (by decide) (by decide) (by decide) (.none rfl (.none rfl (.none rfl (.nil))))
def l50 : List FE := [((.mk 3 0 (-1) (-1) (-1) 0 0 .nil), none), ((.mk 3 0 0 (-1) (-1) 0 0 .nil), none), ((.mk 11 0 (-1) (-1) (-1) 0 10 (.cons (.mk 4 0 (-1) (-1) (-1) 0 0 .nil) (.cons (.mk 4 0 (-1) (-1) (-1) 0 0 .nil) (.cons (.mk 11 0 (-1) (-1) (-1) 0 1 .nil) .nil)))), some 65)]
theorem lc50 : LitC Try.prog 50 (toSFs l50) := c_lit_ok (np := 0) sl hrF (tt Try.func50 (by kernel_rfl) rfl (by kernel_rfl) (by decide)) (by decide) (by decide) (by decide) (.none rfl (.none rfl (.some lc65 (.nil))))
def l23 : List FE := [((.mk 7 0 (-1) (-1) (-1) 0 0 .nil), none), ((.mk 11 0 (-1) (-1) (-1) 0 10 (.cons (.mk 3 0 (-1) (-1) (-1) 0 0 .nil) (.cons (.mk 3 0 0 (-1) (-1) 0 0 .nil) (.cons (.mk 11 0 (-1) (-1) (-1) 0 10 (.cons (.mk 4 0 (-1) (-1) (-1) 0 0 .nil) (.cons (.mk 4 0 (-1) (-1) (-1) 0 0 .nil) (.cons (.mk 11 0 (-1) (-1) (-1) 0 1 .nil) .nil)))) .nil)))), some 50)]
theorem lc23 : LitC Try.prog 23 (toSFs l23) := c_lit_ok (np := 0) sl hrF (tt Try.func23 (by kernel_rfl) rfl (by kernel_rfl) (by decide)) (by decide) (by decide) (by decide) (.none rfl (.some lc50 (.nil)))
def l24 : List FE := [((.mk 7 0 (-1) (-1) (-1) 0 0 .nil), none), ((.mk 11 0 (-1) (-1) (-1) 0 3 .nil), none)]
theorem lc24 : LitC Try.prog 24 (toSFs l24) := c_lit_ok (np := 0) sl hrF (tt Try.func24 (by kernel_rfl) rfl (by kernel_rfl) (by decide)) (by decide) (by decide) (by decide) (.none rfl (.none rfl (.nil)))
def l0 : List FE := [((.mk 8 0 (-1) 0 (-1) 0 0 .nil), none), ((.mk 8 0 (-1) 0 (-1) 0 0 .nil), none), ((.mk 3 0 (-1) (-1) (-1) 0 0 .nil), none), ((.mk 3 0 (-1) (-1) (-1) 0 0 .nil), none), ((.mk 3 0 (-1) (-1) (-1) 0 0 .nil), none), ((.mk 3 0 (-1) (-1) (-1) 2147483647 0 .nil), none), ((.mk 3 1 (-1) (-1) (-1) 0 0 .nil), none), ((.mk 3 1 (-1) (-1) (-1) 0 0 .nil), none), ((.mk 1 2 (-1) (-1) (-1) 0 0 .nil), none), ((.mk 0 2 (-1) (-1) (-1) 0 0 .nil), none), ((.mk 11 0 (-1) (-1) (-1) 0 10 (.cons (.mk 7 0 (-1) (-1) (-1) 0 0 .nil) (.cons (.mk 11 0 (-1) (-1) (-1) 0 10 (.cons (.mk 3 0 (-1) (-1) (-1) 0 0 .nil) (.cons (.mk 3 0 0 (-1) (-1) 0 0 .nil) (.cons (.mk 11 0 (-1) (-1) (-1) 0 10 (.cons (.mk 4 0 (-1) (-1) (-1) 0 0 .nil) (.cons (.mk 4 0 (-1) (-1) (-1) 0 0 .nil) (.cons (.mk 11 0 (-1) (-1) (-1) 0 1 .nil) .nil)))) .nil)))) .nil))), some 23), ((.mk 11 0 (-1) (-1) (-1) 0 10 (.cons (.mk 7 0 (-1) (-1) (-1) 0 0 .nil) (.cons (.mk 11 0 (-1) (-1) (-1) 0 3 .nil) .nil))), some 24)]
theorem sp : SpecC Try.prog nn.spec (toSFs l0) 0 := c_spec_ok (np := 0) sl hrF hM (tt Try.func13 (by kernel_rfl) rfl (by kernel_rfl) (by decide)) (by decide) (by decide) (by decide) (.none rfl (.none rfl (.none rfl (.none rfl (.none rfl (.none rfl (.none rfl (.none rfl (.none rfl (.none rfl (.some lc23 (.some lc24 (.nil)))))))))))))
theorem nw : NewC Try.prog nn.newPtr m := c_newPtr_ok (E := E) (np := 0) (npd := 1) (tt Try.func21 (by kernel_rfl) rfl (by kernel_rfl) (by decide)) (by decide) (tt Try.func49 (by kernel_rfl) rfl (by kernel_rfl) (by decide)) (by decide) (by kernel_rfl) (by kernel_rfl)
theorem im (w : World) : CallsV Try.prog nn.implMax #[] w fun v w' => v = .int .i64 (2 : Nat) ∧ Below w.heap.size w w' := c_implMax_ok (E := E) (N := nn) (m := m) (np := 0) (mx := 2) i16k ik (tt Try.func12 (by kernel_rfl) rfl (by kernel_rfl) (by decide)) (by decide) nw (fun x w => c_maxV_ok (E := E) (np := 1) (mx := 2) (tt Try.func22 (by kernel_rfl) rfl (by kernel_rfl) (by decide)) (by decide) x w) (by decide) w
theorem pure_law : pureB (toSFs l0) 0 m 2 = true := by kernel_rfl
theorem inw (ver : Nat) (h : ver ≤ 2) (w : World) : CallsV Try.prog nn.implNew #[.int .i64 ver] w fun v w' => w'.ownsRow w.heap.size E.tU8 1 v (m.wfs.wr (m.isFlex ver) ver m.wfs.dflt []).length ((m.wfs.wr (m.isFlex ver) ver m.wfs.dflt []).map bv) ∧ Below w.heap.size w w' := c_implNew_ok (E := E) (m := m) (N := nn) (np := 1) (nps := 2) (npa := 2) ew ei i16k ik o16 (tt Try.func14 (by kernel_rfl) rfl (by kernel_rfl) (by decide)) (by decide) nw (tt Try.func25 (by kernel_rfl) rfl (by kernel_rfl) (by decide)) (by decide) (by kernel_rfl) (tt Try.func26 (by kernel_rfl) rfl (by kernel_rfl) (by decide)) (of_decide_eq_true (by kernel_rfl)) (by kernel_rfl) rfl (by kernel_rfl) (ver := ver) (by omega) (pureB_big pure_law ver h) w
theorem walk {n : Nat} (hn : n < 256) (w : World) : CallsV Try.prog nn.law #[.int .u8 n] w fun v w' => v = .bool true ∧ Below w.heap.size w w' := c_lawNew_ok (E := E) (bs := fun ver => m.wfs.wr (m.isFlex ver) ver m.wfs.dflt []) (N := nn) (np := 1) (mx := 2) (fs := toSFs l0) (flex := 0) se sl st hz8 hL3 hoM hM lv (tt Try.func4 (by kernel_rfl) rfl (by kernel_rfl) (by decide)) (by decide) im (by decide) sp (by kernel_rfl) (by decide) inw (pureB_eq pure_law) (pureB_big pure_law) hn w
set_option maxRecDepth 100000 in
theorem lifted (os : Os) (started : os.Started) (H : Type) (enc : TypeId × Value → H) :
    ReturnsInHanded {} Try.checked os 4 .any (Rows.fnNewShareFetchRequestSpec.pre6 enc Try.prog Try.f4 Rows.fnNewShareFetchRequestRow.domain false) (Rows.fnNewShareFetchRequestSpec.post enc Try.prog Try.f4 false true false false) := by
  refine returnsInHanded_of_change_sized (C := Try.checked) own started (by kernel_rfl) Try.func4
    (ChangeSpec.witness6 (enc := enc) (C := Try.checked) false ⟨#[], #[.int .u8 0], []⟩ 8 (by kernel_rfl) (by kernel_rfl) (by kernel_rfl) (by kernel_rfl)) ?_
  intro W base args ds gs before hval0 hW hcnd hsz0 _
  have hval : ∀ (j : Nat) t v, Try.f4.params[j]? = some t → args[j]? = some v → Value.okWide Try.prog W .any base t v := hval0
  have hW' := hW
  obtain ⟨p, q, hA0, hV, rfl, hfz, hnd⟩ := hW
  have hA : DataW.TrodAll enc Try.prog W 0 (fun _ => true) true Try.f4.params.toList args.toList ds p := hA0
  rw [Try.params4] at hA hval
  obtain ⟨v0, d0, rfl, rfl, h0⟩ := trodAll_one hA
  obtain ⟨rfl, rfl⟩ := trodVars_none hV
  obtain ⟨a, rfl, rfl, rfl, wa⟩ := open_int Try.underlying5 (hval 0 5 v0 rfl rfl) h0
  clear hA0 hval0 hsz0
  obtain ⟨n, rfl, hn⟩ : ∃ n : Nat, a = (n : Int) ∧ n < 256 := u8_nat wa
  refine (walk hn W).2.mono fun e W' ⟨v, he, hv, bel⟩ => ?_
  subst he; subst hv
  exact ⟨_, rfl, _, _, _, [], _, [], hW', trodAll_mk1 (shut_bool Try.underlying4 _), trodAll_mk1 (shut_int Try.underlying5 wa), rfl, bel.frame _, fun h => by cases h⟩
theorem facts : joinedFacts Try.prog 4 Try.f4 Rows.fnNewShareFetchRequestSpec Rows.fnNewShareFetchRequestRow = true := by
  unfold joinedFacts
  rw [lf, me]
  kernel_rfl
theorem over : Rows.fnNewShareFetchRequestRow.holds Try.pinned (OpenSpec.ofChange Rows.fnNewShareFetchRequestSpec) :=
  OpenClaim.holds_of_wide 4 Try.f4 rfl rfl rfl rfl rfl rfl rfl ⟨rfl, rfl, rfl, rfl, rfl⟩ rfl rfl rfl rfl rfl (by kernel_rfl) Try.func4 facts
    (of_decide_eq_true (by kernel_rfl)) (by unfold Func.isWrapper; first | (rw [if_pos (by decide +kernel)]; kernel_rfl) | (rw [if_neg (by decide +kernel)]; exact ⟨rfl, rfl⟩))
    (fun os started H enc _ => lifted os started H enc)
theorem proved : Rows.FnNewShareFetchRequestSaid := over
end Go.Proofs.Ytgkjpknmfdmghaa.fnNewShareFetchRequest
namespace Go.Proofs.Ytgkjpknmfdmghaa
/-- The row, under a short name, for the claim. -/
theorem fnNewShareFetchRequest_holds : Rows.FnNewShareFetchRequestSaid := fnNewShareFetchRequest.proved
end Go.Proofs.Ytgkjpknmfdmghaa
