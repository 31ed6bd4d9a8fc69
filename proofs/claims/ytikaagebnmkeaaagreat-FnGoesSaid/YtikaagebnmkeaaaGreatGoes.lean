/- Known, and what a request goes to, are what the documentation says: whatever the key: no condition. -/
import Derived.Test.YtikaagebnmkeaaaGreatGo0
import Derived.Test.YtikaagebnmkeaaaGreatGo1
import Derived.Test.YtikaagebnmkeaaaGreatGo2
import Derived.Test.YtikaagebnmkeaaaGreatGo3
import Derived.Test.YtikaagebnmkeaaaGreatGoG
import Derived.WalkKit
import Derived.ProofKit
import Derived.OpenShut
import Derived.ShutString
import Derived.ChangeOld
import Derived.Below
import Derived.SizedLaws
set_option linter.unusedVariables false
set_option linter.unusedSimpArgs false
set_option maxRecDepth 100000
namespace Go.Proofs.YtikaagebnmkeaaaGreat.fnGoes
open Go Go.Km Go.ChangeShapes Go.WideShapes Go.ChangeAt Go.RowKit
theorem gAll (key : Int) (h0 : 0 ≤ key) (h1 : key ≤ 94) : ∃ p, Goer Tryz.prog Z ks ad gr tx_ sh key p := by
  obtain ⟨n, rfl⟩ : ∃ n : Nat, key = n := ⟨key.toNat, by omega⟩
  have hn : n < 95 := by omega
  clear h0 h1
  match n, hn with
  | 0, _ => exact ⟨_, g0⟩
  | 1, _ => exact ⟨_, g1⟩
  | 2, _ => exact ⟨_, g2⟩
  | 3, _ => exact ⟨_, g3⟩
  | 4, _ => exact ⟨_, g4⟩
  | 5, _ => exact ⟨_, g5⟩
  | 6, _ => exact ⟨_, g6⟩
  | 7, _ => exact ⟨_, g7⟩
  | 8, _ => exact ⟨_, g8⟩
  | 9, _ => exact ⟨_, g9⟩
  | 10, _ => exact ⟨_, g10⟩
  | 11, _ => exact ⟨_, g11⟩
  | 12, _ => exact ⟨_, g12⟩
  | 13, _ => exact ⟨_, g13⟩
  | 14, _ => exact ⟨_, g14⟩
  | 15, _ => exact ⟨_, g15⟩
  | 16, _ => exact ⟨_, g16⟩
  | 17, _ => exact ⟨_, g17⟩
  | 18, _ => exact ⟨_, g18⟩
  | 19, _ => exact ⟨_, g19⟩
  | 20, _ => exact ⟨_, g20⟩
  | 21, _ => exact ⟨_, g21⟩
  | 22, _ => exact ⟨_, g22⟩
  | 23, _ => exact ⟨_, g23⟩
  | 24, _ => exact ⟨_, g24⟩
  | 25, _ => exact ⟨_, g25⟩
  | 26, _ => exact ⟨_, g26⟩
  | 27, _ => exact ⟨_, g27⟩
  | 28, _ => exact ⟨_, g28⟩
  | 29, _ => exact ⟨_, g29⟩
  | 30, _ => exact ⟨_, g30⟩
  | 31, _ => exact ⟨_, g31⟩
  | 32, _ => exact ⟨_, g32⟩
  | 33, _ => exact ⟨_, g33⟩
  | 34, _ => exact ⟨_, g34⟩
  | 35, _ => exact ⟨_, g35⟩
  | 36, _ => exact ⟨_, g36⟩
  | 37, _ => exact ⟨_, g37⟩
  | 38, _ => exact ⟨_, g38⟩
  | 39, _ => exact ⟨_, g39⟩
  | 40, _ => exact ⟨_, g40⟩
  | 41, _ => exact ⟨_, g41⟩
  | 42, _ => exact ⟨_, g42⟩
  | 43, _ => exact ⟨_, g43⟩
  | 44, _ => exact ⟨_, g44⟩
  | 45, _ => exact ⟨_, g45⟩
  | 46, _ => exact ⟨_, g46⟩
  | 47, _ => exact ⟨_, g47⟩
  | 48, _ => exact ⟨_, g48⟩
  | 49, _ => exact ⟨_, g49⟩
  | 50, _ => exact ⟨_, g50⟩
  | 51, _ => exact ⟨_, g51⟩
  | 52, _ => exact ⟨_, g52⟩
  | 53, _ => exact ⟨_, g53⟩
  | 54, _ => exact ⟨_, g54⟩
  | 55, _ => exact ⟨_, g55⟩
  | 56, _ => exact ⟨_, g56⟩
  | 57, _ => exact ⟨_, g57⟩
  | 58, _ => exact ⟨_, g58⟩
  | 59, _ => exact ⟨_, g59⟩
  | 60, _ => exact ⟨_, g60⟩
  | 61, _ => exact ⟨_, g61⟩
  | 62, _ => exact ⟨_, g62⟩
  | 63, _ => exact ⟨_, g63⟩
  | 64, _ => exact ⟨_, g64⟩
  | 65, _ => exact ⟨_, g65⟩
  | 66, _ => exact ⟨_, g66⟩
  | 67, _ => exact ⟨_, g67⟩
  | 68, _ => exact ⟨_, g68⟩
  | 69, _ => exact ⟨_, g69⟩
  | 70, _ => exact ⟨_, g70⟩
  | 71, _ => exact ⟨_, g71⟩
  | 72, _ => exact ⟨_, g72⟩
  | 73, _ => exact ⟨_, g73⟩
  | 74, _ => exact ⟨_, g74⟩
  | 75, _ => exact ⟨_, g75⟩
  | 76, _ => exact ⟨_, g76⟩
  | 77, _ => exact ⟨_, g77⟩
  | 78, _ => exact ⟨_, g78⟩
  | 79, _ => exact ⟨_, g79⟩
  | 80, _ => exact ⟨_, g80⟩
  | 81, _ => exact ⟨_, g81⟩
  | 82, _ => exact ⟨_, g82⟩
  | 83, _ => exact ⟨_, g83⟩
  | 84, _ => exact ⟨_, g84⟩
  | 85, _ => exact ⟨_, g85⟩
  | 86, _ => exact ⟨_, g86⟩
  | 87, _ => exact ⟨_, g87⟩
  | 88, _ => exact ⟨_, g88⟩
  | 89, _ => exact ⟨_, g89⟩
  | 90, _ => exact ⟨_, g90⟩
  | 91, _ => exact ⟨_, g91⟩
  | 92, _ => exact ⟨_, g92⟩
  | 93, _ => exact ⟨_, g93⟩
  | 94, _ => exact ⟨_, g94⟩
  | n + 95, h => exact absurd h (by omega)
theorem walk (x : Int) (w : World) : CallsV Tryz.prog 3 #[.int .i16 x] w fun v w' => v = .bool true ∧ Below w.heap.size w w' := c_lawGoes_ok gt gAll (tu Tryz.func3) x w
theorem own : ownKnob Tryz.prog.godebug = none := by kernel_rfl
set_option maxRecDepth 100000 in
theorem lifted (os : Os) (started : os.Started) (H : Type) (enc : TypeId × Value → H) :
    ReturnsInHanded {} Tryz.checked os 3 .any (Rows.fnGoesSpec.pre6 enc Tryz.prog Tryz.f3 Rows.fnGoesRow.domain false) (Rows.fnGoesSpec.post enc Tryz.prog Tryz.f3 false true false false) := by
  refine returnsInHanded_of_change_sized (C := Tryz.checked) own started (by kernel_rfl) Tryz.func3
    (ChangeSpec.witness6 (enc := enc) (C := Tryz.checked) false ⟨#[], #[.int .i16 0], []⟩ 8 (by kernel_rfl) (by kernel_rfl) (by kernel_rfl) (by kernel_rfl)) ?_
  intro W base args ds gs before hval0 hW hcnd hsz0 _
  have hval : ∀ (j : Nat) t v, Tryz.f3.params[j]? = some t → args[j]? = some v → Value.okWide Tryz.prog W .any base t v := hval0
  have hW' := hW
  obtain ⟨p, q, hA0, hV, rfl, hfz, hnd⟩ := hW
  have hA : DataW.TrodAll enc Tryz.prog W 0 (fun _ => true) true Tryz.f3.params.toList args.toList ds p := hA0
  rw [Tryz.params3] at hA hval
  obtain ⟨v0, d0, rfl, rfl, h0⟩ := trodAll_one hA
  obtain ⟨rfl, rfl⟩ := trodVars_none hV
  obtain ⟨a, rfl, rfl, rfl, wa⟩ := open_int Tryz.underlying22 (hval 0 22 v0 rfl rfl) h0
  clear hA0 hval0 hsz0
  refine (walk a W).2.mono fun e W' ⟨v, he, hv, bel⟩ => ?_
  subst he; subst hv
  exact ⟨_, rfl, _, _, _, [], _, [], hW', trodAll_mk1 (shut_bool Tryz.underlying4 _), trodAll_mk1 (shut_int Tryz.underlying22 wa), rfl, bel.frame _, fun h => by cases h⟩
theorem over : Rows.fnGoesRow.holds Tryz.pinned (OpenSpec.ofChange Rows.fnGoesSpec) :=
  OpenClaim.holds_of_wide 3 Tryz.f3 rfl rfl rfl rfl rfl rfl rfl ⟨rfl, rfl, rfl, rfl, rfl⟩ rfl rfl rfl rfl rfl (show Tryz.pinned.checked.prog.funcNamed Rows.fnGoesRow.func = some 3 from fnm) Tryz.func3 facts
    (of_decide_eq_true (by kernel_rfl)) (by unfold Func.isWrapper; first | (rw [if_pos (by decide +kernel)]; kernel_rfl) | (rw [if_neg (by decide +kernel)]; exact ⟨rfl, rfl⟩))
    (fun os started H enc _ => lifted os started H enc)
theorem proved : Rows.FnGoesSaid := over
end Go.Proofs.YtikaagebnmkeaaaGreat.fnGoes
namespace Go.Proofs.YtikaagebnmkeaaaGreat
/-- The row, under a short name, for the claim. -/
theorem fnGoes_holds : Rows.FnGoesSaid := fnGoes.proved
end Go.Proofs.YtikaagebnmkeaaaGreat
