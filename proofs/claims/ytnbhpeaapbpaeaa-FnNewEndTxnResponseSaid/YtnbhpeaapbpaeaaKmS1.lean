/- What the small functions of the spec do. -/
import Derived.Test.YtnbhpeaapbpaeaaKmSC
import Derived.Test.YtnbhpeaapbpaeaaKmK4
set_option linter.unusedSimpArgs false
set_option linter.unusedVariables false
namespace Go.Km
open Go Go.RowKit
attribute [local irreducible] vc runOps runG runS runD

section
variable {P : Program} {a : Act} {w : World} {Q : Exit → Act → World → Prop}
/-- A loop that counts down: m rounds remain. -/
theorem vc_count {body : Code} (I : Nat → Act → World → Prop) (n : Nat) (h0 : I n a w) (step : ∀ m a w, I (m + 1) a w → vc P body (Exit.then (I m) Q) a w) (done : ∀ a w, I 0 a w → vc P body (Exit.then (fun _ _ => False) Q) a w) : vc P (.loop body) Q a w := by
  classical
  have hmin : ∀ (p : Nat → Prop) (m : Nat), p m → ∃ k, k ≤ m ∧ p k ∧ ∀ j, j < k → ¬ p j := by
    intro p m
    induction m using Nat.strongRecOn with
    | ind m ih =>
      intro hm
      by_cases h : ∃ j, j < m ∧ p j
      · obtain ⟨j, hj, hp⟩ := h
        obtain ⟨k, hk, hpk, hl⟩ := ih j hj hp
        exact ⟨k, by omega, hpk, hl⟩
      · exact ⟨m, Nat.le_refl _, hm, fun j hj hp => h ⟨j, hj, hp⟩⟩
  let μ : Act → World → Nat := fun a w => if h : ∃ m, I m a w then Classical.choose (hmin (fun m => I m a w) (Classical.choose h) (Classical.choose_spec h)) else 0
  have hμ : ∀ a w, (∃ m, I m a w) → I (μ a w) a w ∧ ∀ j, j < μ a w → ¬ I j a w := by
    intro a w h
    have := Classical.choose_spec (hmin (fun m => I m a w) (Classical.choose h) (Classical.choose_spec h))
    have e : μ a w = Classical.choose (hmin (fun m => I m a w) (Classical.choose h) (Classical.choose_spec h)) := dif_pos h
    rw [e]
    exact ⟨this.2.1, this.2.2⟩
  refine vc_loop (fun a w => ∃ m, I m a w) μ ⟨n, h0⟩ ?_
  intro a w h
  obtain ⟨h1, h2⟩ := hμ a w h
  cases hm : μ a w with
  | zero =>
    rw [hm] at h1
    refine vc_mono _ (done a w h1) ?_
    intro e a' w' h
    cases e <;> first | exact h.elim | exact h
  | succ m =>
    rw [hm] at h1
    refine vc_mono _ (step m a w h1) ?_
    intro e a' w' h
    cases e with
    | normal =>
      refine ⟨⟨m, h⟩, ?_⟩
      have := (hμ a' w' ⟨m, h⟩).2
      rcases Nat.lt_or_ge (μ a' w') (m + 1) with h' | h'
      · exact h'
      · exact absurd h (this m (by omega))
    | _ => exact h
end

theorem be_succ (k : Nat) (n : Int) : be (k + 1) n = o8 (n.fdiv (256 ^ k) % 256) :: be k n := rfl
theorem be_len : ∀ (k : Nat) (n : Int), (be k n).length = k
  | 0, _ => rfl
  | k + 1, n => by rw [be_succ, List.length_cons, be_len k n]
theorem shr_be {j : Nat} (hj : j ≤ 7) (n : Int) : o8 (IntKind.u8.wrap (n.fdiv (2 ^ (min (IntKind.i64.wrap (8 * (j : Int))).toNat IntKind.i64.bits)))) = o8 (n.fdiv (256 ^ j) % 256) := by
  rw [wrap8, wrap_i64 (by omega) (by omega), show (8 * (j : Int)).toNat = 8 * j by omega, show min (8 * j) IntKind.i64.bits = 8 * j by simp only [IntKind.bits]; omega, Int.pow_mul]
  rfl

section
variable {P : Program} {E : Env} {w : World} {U : Nat}

/-- A call that gives new octets. -/
def Gives (P : Program) (E : Env) (F : FuncId) (U : Nat) (args : Array Value) (bs : List UInt8) (w : World) : Prop :=
  CallsV P F args w fun v w' => w'.ownsRow U E.tU8 1 v bs.length (bs.map bv) ∧ Below U w w'

theorem s_fixed (ht : Text P E.sFixed 2 22 #[.tmp 4] (c_sFixed E)) (hB : rowB P E.tBytes E.tU8 1 = true) (i8 : intT P E.tU8 = some .u8) (i64 : intT P E.tI64 = some .i64) (ii : intT P E.tInt = some .i64) {n : Int} {k : Nat} (hk : k ≤ 8) (hU : U ≤ w.heap.size) :
    Gives P E E.sFixed U #[.int .i64 n, .int .i64 k] (be k n) w := by
  refine CallsV.enter ht (by simp) ?_
  intro a hsz hdf harg
  have e0 := harg 0 (.int .i64 n) (by simp)
  have e1 := harg 1 (.int .i64 k) (by simp)
  unfold c_sFixed
  refine vc_sq (vc_rg (by simp) ?_)
  refine r_assign ?_
  refine dn ?_
  refine vc_sq (vc_rg (by simp) ?_)
  refine r_assign ?_
  refine dn ?_
  refine vc_sq (vc_sq (vc_rg (by simp) ?_))
  refine r_move ?_
  refine r_sub (by (try simp (disch := (first | omega | (simp only [sP]; omega))) only [eS, eN, eC, e1]) <;> (first | rfl | assumption)) (by (try simp (disch := (first | omega | (simp only [sP]; omega))) only [eS, eN, eC, e1]) <;> (first | rfl | assumption)) ?_
  refine r_assign ?_
  refine dn ?_
  refine vc_sq (vc_block (vc_count (fun m a' w' => m ≤ k ∧ a'.tmps.size = 22 ∧ a'.defers = [] ∧ a'.eval (.tmp 0) = .int .i64 n ∧ a'.eval (.tmp 6) = .int .i64 ((m : Int) - 1) ∧ U ≤ w'.heap.size ∧ Below U w w' ∧
    ∃ xs : List UInt8, w'.ownsRow U E.tU8 1 (a'.eval (.tmp 5)) xs.length (xs.map bv) ∧ xs ++ be m n = be k n) k ?_ ?_ ?_))
  · refine ⟨Nat.le_refl _, by simp only [size_put]; exact hsz, by simp only [defers_put]; exact hdf, (by simp (disch := (first | omega | (simp only [sP]; omega))) only [eS, eN, eC, e0]), ?_, hU, Below.refl _ _, [], ?_, rfl⟩
    · simp (disch := (first | omega | (simp only [sP]; omega))) only [eS, eN, eC]
      rw [wrap_i64 (by omega) (by omega)]
    · rw [show Act.eval _ (.tmp 5) = Value.slice none 0 0 by simp (disch := (first | omega | (simp only [sP]; omega))) only [eS, eN, eC]]
      exact World.ownsRow_nil _ _ _ _
  · rintro m A W ⟨hm, hs, hd, h0, h6, hUW, hbl, xs, hown, hxs⟩
    refine vc_sq (vc_sq (vc_rg (by simp) ?_))
    refine r_move ?_
    refine r_geq (by (try simp (disch := (first | omega | (simp only [sP]; omega))) only [eS, eN, eC, h6]) <;> (first | rfl | assumption)) (by (try simp (disch := (first | omega | (simp only [sP]; omega))) only [eS, eN, eC, h6]) <;> (first | rfl | assumption)) ?_
    refine dn ?_
    refine vc_sq (vc_cond (t := true) ?_ ?_ (fun h => by cases h))
    · simp (disch := (first | omega | (simp only [sP]; omega))) only [eS, eN, eC]
      simp only [Value.bool.injEq, decide_eq_true_eq]
      omega
    intro _
    refine vc_skip (vc_sq_nil ?_)
    refine vc_sq (vc_block (vc_rg (by simp) ?_))
    have hm1 : (((m + 1 : Nat) : Int) - 1) = (m : Int) := by omega
    rw [hm1] at h6
    refine r_move ?_
    refine r_move ?_
    refine r_move ?_
    refine r_mul (k := .i64) (m := 8) (n := (m : Int)) (eval_const _ _) (by simp (disch := (first | omega | (simp only [sP]; omega))) only [eS, eN, eC, h6]) ?_
    refine r_shr (k := .i64) (m := n) (k' := .i64) (n := IntKind.i64.wrap (8 * (m : Int))) (by simp (disch := (first | omega | (simp only [sP]; omega))) only [eS, eN, eC, h0]) (by simp (disch := (first | omega | (simp only [sP]; omega))) only [eS, eN, eC]) (by rw [wrap_i64 (by omega) (by omega)]; omega) ?_
    refine r_conv (by assumption) (by assumption) (by (try simp (disch := (first | omega | (simp only [sP]; omega))) only [eS, eN, eC]) <;> (first | rfl | assumption)) ?_
    refine r_litApp (U := U) (xs := xs) (zs := [IntKind.u8.wrap (n.fdiv (2 ^ (min (IntKind.i64.wrap (8 * (m : Int))).toNat IntKind.i64.bits)))]) hB ?_ (by intro z hz; simp only [List.mem_cons, List.not_mem_nil, or_false] at hz; rcases hz with rfl; exact wrap8_ok _) rfl (by omega) (by omega) rfl (by omega) (by simp only [size_put]; omega) (v := _) ?_ hUW ?_ ?_
    · simp only [List.map_toArray, List.map_cons, List.map_nil]
      simp (disch := (first | omega | (simp only [sP]; omega))) only [eS, eN, eC]
      rfl
    · simp (disch := (first | omega | (simp only [sP]; omega))) only [eS, eN, eC]
      exact hown
    · have := congrArg List.length hxs
      rw [List.length_append, be_len, be_len] at this
      unfold big
      omega
    intro v' w' h1 h2
    refine r_assign ?_
    refine dn ?_
    refine vc_sq (vc_rg (by simp) ?_)
    refine r_move ?_
    refine r_sub (by (try simp (disch := (first | omega | (simp only [sP]; omega))) only [eS, eN, eC, h6]) <;> (first | rfl | assumption)) (by (try simp (disch := (first | omega | (simp only [sP]; omega))) only [eS, eN, eC, h6]) <;> (first | rfl | assumption)) ?_
    refine r_assign ?_
    refine dn ?_
    refine vc_sq_nil ?_
    rw [List.map_cons, List.map_nil, shr_be (by omega)] at h1
    refine ⟨by omega, by simp only [size_put]; exact hs, by simp only [defers_put]; exact hd, (by simp (disch := (first | omega | (simp only [sP]; omega))) only [eS, eN, eC, h0]), ?_, Nat.le_trans hUW h2.size, hbl.trans h2, xs ++ [o8 (n.fdiv (256 ^ m) % 256)], ?_, ?_⟩
    · simp (disch := (first | omega | (simp only [sP]; omega))) only [eS, eN, eC]
      rw [wrap_i64 (by omega) (by omega)]
    · rw [show Act.eval _ (.tmp 5) = v' by simp (disch := (first | omega | (simp only [sP]; omega))) only [eS, eN, eC]]
      exact h1
    · rw [← hxs, be_succ]
      simp
  · rintro A W ⟨hm, hs, hd, h0, h6, hUW, hbl, xs, hown, hxs⟩
    refine vc_sq (vc_sq (vc_rg (by simp) ?_))
    refine r_move ?_
    refine r_geq (by (try simp (disch := (first | omega | (simp only [sP]; omega))) only [eS, eN, eC, h6]) <;> (first | rfl | assumption)) (by (try simp (disch := (first | omega | (simp only [sP]; omega))) only [eS, eN, eC, h6]) <;> (first | rfl | assumption)) ?_
    refine dn ?_
    refine vc_sq (vc_cond (t := false) (by (try simp (disch := (first | omega | (simp only [sP]; omega))) only [eS, eN, eC]) <;> (first | rfl | assumption)) (fun h => by cases h) ?_)
    intro _
    refine vc_exit ?_
    simp only [Exit.then, Exit.inBlock, if_true]
    refine vc_sq_nil ?_
    refine vc_sq (vc_rg (by simp) ?_)
    refine r_move ?_
    refine r_assign ?_
    refine dn ?_
    refine vc_sq (vc_ret ?_)
    refine ⟨by simp only [defers_put]; exact hd, A.eval (.tmp 5), results_one (by simp (disch := (first | omega | (simp only [sP]; omega))) only [eS, eN, eC]), ?_, hbl⟩
    rw [be, List.append_nil] at hxs
    rw [← hxs]
    exact hown
end
end Go.Km
