/- spec.Write -/
import Derived.Test.YtnbhpeaapbpaeaaKmS13
set_option linter.unusedSimpArgs false
set_option linter.unusedVariables false
namespace Go.Km
open Go Go.RowKit
attribute [local irreducible] vc runOps runG runS runD

section
variable {P : Program} {E : Env} {w : World} {U : Nat}
theorem s_write (H : SEnv P E) (HL : SLay P E) (HT : STexts P E) (hoM : offs P E.tMsg 2 = true) {fs : SFs} {sv : Value} {flex ver : Int} {t : Tr} {ts : List Value} (hsf : SlF w U sv fs) (hr : t.Rep w U ts) (hU : U ≤ w.heap.size)
    (hp : PartC P E ver (decide (flex ≥ 0) && decide (ver ≥ flex)) fs) (hbig : (fs.part ver (decide (flex ≥ 0) && decide (ver ≥ flex)) t).length ≤ big) :
    Gives P E E.sWrite U #[.agg [sv, .int .i64 flex].toArray, .int .i64 ver, .agg ts.toArray] (fs.part ver (decide (flex ≥ 0) && decide (ver ≥ flex)) t) w := by
  refine CallsV.enter HT.write (by simp) ?_
  intro a hsz hdf harg
  have e0 := harg 0 (.agg [sv, .int .i64 flex].toArray) (by simp)
  have e1 := harg 1 (.int .i64 ver) (by simp)
  have e2 := harg 2 (.agg ts.toArray) (by simp)
  unfold c_sWrite
  refine vc_sq (vc_rg (by simp) ?_)
  refine r_box (v := .agg [sv, .int .i64 flex].toArray) (by simp (disch := (first | omega | (simp only [sP]; omega))) only [eS, eN, eC, e0]) ?_
  refine r_box (v := .agg ts.toArray) (by simp (disch := (first | omega | (simp only [sP]; omega))) only [eS, eN, eC, e2]) ?_
  refine r_assign ?_
  refine dn ?_
  generalize hw1 : w.alloc (.cells (Value.agg [sv, .int .i64 flex].toArray).cells E.tMsg) = w1
  have hb1 : Below U w w1 := by rw [← hw1]; exact (Below.refl U w).alloc (o := .cells _ _) hU
  have hz1 : w1.heap.size = w.heap.size + 1 := by rw [← hw1]; simp
  have c1 : Cells w1 w.heap.size 0 [sv, .int .i64 flex] := by
    intro i v hv
    rw [← hw1, Nat.zero_add]
    exact cells_new w _ E.tMsg (by simpa [Value.cells] using hv)
  clear hw1
  generalize hw2 : w1.alloc (.cells (Value.agg ts.toArray).cells E.tTree) = W
  have hb2 : Below U w W := by rw [← hw2]; exact hb1.trans ((Below.refl U w1).alloc (o := .cells _ _) (by omega))
  have d1 : Cells W w.heap.size 0 [sv, .int .i64 flex] := by rw [← hw2]; exact c1.eff (Eff.refl (fun _ _ => False) w1 |>.alloc _) (fun _ _ h => h)
  have d2 : Cells W w1.heap.size 0 ts := by
    intro i v hv
    rw [← hw2, Nat.zero_add]
    exact cells_new w1 _ E.tTree (by simpa [Value.cells] using hv)
  clear hw2
  have k0 : W.cell? ⟨w.heap.size, 0 + 0, none⟩ = some sv := d1 0 sv rfl
  have k1 : W.cell? ⟨w.heap.size, 0 + 1, none⟩ = some (.int .i64 flex) := d1 1 _ rfl
  have hUW : U ≤ W.heap.size := Nat.le_trans hU hb2.size
  refine vc_sq (vc_rgS [0, 1, 2, 3, 4, 5, 6, 7, 8, 9, 10, 11, 12, 13, 14] rfl ?_)
  refine runS_do rfl (wants_none rfl) (r_field (b := w.heap.size) (o := 0) (by simp (disch := (first | omega | (simp only [sP]; omega))) only [eS, eN, eC]) (offs_inv hoM (by decide)) (dn (runS_then ?_)))
  refine runS_do rfl (wants_none rfl) (r_load (b := w.heap.size) (o := 0 + 0) (by simp (disch := (first | omega | (simp only [sP]; omega))) only [eS, eN, eC]) H.oFlds k0 (dn (runS_then ?_)))
  (refine runS_do rfl (wants_none rfl) ?_; refine r_move ?_; refine dn (runS_then ?_))
  refine runS_do rfl (wants_none rfl) (r_field (b := w.heap.size) (o := 0) (by simp (disch := (first | omega | (simp only [sP]; omega))) only [eS, eN, eC]) (offs_inv hoM (by decide)) (dn (runS_then ?_)))
  refine runS_do rfl (wants_none rfl) (r_load (b := w.heap.size) (o := 0 + 1) (by simp (disch := (first | omega | (simp only [sP]; omega))) only [eS, eN, eC]) H.oInt k1 (dn (runS_then ?_)))
  refine runS_do rfl (wants_none rfl) (r_geq (k := .i64) (m := flex) (n := 0) (by simp (disch := (first | omega | (simp only [sP]; omega))) only [eS, eN, eC]) rfl (dn (runS_then ?_)))
  (refine runS_do rfl (wants_none rfl) ?_; refine r_move ?_; refine dn (runS_then ?_))
  by_cases h0 : flex ≥ 0
  · have g0 : decide (flex ≥ 0) = true := by simpa using h0
    rw [g0, Bool.true_and] at hp hbig ⊢
    (refine runS_do rfl (by rw [wants_some (b := true) rfl rfl (by (try simp (disch := (first | omega | (simp only [sP]; omega))) only [eS, eN, eC]) <;> (first | rfl | assumption))]; rfl) ?_; refine r_move ?_; refine dn (runS_then ?_))
    refine runS_do rfl (by rw [wants_some (b := true) rfl rfl (by (try simp (disch := (first | omega | (simp only [sP]; omega))) only [eS, eN, eC]) <;> (first | rfl | assumption))]; rfl) (r_field (b := w.heap.size) (o := 0) (by simp (disch := (first | omega | (simp only [sP]; omega))) only [eS, eN, eC]) (offs_inv hoM (by decide)) (dn (runS_then ?_)))
    refine runS_do rfl (by rw [wants_some (b := true) rfl rfl (by (try simp (disch := (first | omega | (simp only [sP]; omega))) only [eS, eN, eC]) <;> (first | rfl | assumption))]; rfl) (r_load (b := w.heap.size) (o := 0 + 1) (by simp (disch := (first | omega | (simp only [sP]; omega))) only [eS, eN, eC]) H.oInt k1 (dn (runS_then ?_)))
    refine runS_do rfl (by rw [wants_some (b := true) rfl rfl (by (try simp (disch := (first | omega | (simp only [sP]; omega))) only [eS, eN, eC]) <;> (first | rfl | assumption))]; rfl) (r_geq (k := .i64) (m := ver) (n := flex) (by simp (disch := (first | omega | (simp only [sP]; omega))) only [eS, eN, eC, e1]) (by simp (disch := (first | omega | (simp only [sP]; omega))) only [eS, eN, eC]) (dn (runS_then ?_)))
    (refine runS_do rfl (wants_none rfl) ?_; (refine r_pickT ?_ ?_; (try simp (disch := (first | omega | (simp only [sP]; omega))) only [eS, eN, eC]) <;> (first | rfl | assumption)); refine dn (runS_then ?_))
    refine runS_do rfl (wants_none rfl) (r_loadAgg (b := w1.heap.size) (o := 0) (cs := ts) (by simp (disch := (first | omega | (simp only [sP]; omega))) only [eS, eN, eC]) (by rw [hr.len]; exact H.aTree) d2 (dn (runS_then ?_)))
    refine runS_do rfl (wants_none rfl) ?_
    refine r_call' (args := #[sv, .int .i64 ver, .bool (decide (ver ≥ flex)), .agg ts.toArray]) ?_ (hp U W sv t ts hUW (hsf.below hb2) (hr.below hb2) hbig) ?_
    · simp only [List.map_toArray, List.map_cons, List.map_nil]
      simp (disch := (first | omega | (simp only [sP]; omega))) only [eS, eN, eC, e1]
    rintro v w2 ⟨h1, h2⟩
    refine dn (runS_then ?_)
    (refine runS_do rfl (wants_none rfl) ?_; refine r_assign ?_; refine dn (runS_then ?_))
    refine runS_nil ?_
    refine vc_ret ?_
    exact ⟨by simp only [defers_put]; exact hdf, v, results_one (by simp (disch := (first | omega | (simp only [sP]; omega))) only [eS, eN, eC]), h1, hb2.trans h2⟩
  · have g0 : decide (flex ≥ 0) = false := by simpa using h0
    rw [g0, Bool.false_and] at hp hbig ⊢
    (refine runS_no rfl (by rw [wants_some (b := false) rfl rfl (by (try simp (disch := (first | omega | (simp only [sP]; omega))) only [eS, eN, eC]) <;> (first | rfl | assumption))]; rfl) ?_)
    (refine runS_no rfl (by rw [wants_some (b := false) rfl rfl (by (try simp (disch := (first | omega | (simp only [sP]; omega))) only [eS, eN, eC]) <;> (first | rfl | assumption))]; rfl) ?_)
    (refine runS_no rfl (by rw [wants_some (b := false) rfl rfl (by (try simp (disch := (first | omega | (simp only [sP]; omega))) only [eS, eN, eC]) <;> (first | rfl | assumption))]; rfl) ?_)
    (refine runS_no rfl (by rw [wants_some (b := false) rfl rfl (by (try simp (disch := (first | omega | (simp only [sP]; omega))) only [eS, eN, eC]) <;> (first | rfl | assumption))]; rfl) ?_)
    (refine runS_do rfl (wants_none rfl) ?_; (refine r_pickF ?_ ?_; (try simp (disch := (first | omega | (simp only [sP]; omega))) only [eS, eN, eC]) <;> (first | rfl | assumption)); refine dn (runS_then ?_))
    refine runS_do rfl (wants_none rfl) (r_loadAgg (b := w1.heap.size) (o := 0) (cs := ts) (by simp (disch := (first | omega | (simp only [sP]; omega))) only [eS, eN, eC]) (by rw [hr.len]; exact H.aTree) d2 (dn (runS_then ?_)))
    refine runS_do rfl (wants_none rfl) ?_
    refine r_call' (args := #[sv, .int .i64 ver, .bool false, .agg ts.toArray]) ?_ (hp U W sv t ts hUW (hsf.below hb2) (hr.below hb2) hbig) ?_
    · simp only [List.map_toArray, List.map_cons, List.map_nil]
      simp (disch := (first | omega | (simp only [sP]; omega))) only [eS, eN, eC, e1]
    rintro v w2 ⟨h1, h2⟩
    refine dn (runS_then ?_)
    (refine runS_do rfl (wants_none rfl) ?_; refine r_assign ?_; refine dn (runS_then ?_))
    refine runS_nil ?_
    refine vc_ret ?_
    exact ⟨by simp only [defers_put]; exact hdf, v, results_one (by simp (disch := (first | omega | (simp only [sP]; omega))) only [eS, eN, eC]), h1, hb2.trans h2⟩
end
end Go.Km
