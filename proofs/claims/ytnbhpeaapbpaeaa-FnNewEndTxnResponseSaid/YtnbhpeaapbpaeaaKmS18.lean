/- spec.unknown: a tag is put in. -/
import Derived.Test.YtnbhpeaapbpaeaaKmS17
set_option linter.unusedSimpArgs false
set_option linter.unusedVariables false
namespace Go.Km
open Go Go.RowKit
attribute [local irreducible] vc runOps runG runS runD

section
variable {P : Program} {E : Env} {w : World} {U : Nat}
set_option maxHeartbeats 1000000 in
/-- out = append(out, Tag{}), the things from i on go up by one, t is put at i. -/
theorem s_unkIns (H : SEnv P E) (HL : SLay P E) {A : Act} {V : World} {Q : Exit → Act → World → Prop} {B bb j : Nat} {v6 : Value} {es : List UE} {t : UE}
    (hs : A.tmps.size = 85) (h6 : A.eval (.tmp 6) = v6) (h8 : A.eval (.tmp 8) = .pointer (some ⟨bb, 0, none⟩)) (h9 : A.eval (.tmp 9) = .int .i64 (j : Int)) (hj : j ≤ es.length) (hn : es.length < 40000) (hB : B ≤ V.heap.size)
    (hown : V.ownsRow B E.tUnk 2 v6 es.length (fl es)) (hok : ∀ e ∈ es, e.2.oneCell' = true) (hto : t.2.oneCell' = true) (hbb : bb < V.heap.size) (hne : ∀ g, v6.ownBlock = some g → g ≠ bb) (hc : Cells V bb 0 [.int .u32 (t.1.1 : Int), t.2])
    (hQ : ∀ A' V' v', A'.tmps.size = 85 → A'.defers = A.defers → (∀ k : Nat, k < 23 → k ≠ 6 → k ≠ 10 → A'.eval (.tmp k) = A.eval (.tmp k)) → A'.eval (.tmp 6) = v' → Below B V V' → V'.ownsRow B E.tUnk 2 v' (es.length + 1) (fl (es.take j ++ t :: es.drop j)) → Q .normal A' V') :
    vc P (sq [
                (rg [⟨some 59, .move (.tmp 6), E.tUnks, "", #[], none⟩,
                  ⟨some 60, .build E.tUnk #[], E.tUnk, "", #[], none⟩,
                  ⟨some 61, .buildSlice E.tUnks 1 #[(0, (.tmp 60))], E.tUnks, "", #[], none⟩,
                  ⟨some 62, .call { callee := .builtin .append, args := #[(.tmp 59), (.tmp 61)], argTypes := #[E.tUnks, E.tUnks] }, E.tUnks, "", #[], none⟩,
                  ⟨some 6, .assign (.tmp 62), E.tUnks, "", #[], none⟩]),
                (sq [(rg [⟨some 63, .move (.tmp 6), E.tUnks, "", #[], none⟩,
                    ⟨some 64, .call { callee := .builtin .len, args := #[(.tmp 63)], argTypes := #[E.tUnks] }, E.tInt, "", #[], none⟩,
                    ⟨some 65, .binOp .sub E.tInt (.tmp 64) (.const (.int .i64 1)) E.tInt, E.tInt, "", #[], none⟩,
                    ⟨some 10, .assign (.tmp 65), E.tInt, "", #[], none⟩]),
                  (.block 4 (.loop (sq [(sq [(rg [⟨some 66, .move (.tmp 10), E.tInt, "", #[], none⟩,
                            ⟨some 67, .move (.tmp 9), E.tInt, "", #[], none⟩,
                            ⟨some 68, .binOp .gtr E.tInt (.tmp 66) (.tmp 67) E.tInt, E.tBool, "", #[], none⟩]),
                          (.cond (.tmp 68)
                            .skip
                            (.exit 4))]),
                        (.block 5 (rg [⟨some 71, .move (.tmp 6), E.tUnks, "", #[], none⟩,
                            ⟨some 72, .move (.tmp 10), E.tInt, "", #[], none⟩,
                            ⟨some 73, .move (.tmp 6), E.tUnks, "", #[], none⟩,
                            ⟨some 74, .move (.tmp 10), E.tInt, "", #[], none⟩,
                            ⟨some 75, .binOp .sub E.tInt (.tmp 74) (.const (.int .i64 1)) E.tInt, E.tInt, "", #[], none⟩,
                            ⟨some 76, .indexAddr E.tUnks (.tmp 73) (.tmp 75), 0, "", #[], none⟩,
                            ⟨some 77, .load E.tUnk (.tmp 76), E.tUnk, "", #[], none⟩,
                            ⟨some 78, .indexAddr E.tUnks (.tmp 71) (.tmp 72), 0, "", #[], none⟩,
                            ⟨none, .store E.tUnk (.tmp 78) (.tmp 77), 0, "", #[], none⟩])),
                        (rg [⟨some 69, .move (.tmp 10), E.tInt, "", #[], none⟩,
                          ⟨some 70, .binOp .sub E.tInt (.tmp 69) (.const (.int .i64 1)) E.tInt, E.tInt, "", #[], none⟩,
                          ⟨some 10, .assign (.tmp 70), E.tInt, "", #[], none⟩])])))]),
                (rg [⟨some 79, .move (.tmp 6), E.tUnks, "", #[], none⟩,
                  ⟨some 80, .move (.tmp 9), E.tInt, "", #[], none⟩,
                  ⟨some 81, .load E.tUnk (.tmp 8), E.tUnk, "", #[], none⟩,
                  ⟨some 82, .indexAddr E.tUnks (.tmp 79) (.tmp 80), 0, "", #[], none⟩,
                  ⟨none, .store E.tUnk (.tmp 82) (.tmp 81), 0, "", #[], none⟩])]) Q A V := by
  have hsl := rowB_slice H.rUnks
  generalize hnn : es.length = n at *
  refine vc_sq (vc_rg (by simp) ?_)
  refine r_move ?_
  refine r_build (cells := #[.int .u32 0, .slice none 0 0]) HL.unk (by simp [Instr.fill]) ?_
  refine r_buildSlice (vs := [.agg #[.int .u32 0, .slice none 0 0]]) H.rUnks ?_ rfl (by intro v hv; simp only [List.mem_singleton] at hv; subst hv; rfl) (by decide) (by decide) ?_
  · simp only [List.map_toArray, List.map_cons, List.map_nil]
    simp (disch := (first | omega | (simp only [sP]; omega))) only [eS, eN, eC]
    rfl
  have hown1 := own_below hown ((Below.refl V.heap.size V).alloc (o := .cells ([Value.agg #[.int .u32 0, .slice none 0 0]].flatMap fun v => v.cells.toList).toArray E.tUnk) (Nat.le_refl _))
  have hb1 : Below V.heap.size V (V.alloc (.cells ([Value.agg #[.int .u32 0, .slice none 0 0]].flatMap fun v => v.cells.toList).toArray E.tUnk)) := (Below.refl V.heap.size V).alloc (o := .cells _ _) (Nat.le_refl _)
  have hcz : Cells (V.alloc (.cells ([Value.agg #[.int .u32 0, .slice none 0 0]].flatMap fun v => v.cells.toList).toArray E.tUnk)) V.heap.size 0 [.int .u32 0, .slice none 0 0] := by
    intro i v hv
    rw [Nat.zero_add]
    exact cells_new V _ E.tUnk (by simpa [Value.cells] using hv)
  generalize V.alloc (.cells ([Value.agg #[.int .u32 0, .slice none 0 0]].flatMap fun v => v.cells.toList).toArray E.tUnk) = V1 at *
  refine r_appendG (sz := 2) (U := B) (v := v6) (m := 1) (news := [.int .u32 0, .slice none 0 0]) H.rUnks (u := .slice (some ⟨V.heap.size, 0, none⟩) 1 1) (by simp (disch := (first | omega | (simp only [sP]; omega))) only [eS, eN, eC, h6]) (by simp (disch := (first | omega | (simp only [sP]; omega))) only [eS, eN, eC]) hown1 (Nat.le_trans hB hb1.size) (src_cells hsl hcz rfl (by intro u hu; simp only [List.mem_cons, List.not_mem_nil, or_false] at hu; rcases hu with rfl | rfl <;> rfl)) (by unfold big; omega) ?_
  intro v7 V7 h7 hb7 hg7 hnew
  refine r_assign ?_
  refine dn ?_
  have hbb1 : bb < V1.heap.size := Nat.lt_of_lt_of_le hbb hb1.size
  have hc7 : Cells V7 bb 0 [.int .u32 (t.1.1 : Int), t.2] := (hc.below hb1 hbb).grown hg7 hbb1 (fun he => hne bb he.symm rfl)
  have hform := own_form2 h7
  obtain ⟨g, cap, rfl, hncap, hBg, hgV⟩ := hform.resolve_left (by rintro ⟨_, h⟩; omega)
  have hgb : g ≠ bb := by
    rcases hnew g rfl with h | h
    · exact hne g h
    · omega
  have h7' : V7.ownsRow B E.tUnk 2 (.slice (some ⟨g, 0, none⟩) (n + 1) cap) (n + 1) (fl (es.take n ++ ((0, []), Value.slice none 0 0) :: es.drop n)) := by
    rw [← hnn, List.take_length, List.drop_length, fl_app]
    rw [hnn]
    exact h7
  have hbV7 : Below B V V7 := (hb1.mono hB).trans hb7
  clear h7 hnew hform hg7 hown1 hcz
  refine vc_sq (vc_sq (vc_rg (by simp) ?_))
  refine r_move ?_
  refine r_len (ad := some ⟨g, 0, none⟩) (n := n + 1) (c := cap) hsl (by simp (disch := (first | omega | (simp only [sP]; omega))) only [eS, eN, eC]) ?_
  refine r_sub (k := .i64) (m := ((n + 1 : Nat) : Int)) (n := 1) (by simp (disch := (first | omega | (simp only [sP]; omega))) only [eS, eN, eC]) rfl ?_
  have hw0 : IntKind.i64.wrap (((n + 1 : Nat) : Int) - 1) = (n : Int) := by rw [wrap_i64 (by omega) (by omega)]; omega
  rw [hw0]
  refine r_assign ?_
  refine dn ?_
  refine vc_sq (vc_block (vc_count (fun m A' V' => m ≤ n - j ∧ A'.tmps.size = 85 ∧ A'.defers = A.defers ∧ (∀ k : Nat, k < 23 → k ≠ 6 → k ≠ 10 → A'.eval (.tmp k) = A.eval (.tmp k)) ∧ A'.eval (.tmp 6) = .slice (some ⟨g, 0, none⟩) (n + 1) cap ∧ A'.eval (.tmp 10) = .int .i64 ((j + m : Nat) : Int) ∧
    Below B V V' ∧ Cells V' bb 0 [.int .u32 (t.1.1 : Int), t.2] ∧ ∃ X : UE, V'.ownsRow B E.tUnk 2 (.slice (some ⟨g, 0, none⟩) (n + 1) cap) (n + 1) (fl (es.take (j + m) ++ X :: es.drop (j + m)))) (n - j) ?_ ?_ ?_))
  · refine ⟨Nat.le_refl _, by simp only [size_put]; exact hs, by simp only [defers_put], fun k h1 h2 h3 => (by simp (disch := (first | omega | (simp only [sP]; omega))) only [eS, eN, eC]), (by simp (disch := (first | omega | (simp only [sP]; omega))) only [eS, eN, eC]), ?_, hbV7, hc7, ((0, []), .slice none 0 0), ?_⟩
    · simp (disch := (first | omega | (simp only [sP]; omega))) only [eS, eN, eC]
      rw [show j + (n - j) = n by omega]
    · rw [show j + (n - j) = n by omega]
      exact h7'
  · rintro m A' V' ⟨hm, hs', hd', hk', g6, g10, hbV', hc', X, hX⟩
    have hkn : j + m < es.length := by omega
    rw [show j + (m + 1) = (j + m) + 1 by omega] at g10 hX
    generalize hkk : j + m = k at *
    have g9 : A'.eval (.tmp 9) = .int .i64 (j : Int) := by rw [hk' 9 (by omega) (by omega) (by omega), h9]
    have hxl : (es.take (k + 1) ++ X :: es.drop (k + 1)).length = n + 1 := by
      simp only [List.length_append, List.length_cons, List.length_take, List.length_drop]
      omega
    refine vc_sq (vc_sq (vc_rg (by simp) ?_))
    refine r_move ?_
    refine r_move ?_
    refine r_gtr (k := .i64) (m := ((k + 1 : Nat) : Int)) (n := (j : Int)) (by simp (disch := (first | omega | (simp only [sP]; omega))) only [eS, eN, eC, g10]) (by simp (disch := (first | omega | (simp only [sP]; omega))) only [eS, eN, eC, g9]) ?_
    refine dn ?_
    refine vc_sq (vc_cond (t := true) ?_ ?_ (fun h => by cases h))
    · simp (disch := (first | omega | (simp only [sP]; omega))) only [eS, eN, eC]
      simp only [Value.bool.injEq, decide_eq_true_eq]
      omega
    intro _
    refine vc_skip (vc_sq_nil ?_)
    refine vc_sq (vc_block (vc_rg (by simp) ?_))
    refine r_move ?_
    refine r_move ?_
    refine r_move ?_
    refine r_move ?_
    refine r_sub (k := .i64) (m := ((k + 1 : Nat) : Int)) (n := 1) (by simp (disch := (first | omega | (simp only [sP]; omega))) only [eS, eN, eC, g10]) rfl ?_
    have hw1 : IntKind.i64.wrap (((k + 1 : Nat) : Int) - 1) = (k : Int) := by rw [wrap_i64 (by omega) (by omega)]; omega
    rw [hw1]
    refine r_index (k := .i64) (j := k) (b := g) (o := 0) (len := n + 1) (cap := cap) hsl (by simp (disch := (first | omega | (simp only [sP]; omega))) only [eS, eN, eC, g6]) (by simp (disch := (first | omega | (simp only [sP]; omega))) only [eS, eN, eC]) (by omega) ?_
    have hck := own_cells2 (i := k) hX (shift_get es k X hkn)
    refine r_loadAgg (b := g) (o := 0 + k * 2) (cs := [.int .u32 (es[k].1.1 : Int), es[k].2]) (by simp (disch := (first | omega | (simp only [sP]; omega))) only [eS, eN, eC]) H.aUnk (by rw [Nat.zero_add]; exact hck) ?_
    refine r_index (k := .i64) (j := k + 1) (b := g) (o := 0) (len := n + 1) (cap := cap) hsl (by simp (disch := (first | omega | (simp only [sP]; omega))) only [eS, eN, eC, g6]) (by simp (disch := (first | omega | (simp only [sP]; omega))) only [eS, eN, eC, g10]) (by omega) ?_
    have hset := own_set2 (i := k + 1) (x := es[k]) hX (by rw [hxl]; omega)
    rw [shift_set es k X hkn] at hset
    refine r_storeAgg (b := g) (o := 0 + (k + 1) * 2) (cs := [.int .u32 (es[k].1.1 : Int), es[k].2]) (by simp (disch := (first | omega | (simp only [sP]; omega))) only [eS, eN, eC]) (by simp (disch := (first | omega | (simp only [sP]; omega))) only [eS, eN, eC]) (by intro u hu; simp only [List.mem_cons, List.not_mem_nil, or_false] at hu; rcases hu with rfl | rfl; rfl; exact hok _ (List.getElem_mem hkn)) H.aUnk ?_ ?_
    · intro i hi
      simp only [List.length_cons, List.length_nil] at hi
      exact own_free2 hX (by omega)
    rw [show 0 + (k + 1) * 2 = (k + 1) * 2 by omega]
    have hc'' : Cells (setCells V' g ((k + 1) * 2) [.int .u32 (es[k].1.1 : Int), es[k].2]) bb 0 [.int .u32 (t.1.1 : Int), t.2] := hc'.eff (setCells_eff g _ V' _) (by rintro i hi ⟨h, _⟩; exact hgb h.symm)
    refine dn ?_
    refine vc_sq (vc_rg (by simp) ?_)
    refine r_move ?_
    refine r_sub (k := .i64) (m := ((k + 1 : Nat) : Int)) (n := 1) (by simp (disch := (first | omega | (simp only [sP]; omega))) only [eS, eN, eC, g10]) rfl ?_
    rw [hw1]
    refine r_assign ?_
    refine dn ?_
    refine vc_sq_nil ?_
    exact ⟨by omega, by simp only [size_put]; exact hs', by simp only [defers_put]; exact hd', fun k' h1 h2 h3 => (by simp (disch := (first | omega | (simp only [sP]; omega))) only [eS, eN, eC, hk' k' h1 h2 h3]), (by simp (disch := (first | omega | (simp only [sP]; omega))) only [eS, eN, eC, g6]), (by simp (disch := (first | omega | (simp only [sP]; omega))) only [eS, eN, eC]), hbV'.trans hset.2, hc'', es[k], hset.1⟩
  · rintro A' V' ⟨hm, hs', hd', hk', g6, g10, hbV', hc', X, hX⟩
    simp only [Nat.add_zero] at g10 hX
    have g9 : A'.eval (.tmp 9) = .int .i64 (j : Int) := by rw [hk' 9 (by omega) (by omega) (by omega), h9]
    have g8 : A'.eval (.tmp 8) = .pointer (some ⟨bb, 0, none⟩) := by rw [hk' 8 (by omega) (by omega) (by omega), h8]
    have hxl : (es.take j ++ X :: es.drop j).length = n + 1 := by
      simp only [List.length_append, List.length_cons, List.length_take, List.length_drop]
      omega
    refine vc_sq (vc_sq (vc_rg (by simp) ?_))
    refine r_move ?_
    refine r_move ?_
    refine r_gtr (k := .i64) (m := (j : Int)) (n := (j : Int)) (by simp (disch := (first | omega | (simp only [sP]; omega))) only [eS, eN, eC, g10]) (by simp (disch := (first | omega | (simp only [sP]; omega))) only [eS, eN, eC, g9]) ?_
    refine dn ?_
    refine vc_sq (vc_cond (t := false) ?_ (fun h => by cases h) ?_)
    · simp (disch := (first | omega | (simp only [sP]; omega))) only [eS, eN, eC]
      simp only [Value.bool.injEq, decide_eq_false_iff_not]
      omega
    intro _
    refine vc_exit ?_
    simp only [Exit.then, Exit.inBlock, if_true]
    refine vc_sq_nil ?_
    refine vc_sq (vc_rg (by simp) ?_)
    refine r_move ?_
    refine r_move ?_
    refine r_loadAgg (b := bb) (o := 0) (cs := [.int .u32 (t.1.1 : Int), t.2]) (by simp (disch := (first | omega | (simp only [sP]; omega))) only [eS, eN, eC, g8]) H.aUnk hc' ?_
    refine r_index (k := .i64) (j := j) (b := g) (o := 0) (len := n + 1) (cap := cap) hsl (by simp (disch := (first | omega | (simp only [sP]; omega))) only [eS, eN, eC, g6]) (by simp (disch := (first | omega | (simp only [sP]; omega))) only [eS, eN, eC, g9]) (by omega) ?_
    have hset := own_set2 (i := j) (x := t) hX (by rw [hxl]; omega)
    rw [put_set es j X t (by omega)] at hset
    refine r_storeAgg (b := g) (o := 0 + j * 2) (cs := [.int .u32 (t.1.1 : Int), t.2]) (by simp (disch := (first | omega | (simp only [sP]; omega))) only [eS, eN, eC]) (by simp (disch := (first | omega | (simp only [sP]; omega))) only [eS, eN, eC]) (by intro u hu; simp only [List.mem_cons, List.not_mem_nil, or_false] at hu; rcases hu with rfl | rfl; rfl; exact hto) H.aUnk ?_ ?_
    · intro i hi
      simp only [List.length_cons, List.length_nil] at hi
      exact own_free2 hX (by omega)
    rw [show 0 + j * 2 = j * 2 by omega]
    refine dn ?_
    refine vc_sq_nil ?_
    exact hQ _ _ _ (by simp only [size_put]; exact hs') (by simp only [defers_put]; exact hd') (fun k' h1 h2 h3 => (by simp (disch := (first | omega | (simp only [sP]; omega))) only [eS, eN, eC, hk' k' h1 h2 h3])) (by simp (disch := (first | omega | (simp only [sP]; omega))) only [eS, eN, eC, g6]) (hbV'.trans hset.2) hset.1
end
end Go.Km
