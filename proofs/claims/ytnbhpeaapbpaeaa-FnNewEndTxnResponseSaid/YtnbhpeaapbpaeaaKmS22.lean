/- spec.Default. -/
import Derived.Test.YtnbhpeaapbpaeaaKmS21
set_option linter.unusedSimpArgs false
set_option linter.unusedVariables false
namespace Go.Km
open Go Go.RowKit
attribute [local irreducible] vc runOps runG runS runD

def SF.kind : SF → Int
  | .mk kind _ _ _ _ _ _ _ => kind
def SF.df : SF → Int
  | .mk _ _ _ _ _ df _ _ => df
def SF.nul : SF → Int
  | .mk _ _ _ nul _ _ _ _ => nul
theorem SF.one_eq (f : SF) : f.one = .mk f.df [] (decide (f.nul ≥ 0)) (if f.kind = 10 then f.sub.ones else .nil) [] := by
  cases f with
  | mk => rfl
/-- What spec.Default must give of these fields. -/
def DfltC (P : Program) (E : Env) (fs : SFs) : Prop :=
  ∀ (w : World) (sv : Value), SlF w w.heap.size sv fs → CallsV P E.sDefault #[sv] w fun v w' => ∃ c, v = .agg c.toArray ∧ fs.dflt.RepD w' (fun q => w.heap.size ≤ q ∧ q < w'.heap.size) c ∧ Below w.heap.size w w'

section
variable {P : Program} {E : Env} {w : World} {U : Nat}
set_option maxHeartbeats 2000000 in
theorem s_default (H : SEnv P E) (HL : SLay P E) (HT : STexts P E) (hL3 : oneField P E.tTree 3 3 = true) {fs : SFs} (hfl : fs.len ≤ 65536) (hsub : ∀ i f, fs.get i = some f → f.kind = 10 → DfltC P E f.sub) : DfltC P E fs := by
  intro w sv hsf
  refine CallsV.enter HT.dflt (by simp) ?_
  intro a hsz hdf harg
  have e0 := harg 0 sv (by simp)
  obtain ⟨z, hz, hzc⟩ := lays_zero HL.fld
  obtain ⟨zt, hzt, hztc⟩ := lays_zero HL.tree
  have hslT := rowB_slice H.rTrees
  unfold c_sDefault
  refine vc_sq (vc_rg (by simp) ?_)
  refine r_alloc hzt ?_
  refine dn ?_
  refine vc_sq (vc_rg (by simp) ?_)
  refine r_alloc hzt ?_
  refine dn ?_
  rw [hztc]
  have hzz1 : (w.alloc (.cells #[.int .i64 0, .slice none 0 0, .bool false, .slice none 0 0, .slice none 0 0] E.tTree)).heap.size = w.heap.size + 1 := by simp
  rw [hzz1]
  generalize hw1 : (w.alloc (.cells #[.int .i64 0, .slice none 0 0, .bool false, .slice none 0 0, .slice none 0 0] E.tTree)).alloc (.cells #[.int .i64 0, .slice none 0 0, .bool false, .slice none 0 0, .slice none 0 0] E.tTree) = W1
  have hb1 : Below w.heap.size w W1 := by
    rw [← hw1]
    exact ((Below.refl w.heap.size w).alloc (o := .cells _ _) (Nat.le_refl _)).trans ((Below.refl w.heap.size _).alloc (o := .cells _ _) (by simp))
  have hz1 : W1.heap.size = w.heap.size + 2 := by rw [← hw1]; simp
  have c3 : Cells W1 (w.heap.size + 1) 0 [.int .i64 0, .slice none 0 0, .bool false, .slice none 0 0, .slice none 0 0] := by
    intro i v hv
    rw [← hw1, Nat.zero_add, ← hzz1]
    exact cells_new _ _ E.tTree (by simpa using hv)
  have f3 : ∀ i, i < 5 → Free W1 (w.heap.size + 1) i := by
    intro i hi
    rw [← hw1, ← hzz1]
    exact free_new _ _ E.tTree (by simpa using hi)
  have f2 : ∀ i, i < 5 → Free W1 w.heap.size i := by
    intro i hi
    rw [← hw1]
    exact (free_new w _ E.tTree (i := i) (by simpa using hi)).eff (Eff.refl (fun _ _ => False) _ |>.alloc _)
  clear hw1 hzz1
  generalize hb2 : w.heap.size = b2 at *
  obtain ⟨ad, cap, hsv⟩ : ∃ ad cap, sv = .slice ad fs.len cap := by
    rcases hsf with ⟨rfl, h0⟩ | ⟨q, o, cap, rfl, _⟩
    · exact ⟨none, 0, by rw [h0]⟩
    · exact ⟨_, cap, rfl⟩
  have hget : ∀ V, Below b2 w V → ∀ i f, fs.get i = some f → i < fs.len → ∃ q o c, sv = .slice (some ⟨q, o, none⟩) fs.len cap ∧ q < b2 ∧ Cells V q (o + i * 8) c ∧ f.Rep V b2 c := by
    intro V hV i f hf hi
    rcases hsf with ⟨rfl, h0⟩ | ⟨q, o, cap', h1, _, hq, hrep⟩
    · omega
    · obtain ⟨c, h2, h3⟩ := hrep.get hf
      rw [h1] at hsv
      simp only [Value.slice.injEq] at hsv
      obtain ⟨_, _, rfl⟩ := hsv
      exact ⟨q, o, c, h1, hq, h2.below hV hq, h3.below hV⟩
  refine vc_sq (vc_sq (vc_rg (by simp) ?_))
  refine r_move ?_
  refine r_len (ad := ad) (n := fs.len) (c := cap) H.sFlds (by simp (disch := (first | omega | (simp only [sP]; omega))) only [eS, eN, eC, e0, hsv]) ?_
  refine r_move ?_
  refine dn ?_
  refine vc_sq (vc_block (vc_count (fun m B V => m ≤ fs.len ∧ B.tmps.size = 35 ∧ B.defers = [] ∧ B.eval (.tmp 2) = .pointer (some ⟨b2, 0, none⟩) ∧ B.eval (.tmp 3) = .pointer (some ⟨b2 + 1, 0, none⟩) ∧ B.eval (.tmp 7) = sv ∧ B.eval (.tmp 8) = .int .i64 (fs.len : Int) ∧ B.eval (.tmp 9) = .int .i64 ((fs.len - m : Nat) : Int) ∧
    Below b2 w V ∧ W1.heap.size ≤ V.heap.size ∧ (∀ i, i < 5 → Free V b2 i) ∧ Free V (b2 + 1) 3 ∧ ∃ (lv : Value) (ds : List TE), Cells V (b2 + 1) 0 [.int .i64 0, .slice none 0 0, .bool false, lv, .slice none 0 0] ∧ V.ownsRow W1.heap.size E.tTree 5 lv ds.length (fl5 ds) ∧
      (∀ d ∈ ds, d.1.RepD V (fun q => W1.heap.size ≤ q ∧ q < V.heap.size ∧ lv.ownBlock ≠ some q) d.2) ∧ ds.map (·.1) = fs.ones.toL.take (fs.len - m)) fs.len ?_ ?_ ?_))
  · refine ⟨Nat.le_refl _, by simp only [size_put]; exact hsz, by simp only [defers_put]; exact hdf, (by simp (disch := (first | omega | (simp only [sP]; omega))) only [eS, eN, eC]), (by simp (disch := (first | omega | (simp only [sP]; omega))) only [eS, eN, eC]), (by simp (disch := (first | omega | (simp only [sP]; omega))) only [eS, eN, eC, e0]), (by simp (disch := (first | omega | (simp only [sP]; omega))) only [eS, eN, eC]), ?_, hb1, Nat.le_refl _, f2, f3 3 (by omega), .slice none 0 0, [], c3, World.ownsRow_nil _ _ _ _, by simp, by simp⟩
    simp (disch := (first | omega | (simp only [sP]; omega))) only [eS, eN, eC]
    simp
  · rintro m B V ⟨hm, hsB, hdB, g2, g3, g7, g8, g9, hbV, hWV, fV2, fV3, lv, ds, hc3, hown, hds, hmap⟩
    have hi : fs.len - (m + 1) < fs.len := by omega
    have him : fs.len - m = (fs.len - (m + 1)) + 1 := by omega
    rw [him]
    generalize hii : fs.len - (m + 1) = i at *
    obtain ⟨f, hf⟩ := SFs.get_lt fs i hi
    obtain ⟨q, o, c, hsv', hq, hc, hrc⟩ := hget V hbV i f hf hi
    have hdl : ds.length = i := by
      have := congrArg List.length hmap
      rw [List.length_map, List.length_take, Trs.toL_len, SFs.ones_len] at this
      omega
    have hone : fs.ones.toL.take (i + 1) = ds.map (·.1) ++ [f.one] := by
      have hg : fs.ones.toL[i]? = some f.one := by rw [Trs.toL_get, SFs.ones_get, hf]; rfl
      have hil : i < fs.ones.toL.length := by rw [Trs.toL_len, SFs.ones_len]; exact hi
      rw [List.take_succ_eq_append_getElem hil, hmap]
      rw [List.getElem?_eq_getElem hil] at hg
      rw [Option.some.inj hg]
    rw [hone]
    have hVb : b2 + 1 < V.heap.size := by omega
    refine vc_sq (vc_rg (by simp) ?_)
    refine r_lss (k := .i64) (m := (i : Int)) (n := (fs.len : Int)) g9 g8 ?_
    refine dn ?_
    refine vc_sq (vc_cond (t := true) ?_ ?_ (fun h => by cases h))
    · simp (disch := (first | omega | (simp only [sP]; omega))) only [eS, eN, eC]
      simp only [Value.bool.injEq, decide_eq_true_eq]
      omega
    intro _
    refine vc_skip ?_
    refine vc_sq (vc_block (vc_sq (vc_rg (by simp) ?_)))
    refine r_index (k := .i64) (j := i) (b := q) (o := o) (len := fs.len) (cap := cap) H.sFlds (by simp (disch := (first | omega | (simp only [sP]; omega))) only [eS, eN, eC, g7, hsv']) (by simp (disch := (first | omega | (simp only [sP]; omega))) only [eS, eN, eC, g9]) hi ?_
    refine r_loadAgg (b := q) (o := o + i * 8) (cs := c) (by simp (disch := (first | omega | (simp only [sP]; omega))) only [eS, eN, eC]) (by rw [hrc.len]; exact H.aFld) hc ?_
    refine r_alloc hz ?_
    refine r_storeAgg (b := V.heap.size) (o := 0) (cs := c) (by simp (disch := (first | omega | (simp only [sP]; omega))) only [eS, eN, eC]) (by simp (disch := (first | omega | (simp only [sP]; omega))) only [eS, eN, eC]) hrc.one (by rw [hrc.len]; exact H.aFld) ?_ ?_
    · intro j hj
      rw [Nat.zero_add]
      exact free_new V _ _ (by rw [hzc]; rw [hrc.len] at hj; simpa using hj)
    refine dn ?_
    have hcell : Cells (setCells (V.alloc (.cells z.cells E.tFld)) V.heap.size 0 c) V.heap.size 0 c := by
      intro j v hv
      refine setCells_cell V.heap.size c _ 0 (fun j hj => ?_) j _ hv
      rw [Nat.zero_add]
      exact (free_new V z.cells E.tFld (by rw [hzc]; rw [hrc.len] at hj; simpa using hj)).1
    have hbA : Below V.heap.size V (setCells (V.alloc (.cells z.cells E.tFld)) V.heap.size 0 c) := by
      refine ((Below.refl V.heap.size V).alloc (o := .cells _ _) (Nat.le_refl _)).trans ((setCells_eff V.heap.size c _ 0).below (by simp) (by rintro k i hk ⟨rfl, _, _⟩; omega))
    have hzA : V.heap.size < (setCells (V.alloc (.cells z.cells E.tFld)) V.heap.size 0 c).heap.size := by
      have := (setCells_eff V.heap.size c (V.alloc (.cells z.cells E.tFld)) 0).size
      simp at this
      omega
    generalize setCells (V.alloc (.cells z.cells E.tFld)) V.heap.size 0 c = V1 at hcell hbA hzA ⊢
    generalize hvs : V.heap.size = vs at *
    obtain ⟨sv2, hcs, hsub2⟩ : ∃ sv2, c = [.int .i64 f.kind, c[1]?.getD undef, c[2]?.getD undef, .int .i64 f.nul, c[4]?.getD undef, .int .i64 f.df, c[6]?.getD undef, sv2] ∧ SlF V b2 sv2 f.sub := by
      cases f with
      | mk kind fr to nul tag df el sub =>
        obtain ⟨sv2, rfl, h⟩ := hrc
        exact ⟨sv2, rfl, h⟩
    have d0 : V1.cell? ⟨vs, 0 + 0, none⟩ = some (.int .i64 f.kind) := hcell 0 _ (by rw [hcs]; rfl)
    have d3 : V1.cell? ⟨vs, 0 + 3, none⟩ = some (.int .i64 f.nul) := hcell 3 _ (by rw [hcs]; rfl)
    have d5 : V1.cell? ⟨vs, 0 + 5, none⟩ = some (.int .i64 f.df) := hcell 5 _ (by rw [hcs]; rfl)
    have d7 : V1.cell? ⟨vs, 0 + 7, none⟩ = some sv2 := hcell 7 _ (by rw [hcs]; rfl)
    refine vc_sq (vc_rg (by simp) ?_)
    refine r_field (b := vs) (o := 0) (by simp (disch := (first | omega | (simp only [sP]; omega))) only [eS, eN, eC]) (offs_inv H.fFld (by decide)) ?_
    refine r_load (b := vs) (o := 0 + 5) (by simp (disch := (first | omega | (simp only [sP]; omega))) only [eS, eN, eC]) H.oI64 d5 ?_
    refine r_field (b := vs) (o := 0) (by simp (disch := (first | omega | (simp only [sP]; omega))) only [eS, eN, eC]) (offs_inv H.fFld (by decide)) ?_
    refine r_load (b := vs) (o := 0 + 3) (by simp (disch := (first | omega | (simp only [sP]; omega))) only [eS, eN, eC]) H.oInt d3 ?_
    refine r_geq (k := .i64) (m := f.nul) (n := 0) (by simp (disch := (first | omega | (simp only [sP]; omega))) only [eS, eN, eC]) rfl ?_
    generalize hnb : decide (f.nul ≥ 0) = nb at *
    refine r_build (cells := #[.int .i64 f.df, .slice none 0 0, .bool nb, .slice none 0 0, .slice none 0 0]) HL.tree ?_ ?_
    · simp only [List.map_toArray, List.map_cons, List.map_nil]
      simp (disch := (first | omega | (simp only [sP]; omega))) only [eS, eN, eC]
      rfl
    refine r_alloc hzt ?_
    rw [hztc]
    refine r_storeAgg (b := V1.heap.size) (o := 0) (cs := [.int .i64 f.df, .slice none 0 0, .bool nb, .slice none 0 0, .slice none 0 0]) (by simp (disch := (first | omega | (simp only [sP]; omega))) only [eS, eN, eC]) (by simp (disch := (first | omega | (simp only [sP]; omega))) only [eS, eN, eC]) (by intro v hv; simp only [List.mem_cons, List.not_mem_nil, or_false] at hv; rcases hv with rfl | rfl | rfl | rfl | rfl <;> rfl) H.aTree ?_ ?_
    · intro j hj
      rw [Nat.zero_add]
      exact free_new V1 _ _ (by simpa using hj)
    refine dn ?_
    have hcellT : Cells (setCells (V1.alloc (.cells #[.int .i64 0, .slice none 0 0, .bool false, .slice none 0 0, .slice none 0 0] E.tTree)) V1.heap.size 0 [.int .i64 f.df, .slice none 0 0, .bool nb, .slice none 0 0, .slice none 0 0]) V1.heap.size 0 [.int .i64 f.df, .slice none 0 0, .bool nb, .slice none 0 0, .slice none 0 0] := by
      intro j v hv
      refine setCells_cell V1.heap.size _ _ 0 (fun j hj => ?_) j _ hv
      rw [Nat.zero_add]
      exact (free_new V1 _ E.tTree (by simpa using hj)).1
    have hfreeT : Free (setCells (V1.alloc (.cells #[.int .i64 0, .slice none 0 0, .bool false, .slice none 0 0, .slice none 0 0] E.tTree)) V1.heap.size 0 [.int .i64 f.df, .slice none 0 0, .bool nb, .slice none 0 0, .slice none 0 0]) V1.heap.size (0 + 3) :=
      (free_new V1 #[.int .i64 0, .slice none 0 0, .bool false, .slice none 0 0, .slice none 0 0] E.tTree (i := 0 + 3) (by decide)).eff (setCells_eff V1.heap.size _ _ 0)
    have hbT : Below V1.heap.size V1 (setCells (V1.alloc (.cells #[.int .i64 0, .slice none 0 0, .bool false, .slice none 0 0, .slice none 0 0] E.tTree)) V1.heap.size 0 [.int .i64 f.df, .slice none 0 0, .bool nb, .slice none 0 0, .slice none 0 0]) := by
      refine ((Below.refl V1.heap.size V1).alloc (o := .cells _ _) (Nat.le_refl _)).trans ((setCells_eff V1.heap.size _ _ 0).below (by simp) (by rintro k i hk ⟨rfl, _, _⟩; omega))
    have hzT : V1.heap.size < (setCells (V1.alloc (.cells #[.int .i64 0, .slice none 0 0, .bool false, .slice none 0 0, .slice none 0 0] E.tTree)) V1.heap.size 0 [.int .i64 f.df, .slice none 0 0, .bool nb, .slice none 0 0, .slice none 0 0]).heap.size := by
      have := (setCells_eff V1.heap.size [.int .i64 f.df, .slice none 0 0, .bool nb, .slice none 0 0, .slice none 0 0] (V1.alloc (.cells #[.int .i64 0, .slice none 0 0, .bool false, .slice none 0 0, .slice none 0 0] E.tTree)) 0).size
      simp at this
      omega
    generalize setCells (V1.alloc (.cells #[.int .i64 0, .slice none 0 0, .bool false, .slice none 0 0, .slice none 0 0] E.tTree)) V1.heap.size 0 [.int .i64 f.df, .slice none 0 0, .bool nb, .slice none 0 0, .slice none 0 0] = V2 at hcellT hfreeT hbT hzT ⊢
    generalize hv1s : V1.heap.size = bt at *
    have hbV2 : Below vs V V2 := hbA.trans (hbT.mono (by omega))
    have hone1 : f.one = .mk f.df [] nb (if f.kind = 10 then f.sub.ones else .nil) [] := by rw [SF.one_eq, hnb]
    have hWV4 : ∀ V4, Below bt V2 V4 → Below vs V V4 := fun V4 h => hbV2.trans (h.mono (by omega))
    have tail : ∀ (B' : Act) (V4 : World) (c4 : List Value), B'.tmps.size = 35 → B'.defers = [] → B'.eval (.tmp 2) = .pointer (some ⟨b2, 0, none⟩) → B'.eval (.tmp 3) = .pointer (some ⟨b2 + 1, 0, none⟩) → B'.eval (.tmp 6) = .pointer (some ⟨bt, 0, none⟩) → B'.eval (.tmp 7) = sv → B'.eval (.tmp 8) = .int .i64 (fs.len : Int) → B'.eval (.tmp 9) = .int .i64 (i : Int) →
        Below bt V2 V4 → Cells V4 bt 0 c4 → f.one.RepD V4 (fun q => V2.heap.size ≤ q ∧ q < V4.heap.size) c4 → ∀ Q : Exit → Act → World → Prop,
        (∀ A' V7, A'.tmps.size = 35 ∧ A'.defers = [] ∧ A'.eval (.tmp 2) = .pointer (some ⟨b2, 0, none⟩) ∧ A'.eval (.tmp 3) = .pointer (some ⟨b2 + 1, 0, none⟩) ∧ A'.eval (.tmp 7) = sv ∧ A'.eval (.tmp 8) = .int .i64 (fs.len : Int) ∧ A'.eval (.tmp 9) = .int .i64 (i : Int) ∧
          Below b2 w V7 ∧ W1.heap.size ≤ V7.heap.size ∧ (∀ i, i < 5 → Free V7 b2 i) ∧ Free V7 (b2 + 1) 3 ∧ (∃ (lv : Value) (es : List TE), Cells V7 (b2 + 1) 0 [.int .i64 0, .slice none 0 0, .bool false, lv, .slice none 0 0] ∧ V7.ownsRow W1.heap.size E.tTree 5 lv es.length (fl5 es) ∧
            (∀ d ∈ es, d.1.RepD V7 (fun q => W1.heap.size ≤ q ∧ q < V7.heap.size ∧ lv.ownBlock ≠ some q) d.2) ∧ es.map (·.1) = ds.map (·.1) ++ [f.one]) → Q .normal A' V7) →
        vc P (sq [
                (rg [⟨some 27, .fieldAddr E.tTree (.tmp 3) 3, 0, "", #[], none⟩,
                  ⟨some 28, .load E.tTrees (.tmp 27), E.tTrees, "", #[], none⟩,
                  ⟨some 29, .load E.tTree (.tmp 6), E.tTree, "", #[], none⟩,
                  ⟨some 30, .buildSlice E.tTrees 1 #[(0, (.tmp 29))], E.tTrees, "", #[], none⟩,
                  ⟨some 31, .call { callee := .builtin .append, args := #[(.tmp 28), (.tmp 30)], argTypes := #[E.tTrees, E.tTrees] }, E.tTrees, "", #[], none⟩,
                  ⟨some 32, .fieldAddr E.tTree (.tmp 3) 3, 0, "", #[], none⟩,
                  ⟨none, .store E.tTrees (.tmp 32) (.tmp 31), 0, "", #[], none⟩])]) Q B' V4 := by
      intro B' V4 c4 a0 a1 a2 a3 a6 a7 a8 a9 hb4 hc4 hr4 Q hQ
      have hbV4 := hWV4 V4 hb4
      have h5len := hr4.len
      have hc34 : Cells V4 (b2 + 1) 0 [.int .i64 0, .slice none 0 0, .bool false, lv, .slice none 0 0] := hc3.below hbV4 hVb
      have hown4 := own_below hown hbV4 (hC := hvs.symm)
      have k3 : V4.cell? ⟨b2 + 1, 0 + 3, none⟩ = some lv := hc34 3 lv rfl
      refine vc_sq (vc_rg (by simp) ?_)
      refine r_field (b := b2 + 1) (o := 0) (by simp (disch := (first | omega | (simp only [sP]; omega))) only [eS, eN, eC, a3]) (offs_inv H.fTree (by decide)) ?_
      refine r_load (b := b2 + 1) (o := 0 + 3) (by simp (disch := (first | omega | (simp only [sP]; omega))) only [eS, eN, eC]) H.oTrees k3 ?_
      refine r_loadAgg (b := bt) (o := 0) (cs := c4) (by simp (disch := (first | omega | (simp only [sP]; omega))) only [eS, eN, eC, a6]) (by rw [h5len]; exact H.aTree) hc4 ?_
      refine r_buildSlice (vs := [.agg c4.toArray]) H.rTrees ?_ rfl (by intro v hv; simp only [List.mem_singleton] at hv; subst hv; simpa [Value.cells] using h5len) (by decide) (by decide) ?_
      · simp only [List.map_toArray, List.map_cons, List.map_nil]
        simp (disch := (first | omega | (simp only [sP]; omega))) only [eS, eN, eC]
        rfl
      have hfm : ([Value.agg c4.toArray].flatMap fun v => v.cells.toList) = c4 := by simp [Value.cells]
      rw [hfm]
      have hb5 : Below V4.heap.size V4 (V4.alloc (.cells c4.toArray E.tTree)) := (Below.refl V4.heap.size V4).alloc (o := .cells _ _) (Nat.le_refl _)
      have hc5 : Cells (V4.alloc (.cells c4.toArray E.tTree)) V4.heap.size 0 c4 := by
        intro j v hv
        rw [Nat.zero_add]
        exact cells_new V4 _ E.tTree (by simpa using hv)
      generalize V4.alloc (.cells c4.toArray E.tTree) = V5 at hb5 hc5 ⊢
      have hown5 := own_below hown4 hb5
      have hvs4 : vs ≤ V4.heap.size := by have := hbV4.size; omega
      have hbV5 : Below vs V V5 := hbV4.trans (hb5.mono hvs4)
      have hvs5 : vs ≤ V5.heap.size := by have := hbV5.size; omega
      have h45 := hb5.size
      refine r_appendG (sz := 5) (U := W1.heap.size) (v := lv) (u := .slice (some ⟨V4.heap.size, 0, none⟩) 1 1) (m := 1) (news := c4) H.rTrees (by simp (disch := (first | omega | (simp only [sP]; omega))) only [eS, eN, eC]) (by simp (disch := (first | omega | (simp only [sP]; omega))) only [eS, eN, eC]) hown5 (by omega) (src_cells hslT hc5 (by rw [h5len]) hr4.one) (by unfold big; omega) ?_
      intro v' V6 h6 hb6 hg6 hnew
      have hlvb : ∀ g, lv.ownBlock = some g → W1.heap.size ≤ g ∧ g < vs := fun g hg => ⟨(hown.lt g hg).1, by have := own_block_lt hown hg; omega⟩
      have hbV6 : Below W1.heap.size V V6 := (hbV5.mono hWV).trans hb6
      have fr6 : Free V6 (b2 + 1) 3 := fV3.below hbV6 (by omega)
      have hv'1 : v'.oneCell' = true := by rcases own_form5 h6 with ⟨rfl, _⟩ | ⟨g, cap, rfl, _⟩ <;> rfl
      refine r_field (b := b2 + 1) (o := 0) (by simp (disch := (first | omega | (simp only [sP]; omega))) only [eS, eN, eC, a3]) (offs_inv H.fTree (by decide)) ?_
      refine r_store (b := b2 + 1) (o := 0 + 3) (by simp (disch := (first | omega | (simp only [sP]; omega))) only [eS, eN, eC]) (by simp (disch := (first | omega | (simp only [sP]; omega))) only [eS, eN, eC]) hv'1 H.oTrees (by rw [Nat.zero_add]; exact fr6) ?_
      refine dn ?_
      refine vc_sq_nil ?_
      have hS : Eff (fun k i => k = b2 + 1 ∧ i = 0 + 3) V6 (V6.setCell ⟨b2 + 1, 0 + 3, none⟩ v') := (Eff.refl _ V6).setCell _ _ _ (fun _ => ⟨rfl, rfl⟩)
      have heap7 : ∀ k, k ≠ b2 + 1 → (V6.setCell ⟨b2 + 1, 0 + 3, none⟩ v').heap[k]? = V6.heap[k]? := fun k hk => Below.heap_setCell V6 _ _ k hk
      have hb7 : Below b2 V6 (V6.setCell ⟨b2 + 1, 0 + 3, none⟩ v') := (Below.refl b2 V6).setCell (p := ⟨b2 + 1, 0 + 3, none⟩) (by show b2 ≤ b2 + 1; omega) v'
      have hc36 : Cells V6 (b2 + 1) 0 [.int .i64 0, .slice none 0 0, .bool false, lv, .slice none 0 0] := hc3.below hbV6 (by omega)
      have hc37 : Cells (V6.setCell ⟨b2 + 1, 0 + 3, none⟩ v') (b2 + 1) 0 [.int .i64 0, .slice none 0 0, .bool false, v', .slice none 0 0] := by
        intro j v hv
        by_cases hj : j = 3
        · subst hj
          simp only [List.getElem?_cons_succ, List.getElem?_cons_zero, Option.some.injEq] at hv
          subst hv
          exact cell_setCell_same v' fr6.1
        · rw [cell_setCell_ne _ (.inr (by omega))]
          rw [show [Value.int .i64 0, .slice none 0 0, .bool false, v', .slice none 0 0] = [Value.int .i64 0, .slice none 0 0, .bool false, lv, .slice none 0 0].set 3 v' from rfl, List.getElem?_set_ne (by omega)] at hv
          exact hc36 j v hv
      have hz7 : (V6.setCell ⟨b2 + 1, 0 + 3, none⟩ v').heap.size = V6.heap.size := by simp
      generalize V6.setCell ⟨b2 + 1, 0 + 3, none⟩ v' = V7 at *
      have h56 := hb6.size
      have hkeep : ∀ q, W1.heap.size ≤ q → q < V5.heap.size → lv.ownBlock ≠ some q → V7.heap[q]? = V5.heap[q]? := fun q h1 h2 h3 => by
        rw [heap7 q (by omega)]
        exact hg6.block q h2 (fun he => h3 he.symm)
      have hnew' : ∀ q, q < V5.heap.size → lv.ownBlock ≠ some q → v'.ownBlock ≠ some q := fun q h1 h2 h3 => by
        rcases hnew q h3 with h | h
        · exact h2 h
        · omega
      refine hQ _ V7 ⟨by simp only [size_put]; exact a0, by simp only [defers_put]; exact a1, (by simp (disch := (first | omega | (simp only [sP]; omega))) only [eS, eN, eC, a2]), (by simp (disch := (first | omega | (simp only [sP]; omega))) only [eS, eN, eC, a3]), (by simp (disch := (first | omega | (simp only [sP]; omega))) only [eS, eN, eC, a7]), (by simp (disch := (first | omega | (simp only [sP]; omega))) only [eS, eN, eC, a8]), (by simp (disch := (first | omega | (simp only [sP]; omega))) only [eS, eN, eC, a9]), (hbV.trans (hbV6.mono (by omega))).trans hb7, by omega, fun i hi => ((fV2 i hi).below hbV6 (by omega)).eff hS, fr6.eff hS, v', ds ++ [(f.one, c4)], hc37, ?_, ?_, by simp⟩
      · rw [fl5_app, List.length_append]
        simp only [fl5, List.append_nil, List.length_cons, List.length_nil]
        exact own_heap h6 (fun g hg => heap7 g (by have := (h6.lt g hg).1; omega))
      · intro d hd
        rcases List.mem_append.1 hd with h | h
        · refine (hds d h).keep (fun q ⟨h1, h2, h3⟩ => ?_) (fun q ⟨h1, h2, h3⟩ => ⟨h1, by omega, hnew' q (by omega) h3⟩)
          rw [hkeep q h1 (by omega) h3, hbV5.block q h2]
        · simp only [List.mem_singleton] at h
          subst h
          have hlq : ∀ q, V2.heap.size ≤ q → lv.ownBlock ≠ some q := fun q h1 h2 => by have := hlvb q h2; omega
          refine hr4.keep (fun q ⟨h1, h2⟩ => ?_) (fun q ⟨h1, h2⟩ => ⟨by omega, by omega, hnew' q (by omega) (hlq q h1)⟩)
          rw [hkeep q (by omega) (by omega) (hlq q h1), hb5.block q h2]
    have fin : ∀ (Q : Exit → Act → World → Prop) (A' : Act) (V7 : World), (A'.tmps.size = 35 ∧ A'.defers = [] ∧ A'.eval (.tmp 2) = .pointer (some ⟨b2, 0, none⟩) ∧ A'.eval (.tmp 3) = .pointer (some ⟨b2 + 1, 0, none⟩) ∧ A'.eval (.tmp 7) = sv ∧ A'.eval (.tmp 8) = .int .i64 (fs.len : Int) ∧ A'.eval (.tmp 9) = .int .i64 (i : Int) ∧
          Below b2 w V7 ∧ W1.heap.size ≤ V7.heap.size ∧ (∀ i, i < 5 → Free V7 b2 i) ∧ Free V7 (b2 + 1) 3 ∧ (∃ (lv : Value) (es : List TE), Cells V7 (b2 + 1) 0 [.int .i64 0, .slice none 0 0, .bool false, lv, .slice none 0 0] ∧ V7.ownsRow W1.heap.size E.tTree 5 lv es.length (fl5 es) ∧
            (∀ d ∈ es, d.1.RepD V7 (fun q => W1.heap.size ≤ q ∧ q < V7.heap.size ∧ lv.ownBlock ≠ some q) d.2) ∧ es.map (·.1) = ds.map (·.1) ++ [f.one])) →
        (∀ A', (m ≤ fs.len ∧ A'.tmps.size = 35 ∧ A'.defers = [] ∧ A'.eval (.tmp 2) = .pointer (some ⟨b2, 0, none⟩) ∧ A'.eval (.tmp 3) = .pointer (some ⟨b2 + 1, 0, none⟩) ∧ A'.eval (.tmp 7) = sv ∧ A'.eval (.tmp 8) = .int .i64 (fs.len : Int) ∧ A'.eval (.tmp 9) = .int .i64 ((i + 1 : Nat) : Int) ∧
          Below b2 w V7 ∧ W1.heap.size ≤ V7.heap.size ∧ (∀ i, i < 5 → Free V7 b2 i) ∧ Free V7 (b2 + 1) 3 ∧ (∃ (lv : Value) (es : List TE), Cells V7 (b2 + 1) 0 [.int .i64 0, .slice none 0 0, .bool false, lv, .slice none 0 0] ∧ V7.ownsRow W1.heap.size E.tTree 5 lv es.length (fl5 es) ∧
            (∀ d ∈ es, d.1.RepD V7 (fun q => W1.heap.size ≤ q ∧ q < V7.heap.size ∧ lv.ownBlock ≠ some q) d.2) ∧ es.map (·.1) = ds.map (·.1) ++ [f.one])) → Q .normal A' V7) →
        vc P (sq [(rg [⟨some 33, .binOp .add E.tInt (.tmp 9) (.const (.int .i64 1)) E.tInt, E.tInt, "", #[], none⟩, ⟨some 9, .move (.tmp 33), E.tInt, "", #[], none⟩])]) Q A' V7 := by
      rintro Q A' V7 ⟨a0, a1, a2, a3, a7, a8, a9, hrest⟩ hQ
      refine vc_sq (vc_rg (by simp) ?_)
      refine r_add (k := .i64) (m := (i : Int)) (n := 1) (by simp (disch := (first | omega | (simp only [sP]; omega))) only [eS, eN, eC, a9]) rfl ?_
      refine r_move ?_
      refine dn ?_
      refine vc_sq_nil ?_
      refine hQ _ ⟨by omega, by simp only [size_put]; exact a0, by simp only [defers_put]; exact a1, (by simp (disch := (first | omega | (simp only [sP]; omega))) only [eS, eN, eC, a2]), (by simp (disch := (first | omega | (simp only [sP]; omega))) only [eS, eN, eC, a3]), (by simp (disch := (first | omega | (simp only [sP]; omega))) only [eS, eN, eC, a7]), (by simp (disch := (first | omega | (simp only [sP]; omega))) only [eS, eN, eC, a8]), ?_, hrest⟩
      simp (disch := (first | omega | (simp only [sP]; omega))) only [eS, eN, eC]
      rw [wrap_i64 (by omega) (by omega)]
      rfl
    refine vc_sq (vc_sq (vc_rg (by simp) ?_))
    refine r_field (b := vs) (o := 0) (by simp (disch := (first | omega | (simp only [sP]; omega))) only [eS, eN, eC]) (offs_inv H.fFld (by decide)) ?_
    refine r_load (b := vs) (o := 0 + 0) (by simp (disch := (first | omega | (simp only [sP]; omega))) only [eS, eN, eC]) H.oInt (by rw [hbT.cell (p := ⟨vs, 0 + 0, none⟩) (by show vs < bt; omega)]; exact d0) ?_
    refine r_eql (k := .i64) (m := f.kind) (n := 10) (by simp (disch := (first | omega | (simp only [sP]; omega))) only [eS, eN, eC]) rfl ?_
    refine dn ?_
    refine vc_sq (vc_cond (t := f.kind == 10) (by (try simp (disch := (first | omega | (simp only [sP]; omega))) only [eS, eN, eC]) <;> (first | rfl | assumption)) ?_ ?_)
    · intro hk
      have hk10 : f.kind = 10 := by simpa using hk
      rw [if_pos hk10] at hone1
      have hsubV2 : SlF V2 V2.heap.size sv2 f.sub := (hsub2.below (hbV2.mono (by omega))).mono (by omega)
      refine vc_rg (by simp) ?_
      refine r_field (b := vs) (o := 0) (by simp (disch := (first | omega | (simp only [sP]; omega))) only [eS, eN, eC]) (offs_inv H.fFld (by decide)) ?_
      refine r_load (b := vs) (o := 0 + 7) (by simp (disch := (first | omega | (simp only [sP]; omega))) only [eS, eN, eC]) H.oFlds (by rw [hbT.cell (p := ⟨vs, 0 + 7, none⟩) (by show vs < bt; omega)]; exact d7) ?_
      refine r_call' (args := #[sv2]) ?_ (hsub i f hf hk10 V2 sv2 hsubV2) ?_
      · simp only [List.map_toArray, List.map_cons, List.map_nil]
        simp (disch := (first | omega | (simp only [sP]; omega))) only [eS, eN, eC]
      rintro v V3 ⟨c3', rfl, hr3, hb3⟩
      obtain ⟨_, _, lv3, rfl, hl3⟩ := hr3
      have fr3 : Free V3 bt (0 + 3) := hfreeT.below hb3 hzT
      have hcT3 : Cells V3 bt 0 [.int .i64 f.df, .slice none 0 0, .bool nb, .slice none 0 0, .slice none 0 0] := hcellT.below hb3 hzT
      have hlv1 : lv3.oneCell' = true := by rcases hl3 with ⟨rfl, _⟩ | ⟨q, cap, rfl, _⟩ <;> rfl
      refine r_fieldV (v := lv3) (cs := #[.int .i64 0, .slice none 0 0, .bool false, lv3, .slice none 0 0]) hL3 (by simp (disch := (first | omega | (simp only [sP]; omega))) only [eS, eN, eC]) rfl ?_
      refine r_field (b := bt) (o := 0) (by simp (disch := (first | omega | (simp only [sP]; omega))) only [eS, eN, eC]) (offs_inv H.fTree (by decide)) ?_
      refine r_store (b := bt) (o := 0 + 3) (by simp (disch := (first | omega | (simp only [sP]; omega))) only [eS, eN, eC]) (by simp (disch := (first | omega | (simp only [sP]; omega))) only [eS, eN, eC]) hlv1 H.oTrees fr3 ?_
      refine dn ?_
      refine vc_sq_nil ?_
      refine tail _ (V3.setCell ⟨bt, 0 + 3, none⟩ lv3) [.int .i64 f.df, .slice none 0 0, .bool nb, lv3, .slice none 0 0] (by simp only [size_put]; exact hsB) (by simp only [defers_put]; exact hdB) (by simp (disch := (first | omega | (simp only [sP]; omega))) only [eS, eN, eC, g2]) (by simp (disch := (first | omega | (simp only [sP]; omega))) only [eS, eN, eC, g3]) (by simp (disch := (first | omega | (simp only [sP]; omega))) only [eS, eN, eC]) (by simp (disch := (first | omega | (simp only [sP]; omega))) only [eS, eN, eC, g7]) (by simp (disch := (first | omega | (simp only [sP]; omega))) only [eS, eN, eC, g8]) (by simp (disch := (first | omega | (simp only [sP]; omega))) only [eS, eN, eC, g9]) ?_ ?_ ?_ _ ?_
      · exact (hb3.mono (by omega)).trans ((Below.refl bt V3).setCell (p := ⟨bt, 0 + 3, none⟩) (Nat.le_refl _) lv3)
      · intro j v hv
        by_cases hj : j = 3
        · subst hj
          simp only [List.getElem?_cons_succ, List.getElem?_cons_zero, Option.some.injEq] at hv
          subst hv
          exact cell_setCell_same lv3 fr3.1
        · rw [cell_setCell_ne _ (.inr (by omega))]
          rw [show [Value.int .i64 f.df, .slice none 0 0, .bool nb, lv3, .slice none 0 0] = [Value.int .i64 f.df, .slice none 0 0, .bool nb, .slice none 0 0, .slice none 0 0].set 3 lv3 from rfl, List.getElem?_set_ne (by omega)] at hv
          exact hcT3 j v hv
      · rw [hone1]
        refine Tr.RepD.keep (w := V3) (S := fun q => V2.heap.size ≤ q ∧ q < V3.heap.size) (fun q ⟨h1, h2⟩ => Below.heap_setCell V3 _ _ q (by show q ≠ bt; omega)) (fun q ⟨h1, h2⟩ => ⟨h1, by simpa using h2⟩) ?_
        exact ⟨rfl, rfl, lv3, rfl, hl3⟩
      · exact fun A' V7 h => fin _ A' V7 h (fun A' h => h)
    · intro hk
      have hk10 : ¬ f.kind = 10 := by simpa using hk
      rw [if_neg hk10] at hone1
      refine vc_skip ?_
      refine vc_sq_nil ?_
      refine tail _ V2 _ (by simp only [size_put]; exact hsB) (by simp only [defers_put]; exact hdB) (by simp (disch := (first | omega | (simp only [sP]; omega))) only [eS, eN, eC, g2]) (by simp (disch := (first | omega | (simp only [sP]; omega))) only [eS, eN, eC, g3]) (by simp (disch := (first | omega | (simp only [sP]; omega))) only [eS, eN, eC]) (by simp (disch := (first | omega | (simp only [sP]; omega))) only [eS, eN, eC, g7]) (by simp (disch := (first | omega | (simp only [sP]; omega))) only [eS, eN, eC, g8]) (by simp (disch := (first | omega | (simp only [sP]; omega))) only [eS, eN, eC, g9]) (Below.refl _ _) hcellT (by rw [hone1]; exact ⟨rfl, rfl, .slice none 0 0, rfl, .inl ⟨rfl, rfl⟩⟩) _ ?_
      exact fun A' V7 h => fin _ A' V7 h (fun A' h => h)
  · rintro B V ⟨hm, hsB, hdB, g2, g3, g7, g8, g9, hbV, hWV, fV2, fV3, lv, ds, hc3, hown, hds, hmap⟩
    rw [Nat.sub_zero] at g9 hmap
    have hmap' : ds.map (·.1) = fs.ones.toL := by
      rw [hmap, List.take_of_length_le]
      rw [Trs.toL_len, SFs.ones_len]
      exact Nat.le_refl _
    have hdl : ds.length = fs.len := by
      have := congrArg List.length hmap'
      rwa [List.length_map, Trs.toL_len, SFs.ones_len] at this
    refine vc_sq (vc_rg (by simp) ?_)
    refine r_lss (k := .i64) (m := (fs.len : Int)) (n := (fs.len : Int)) g9 g8 ?_
    refine dn ?_
    refine vc_sq (vc_cond (t := false) ?_ (fun h => by cases h) ?_)
    · simp (disch := (first | omega | (simp only [sP]; omega))) only [eS, eN, eC]
      simp only [Value.bool.injEq, decide_eq_false_iff_not]
      omega
    intro _
    refine vc_exit ?_
    simp only [Exit.then, Exit.inBlock, if_true]
    refine vc_sq_nil ?_
    have hlv1 : lv.oneCell' = true := by rcases own_form5 hown with ⟨rfl, _⟩ | ⟨g, cap, rfl, _⟩ <;> rfl
    refine vc_sq (vc_rg (by simp) ?_)
    refine r_loadAgg (b := b2 + 1) (o := 0) (cs := [.int .i64 0, .slice none 0 0, .bool false, lv, .slice none 0 0]) (by simp (disch := (first | omega | (simp only [sP]; omega))) only [eS, eN, eC, g3]) H.aTree hc3 ?_
    refine r_storeAgg (b := b2) (o := 0) (cs := [.int .i64 0, .slice none 0 0, .bool false, lv, .slice none 0 0]) (by simp (disch := (first | omega | (simp only [sP]; omega))) only [eS, eN, eC, g2]) (by simp (disch := (first | omega | (simp only [sP]; omega))) only [eS, eN, eC]) (by intro v hv; simp only [List.mem_cons, List.not_mem_nil, or_false] at hv; rcases hv with rfl | rfl | rfl | rfl | rfl <;> first | rfl | exact hlv1) H.aTree ?_ ?_
    · intro j hj
      rw [Nat.zero_add]
      exact fV2 j hj
    refine dn ?_
    refine vc_sq (vc_ret ?_)
    have hE := setCells_eff b2 [.int .i64 0, .slice none 0 0, .bool false, lv, .slice none 0 0] V 0
    have hheap : ∀ k, k ≠ b2 → k < V.heap.size → (setCells V b2 0 [.int .i64 0, .slice none 0 0, .bool false, lv, .slice none 0 0]).heap[k]? = V.heap[k]? := fun k hk hl => hE.blockEq hl (fun i h => hk h.1)
    have hsz8 := hE.size
    refine ⟨by simp only [defers_put]; exact hdB, .agg #[.int .i64 0, .slice none 0 0, .bool false, lv, .slice none 0 0], results_cell (b := b2) (o := 0) (cs := [.int .i64 0, .slice none 0 0, .bool false, lv, .slice none 0 0]) (by simp (disch := (first | omega | (simp only [sP]; omega))) only [eS, eN, eC, g2]) H.aTree ?_, [.int .i64 0, .slice none 0 0, .bool false, lv, .slice none 0 0], rfl, ?_, ?_⟩
    · intro j v hv
      refine setCells_cell b2 _ V 0 (fun j hj => ?_) j v hv
      rw [Nat.zero_add]
      exact (fV2 j hj).1
    · refine ⟨rfl, rfl, lv, rfl, ?_⟩
      rcases own_form5 hown with ⟨h1, h0⟩ | ⟨g, cap, h1, hcap, hBg, hg⟩
      · exact .inl ⟨h1, by rw [SFs.ones_len]; omega⟩
      · subst h1
        refine .inr ⟨g, cap, by rw [SFs.ones_len, hdl], by rw [SFs.ones_len]; omega, ⟨by omega, by omega⟩, ?_⟩
        refine Trs.RepD.keep (w := V) (S := fun q => W1.heap.size ≤ q ∧ q < V.heap.size) (fun q ⟨h1, h2⟩ => hheap q (by omega) h2) (fun q ⟨h1, h2⟩ => ⟨by omega, by omega⟩) ⟨hBg, hg⟩ ?_
        refine Trs.RepD.of_get (fun i t ht => ?_)
        rw [← Trs.toL_get, ← hmap', List.getElem?_map] at ht
        cases hd : ds[i]? with
        | none => rw [hd] at ht; cases ht
        | some d =>
          rw [hd, Option.map_some, Option.some.injEq] at ht
          subst ht
          refine ⟨d.2, by rw [Nat.zero_add]; exact own_cells5 hown (fun d hd => (hds d hd).len) rfl hd, ?_⟩
          exact (hds d (List.mem_of_getElem? hd)).keep (fun _ _ => rfl) (fun q ⟨h1, h2, _⟩ => ⟨h1, h2⟩)
    · exact hbV.trans (hE.below (by omega) (by rintro k i hk ⟨h, _⟩; omega))
end
end Go.Km
