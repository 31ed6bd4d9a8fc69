/- spec.unknown. -/
import Derived.Test.YtnbhpeaapbpaeaaKmS18
set_option linter.unusedSimpArgs false
set_option linter.unusedVariables false
namespace Go.Km
open Go Go.RowKit
attribute [local irreducible] vc runOps runG runS runD

theorem UnkB.items {w : World} {U : Nat} {v : Value} {u : List (Nat × List UInt8)} (h : UnkB w U v u) : ∃ ad cap, v = .slice ad u.length cap ∧ u.length ≤ cap ∧
    ∀ (i : Nat) (x : Nat × List UInt8), u[i]? = some x → ∃ q o s, ad = some ⟨q, o, none⟩ ∧ q < U ∧ x.1 < 4294967296 ∧ Cells w q (o + i * 2) [.int .u32 (x.1 : Int), s] ∧ OctsB w U s x.2 := by
  rcases h with ⟨rfl, rfl⟩ | ⟨q, o, cap, rfl, hc, hq, h⟩
  · exact ⟨none, 0, rfl, Nat.le_refl _, fun i x hx => by simp at hx⟩
  · refine ⟨_, cap, rfl, hc, fun i x hx => ?_⟩
    obtain ⟨s, h1, h2, h3⟩ := h i x hx
    exact ⟨q, o, s, rfl, hq, h1, h2, h3⟩
theorem UnkB.of_own {w w' : World} {U B : Nat} {e : TypeId} {v : Value} {es : List UE} (h : w'.ownsRow B e 2 v es.length (fl es)) (hok : ∀ x ∈ es, x.1.1 < 4294967296 ∧ OctsB w U x.2 x.1.2) (hU : U ≤ w.heap.size) (hw : Below U w w') : UnkB w' w'.heap.size v (es.map (·.1)) := by
  have hUw : U ≤ w'.heap.size := Nat.le_trans hU hw.size
  rcases own_form2 h with ⟨rfl, h0⟩ | ⟨g, cap, rfl, hc, _, hg⟩
  · refine .inl ⟨rfl, ?_⟩
    rw [List.eq_nil_of_length_eq_zero h0]
    rfl
  · refine .inr ⟨g, 0, cap, by rw [List.length_map], by rw [List.length_map]; exact hc, hg, fun i x hx => ?_⟩
    rw [List.getElem?_map] at hx
    cases hi : es[i]? with
    | none => rw [hi] at hx; cases hx
    | some e =>
      rw [hi, Option.map_some, Option.some.injEq] at hx
      subst hx
      obtain ⟨h1, h2⟩ := hok e (List.mem_of_getElem? hi)
      exact ⟨e.2, h1, by rw [Nat.zero_add]; exact own_cells2 h hi, (h2.below hw).mono hUw⟩

section
variable {P : Program} {E : Env} {w : World} {U : Nat}
set_option maxHeartbeats 2000000 in
theorem s_unknown (H : SEnv P E) (HL : SLay P E) (HT : STexts P E) : UnkC P E := by
  intro U w sv uv fs u hU hsf htg hfl hu
  refine CallsV.enter HT.unknown (by simp) ?_
  intro a hsz hdf harg
  have e0 := harg 0 sv (by simp)
  have e1 := harg 1 uv (by simp)
  have hsl := rowB_slice H.rUnks
  obtain ⟨z, hz, hzc⟩ := rowB_zero H.rUnks
  obtain ⟨ad, cap, huv, hcap, hit⟩ := hu.items
  unfold c_sUnknown
  refine vc_sq (vc_rg (by simp) ?_)
  refine r_assign ?_
  refine dn ?_
  refine vc_sq (vc_rg (by simp) ?_)
  refine r_move ?_
  refine r_call' (args := #[sv]) ?_ (s_known (U := w.heap.size) H HL HT (hsf.mono hU) (Nat.le_refl _) htg hfl) ?_
  · simp only [List.map_toArray, List.map_cons, List.map_nil]
    simp (disch := (first | omega | (simp only [sP]; omega))) only [eS, eN, eC, e0]
  rintro v W1 ⟨rfl, hb1⟩
  generalize hle : known fs.tags = le at *
  refine r_assign ?_
  refine dn ?_
  refine vc_sq (vc_rg (by simp) ?_)
  refine r_assign ?_
  refine dn ?_
  have hU1 : U ≤ W1.heap.size := Nat.le_trans hU hb1.size
  have hbU1 : Below U w W1 := hb1.mono hU
  have hmin : (if (32767 : Int) < (u.length : Int) then 32767 else (u.length : Int)) = ((u.take 32767).length : Int) := by
    rw [List.length_take]; split <;> omega
  have hun : unk le u = (u.take 32767).foldl (fun l x => if x.1 < le then l else insU x l) [] := rfl
  have htl : (u.take 32767).length ≤ u.length := by rw [List.length_take]; omega
  have htm : (u.take 32767).length ≤ 32767 := by rw [List.length_take]; omega
  have hit' : ∀ (i : Nat) (x : Nat × List UInt8), (u.take 32767)[i]? = some x → ∃ q o s, ad = some ⟨q, o, none⟩ ∧ q < U ∧ x.1 < 4294967296 ∧ Cells w q (o + i * 2) [.int .u32 (x.1 : Int), s] ∧ OctsB w U s x.2 := by
    intro i x hx
    rw [List.getElem?_take] at hx
    split at hx
    · exact hit i x hx
    · cases hx
  refine vc_sq (vc_sq (vc_rg (by simp) ?_))
  refine r_move ?_
  refine r_move ?_
  refine r_len (ad := ad) (n := u.length) (c := cap) hsl (by simp (disch := (first | omega | (simp only [sP]; omega))) only [eS, eN, eC, e1, huv]) ?_
  refine r_min (k := .i64) (m := (u.length : Int)) (n := 32767) (by simp (disch := (first | omega | (simp only [sP]; omega))) only [eS, eN, eC]) rfl ?_
  rw [hmin]
  rw [hun]
  generalize u.take 32767 = u' at *
  refine r_sliceTo (k := .i64) (ad := ad) (len := u.length) (cap := cap) (h := u'.length) hsl (by simp (disch := (first | omega | (simp only [sP]; omega))) only [eS, eN, eC, e1, huv]) (by simp (disch := (first | omega | (simp only [sP]; omega))) only [eS, eN, eC]) (by omega) ?_
  refine r_len (ad := ad) (n := u'.length) (c := cap) hsl (by simp (disch := (first | omega | (simp only [sP]; omega))) only [eS, eN, eC]) ?_
  refine r_move ?_
  refine dn ?_
  refine vc_sq (vc_block (vc_count (fun m A V => m ≤ u'.length ∧ A.tmps.size = 85 ∧ A.defers = [] ∧ A.eval (.tmp 5) = .int .u32 (le : Int) ∧ A.eval (.tmp 17) = .slice ad u'.length cap ∧ A.eval (.tmp 18) = .int .i64 (u'.length : Int) ∧ A.eval (.tmp 19) = .int .i64 ((u'.length - m : Nat) : Int) ∧ Below W1.heap.size W1 V ∧
    ∃ (es : List UE) (v6 : Value), A.eval (.tmp 6) = v6 ∧ V.ownsRow W1.heap.size E.tUnk 2 v6 es.length (fl es) ∧ (∀ e ∈ es, e.1.1 < 4294967296 ∧ OctsB w U e.2 e.1.2) ∧ es.length ≤ u'.length - m ∧ es.map (·.1) = (u'.take (u'.length - m)).foldl (fun l x => if x.1 < le then l else insU x l) []) u'.length ?_ ?_ ?_))
  · refine ⟨Nat.le_refl _, by simp only [size_put]; exact hsz, by simp only [defers_put]; exact hdf, (by simp (disch := (first | omega | (simp only [sP]; omega))) only [eS, eN, eC]), (by simp (disch := (first | omega | (simp only [sP]; omega))) only [eS, eN, eC]), (by simp (disch := (first | omega | (simp only [sP]; omega))) only [eS, eN, eC]), ?_, Below.refl _ _, [], .slice none 0 0, (by simp (disch := (first | omega | (simp only [sP]; omega))) only [eS, eN, eC]), World.ownsRow_nil _ _ _ _, by simp, Nat.zero_le _, by simp⟩
    simp (disch := (first | omega | (simp only [sP]; omega))) only [eS, eN, eC]
    simp
  · rintro m A V ⟨hm, hs, hd, g5, g17, g18, g19, hbV, es, v6, g6, hown, hok, hesl, hmap⟩
    have hi : u'.length - (m + 1) < u'.length := by omega
    have him : u'.length - m = (u'.length - (m + 1)) + 1 := by omega
    rw [him]
    generalize hii : u'.length - (m + 1) = i at *
    obtain ⟨q, o, s, rfl, hq, hkey, hcs, hoc⟩ := hit' i u'[i] (List.getElem?_eq_getElem hi)
    have hfold : (u'.take (i + 1)).foldl (fun l x => if x.1 < le then l else insU x l) [] = if u'[i].1 < le then es.map (·.1) else insU u'[i] (es.map (·.1)) := by
      rw [List.take_succ_eq_append_getElem hi, List.foldl_append, ← hmap]
      rfl
    rw [hfold]
    generalize hx : u'[i] = x at *
    obtain ⟨tk, oc⟩ := x
    simp only at hkey hcs hoc hfold ⊢
    have hbwV : Below U w V := hbU1.trans (hbV.mono hU1)
    have hcsV := hcs.below hbwV hq
    have hUV : U ≤ V.heap.size := Nat.le_trans hU1 hbV.size
    refine vc_sq (vc_rg (by simp) ?_)
    refine r_lss (k := .i64) (m := (i : Int)) (n := (u'.length : Int)) g19 g18 ?_
    refine dn ?_
    refine vc_sq (vc_cond (t := true) ?_ ?_ (fun h => by cases h))
    · simp (disch := (first | omega | (simp only [sP]; omega))) only [eS, eN, eC]
      simp only [Value.bool.injEq, decide_eq_true_eq]
      omega
    intro _
    refine vc_skip ?_
    refine vc_sq (vc_block (vc_sq (vc_rg (by simp) ?_)))
    refine r_index (k := .i64) (j := i) (b := q) (o := o) (len := u'.length) (cap := cap) hsl (by simp (disch := (first | omega | (simp only [sP]; omega))) only [eS, eN, eC, g17]) (by simp (disch := (first | omega | (simp only [sP]; omega))) only [eS, eN, eC, g19]) hi ?_
    refine r_loadAgg (b := q) (o := o + i * 2) (cs := [.int .u32 (tk : Int), s]) (by simp (disch := (first | omega | (simp only [sP]; omega))) only [eS, eN, eC]) H.aUnk hcsV ?_
    refine r_alloc hz ?_
    have hs1 : s.oneCell' = true := hoc.one
    refine r_storeAgg (b := V.heap.size) (o := 0) (cs := [.int .u32 (tk : Int), s]) (by simp (disch := (first | omega | (simp only [sP]; omega))) only [eS, eN, eC]) (by simp (disch := (first | omega | (simp only [sP]; omega))) only [eS, eN, eC]) (by intro v hv; simp only [List.mem_cons, List.not_mem_nil, or_false] at hv; rcases hv with rfl | rfl; rfl; exact hs1) H.aUnk ?_ ?_
    · intro j hj
      rw [Nat.zero_add]
      exact free_new V _ _ (by rw [hzc]; simpa using hj)
    refine dn ?_
    have hcell : Cells (setCells (V.alloc (.cells z.cells E.tUnk)) V.heap.size 0 [.int .u32 (tk : Int), s]) V.heap.size 0 [.int .u32 (tk : Int), s] := fun j v hv => by
      refine setCells_cell V.heap.size [.int .u32 (tk : Int), s] _ 0 (fun j hj => ?_) j v hv
      rw [Nat.zero_add]
      exact (free_new V z.cells E.tUnk (by rw [hzc]; simpa using hj)).1
    have hb3 : Below V.heap.size V (setCells (V.alloc (.cells z.cells E.tUnk)) V.heap.size 0 [.int .u32 (tk : Int), s]) := by
      refine ((Below.refl V.heap.size V).alloc (o := .cells _ _) (Nat.le_refl _)).trans ((setCells_eff V.heap.size [.int .u32 (tk : Int), s] _ 0).below (by simp) (by rintro k i hk ⟨rfl, _, _⟩; omega))
    have hz3 : V.heap.size < (setCells (V.alloc (.cells z.cells E.tUnk)) V.heap.size 0 [.int .u32 (tk : Int), s]).heap.size := by
      have := (setCells_eff V.heap.size [.int .u32 (tk : Int), s] (V.alloc (.cells z.cells E.tUnk)) 0).size
      simp at this
      omega
    generalize setCells (V.alloc (.cells z.cells E.tUnk)) V.heap.size 0 [.int .u32 (tk : Int), s] = V1 at hcell hb3 hz3 ⊢
    have hown1 := own_below hown hb3
    have hWV : W1.heap.size ≤ V.heap.size := hbV.size
    have hbV1 : Below W1.heap.size W1 V1 := hbV.trans (hb3.mono hWV)
    have hbbl : ∀ g, v6.ownBlock = some g → g ≠ V.heap.size := fun g hg => by have := own_block_lt hown hg; omega
    generalize hbb : V.heap.size = bb at *
    refine vc_sq (vc_rg (by simp) ?_)
    refine r_assign ?_
    refine dn ?_
    generalize hG : (((((A.put (some 20) _).put (some 21) _).put (some 22) _).put (some 8) _).put (some 9) _) = G
    have hsG : G.tmps.size = 85 := by rw [← hG]; simp only [size_put]; exact hs
    have hdG : G.defers = [] := by rw [← hG]; simp only [defers_put]; exact hd
    have k5 : G.eval (.tmp 5) = .int .u32 (le : Int) := by rw [← hG]; simp (disch := (first | omega | (simp only [sP]; omega))) only [eS, eN, eC, g5]
    have k6 : G.eval (.tmp 6) = v6 := by rw [← hG]; simp (disch := (first | omega | (simp only [sP]; omega))) only [eS, eN, eC, g6]
    have k8 : G.eval (.tmp 8) = .pointer (some ⟨bb, 0, none⟩) := by rw [← hG]; simp (disch := (first | omega | (simp only [sP]; omega))) only [eS, eN, eC]
    have k9 : G.eval (.tmp 9) = .int .i64 0 := by rw [← hG]; simp (disch := (first | omega | (simp only [sP]; omega))) only [eS, eN, eC]
    have k17 : G.eval (.tmp 17) = .slice (some ⟨q, o, none⟩) u'.length cap := by rw [← hG]; simp (disch := (first | omega | (simp only [sP]; omega))) only [eS, eN, eC, g17]
    have k18 : G.eval (.tmp 18) = .int .i64 (u'.length : Int) := by rw [← hG]; simp (disch := (first | omega | (simp only [sP]; omega))) only [eS, eN, eC, g18]
    have k19 : G.eval (.tmp 19) = .int .i64 (i : Int) := by rw [← hG]; simp (disch := (first | omega | (simp only [sP]; omega))) only [eS, eN, eC, g19]
    clear hG
    obtain ⟨ad6, cap6, hv6, hg6⟩ : ∃ ad6 cap6, v6 = .slice ad6 es.length cap6 ∧ ∀ j, j < es.length → ∃ g, ad6 = some ⟨g, 0, none⟩ ∧ Cells V1 g (0 + j * 2) [.int .u32 ((es[j]?.map (·.1.1)).getD 0 : Nat), (es[j]?.map (·.2)).getD (.slice none 0 0)] := by
      rcases own_form2 hown1 with ⟨h1, h0⟩ | ⟨g, cap6, h1, _⟩
      · exact ⟨none, 0, by rw [h0]; exact h1, fun j hj => by omega⟩
      · subst h1
        refine ⟨_, cap6, rfl, fun j hj => ⟨g, rfl, ?_⟩⟩
        have := own_cells2 (i := j) hown1 (List.getElem?_eq_getElem hj)
        rw [List.getElem?_eq_getElem hj, Nat.zero_add]
        exact this
    have hpl := pos_le tk (es.map (·.1))
    rw [List.length_map] at hpl
    have hplt := pos_lt tk (es.map (·.1))
    have hpat := pos_at tk (es.map (·.1))
    have hins := insU_pos (tk, oc) (es.map (·.1))
    simp only at hins
    generalize hp : pos tk (es.map (·.1)) = p at *
    have fin : ∀ (B' : Act) (V' : World) (es' : List UE) (v6' : Value), B'.tmps.size = 85 → B'.defers = [] → B'.eval (.tmp 5) = .int .u32 (le : Int) → B'.eval (.tmp 17) = .slice (some ⟨q, o, none⟩) u'.length cap → B'.eval (.tmp 18) = .int .i64 (u'.length : Int) → B'.eval (.tmp 19) = .int .i64 (i : Int) → Below W1.heap.size W1 V' →
        B'.eval (.tmp 6) = v6' → V'.ownsRow W1.heap.size E.tUnk 2 v6' es'.length (fl es') → (∀ e ∈ es', e.1.1 < 4294967296 ∧ OctsB w U e.2 e.1.2) → es'.length ≤ i + 1 → es'.map (·.1) = (if tk < le then es.map (·.1) else insU (tk, oc) (es.map (·.1))) → ∀ Q : Exit → Act → World → Prop,
        (∀ A', (m ≤ u'.length ∧ A'.tmps.size = 85 ∧ A'.defers = [] ∧ A'.eval (.tmp 5) = .int .u32 (le : Int) ∧ A'.eval (.tmp 17) = .slice (some ⟨q, o, none⟩) u'.length cap ∧ A'.eval (.tmp 18) = .int .i64 (u'.length : Int) ∧ A'.eval (.tmp 19) = .int .i64 ((i + 1 : Nat) : Int) ∧ Below W1.heap.size W1 V' ∧
          ∃ (es' : List UE) (v6' : Value), A'.eval (.tmp 6) = v6' ∧ V'.ownsRow W1.heap.size E.tUnk 2 v6' es'.length (fl es') ∧ (∀ e ∈ es', e.1.1 < 4294967296 ∧ OctsB w U e.2 e.1.2) ∧ es'.length ≤ i + 1 ∧ es'.map (·.1) = (if tk < le then es.map (·.1) else insU (tk, oc) (es.map (·.1)))) → Q .normal A' V') →
        vc P (sq [(rg [⟨some 83, .binOp .add E.tInt (.tmp 19) (.const (.int .i64 1)) E.tInt, E.tInt, "", #[], none⟩, ⟨some 19, .move (.tmp 83), E.tInt, "", #[], none⟩])]) Q B' V' := by
      intro B' V' es' v6' b0 b1 b2 b3 b4 b5 b6 b7 b8 b9 b10 b11 Q hQ
      refine vc_sq (vc_rg (by simp) ?_)
      refine r_add (k := .i64) (m := (i : Int)) (n := 1) (by simp (disch := (first | omega | (simp only [sP]; omega))) only [eS, eN, eC, b5]) rfl ?_
      refine r_move ?_
      refine dn ?_
      refine vc_sq_nil ?_
      refine hQ _ ⟨by omega, by simp only [size_put]; exact b0, by simp only [defers_put]; exact b1, (by simp (disch := (first | omega | (simp only [sP]; omega))) only [eS, eN, eC, b2]), (by simp (disch := (first | omega | (simp only [sP]; omega))) only [eS, eN, eC, b3]), (by simp (disch := (first | omega | (simp only [sP]; omega))) only [eS, eN, eC, b4]), ?_, b6, es', v6', (by simp (disch := (first | omega | (simp only [sP]; omega))) only [eS, eN, eC, b7]), b8, b9, b10, b11⟩
      simp (disch := (first | omega | (simp only [sP]; omega))) only [eS, eN, eC]
      rw [wrap_i64 (by omega) (by omega)]
      rfl
    refine vc_sq (vc_block (vc_count (fun m' A' V' => m' ≤ p ∧ A'.tmps.size = 85 ∧ A'.defers = [] ∧ (∀ k : Nat, k < 23 → k ≠ 9 → A'.eval (.tmp k) = G.eval (.tmp k)) ∧ A'.eval (.tmp 9) = .int .i64 ((p - m' : Nat) : Int) ∧ ∃ d, V' = { V1 with drawn := d }) p ?_ ?_ ?_))
    · refine ⟨Nat.le_refl _, hsG, hdG, fun _ _ _ => rfl, ?_, V1.drawn, rfl⟩
      rw [k9]
      simp
    · rintro m' A' V' ⟨hm', hs', hd', hk', g9, d, rfl⟩
      have hjp : p - (m' + 1) < p := by omega
      have hjm : p - m' = (p - (m' + 1)) + 1 := by omega
      rw [hjm]
      generalize hjj : p - (m' + 1) = j at *
      have hjl : j < es.length := by omega
      obtain ⟨g, rfl, hcj⟩ := hg6 j hjl
      rw [List.getElem?_eq_getElem hjl] at hcj
      have hlt := hplt j (by simpa using hjl) hjp
      simp only [List.getElem_map] at hlt
      refine vc_sq (vc_sq (s_unkT1 (j := j) (n := es.length) (cap := cap6) (tk := tk) (bb := bb) (ad := some ⟨g, 0, none⟩) (res := true) H HT hs' g9 (by rw [hk' 6 (by omega) (by omega), k6, hv6]) (by rw [hk' 8 (by omega) (by omega), k8]) (hcell 0 _ rfl) (fun _ => ⟨g, es[j].1.1, rfl, hcj 0 _ rfl, ?_⟩) (fun h => absurd hjl h) (fun _ _ _ _ h => False.elim h) ?_))
      · simp
        omega
      intro B' b0 b1 b2 b3
      refine vc_sq (vc_cond (t := true) b3 ?_ (fun h => by cases h))
      intro _
      refine vc_skip (vc_sq_nil ?_)
      refine vc_sq (vc_block (vc_rg (by simp) ?_))
      refine r_move ?_
      refine r_add (k := .i64) (m := (j : Int)) (n := 1) ?_ rfl ?_
      · simp (disch := (first | omega | (simp only [sP]; omega))) only [eS, eN, eC]
        rw [b2 9 (by omega), g9]
      refine r_assign ?_
      refine dn ?_
      refine vc_sq_nil ?_
      refine ⟨by omega, by simp only [size_put]; exact b0, by simp only [defers_put]; rw [b1]; exact hd', fun k h1 h2 => ?_, ?_, d + 1, rfl⟩
      · simp (disch := (first | omega | (simp only [sP]; omega))) only [eS, eN, eC]
        rw [b2 k h1, hk' k h1 h2]
      · simp (disch := (first | omega | (simp only [sP]; omega))) only [eS, eN, eC]
        rw [wrap_i64 (by omega) (by omega)]
        rfl
    · rintro A' V' ⟨hm', hs', hd', hk', g9, d, rfl⟩
      rw [Nat.sub_zero] at g9
      refine vc_sq (vc_sq (s_unkT1 (j := p) (n := es.length) (cap := cap6) (tk := tk) (bb := bb) (ad := ad6) (res := false) H HT hs' g9 (by rw [hk' 6 (by omega) (by omega), k6, hv6]) (by rw [hk' 8 (by omega) (by omega), k8]) (hcell 0 _ rfl) (fun hpl' => ?_) (fun _ => rfl) (fun _ _ _ _ h => False.elim h) ?_))
      · obtain ⟨g, rfl, hcj⟩ := hg6 p hpl'
        rw [List.getElem?_eq_getElem hpl'] at hcj
        have hnl := hpat (by simpa using hpl')
        simp only [List.getElem_map] at hnl
        refine ⟨g, es[p].1.1, rfl, hcj 0 _ rfl, ?_⟩
        simp
        omega
      intro B' b0 b1 b2 b3
      refine vc_sq (vc_cond (t := false) b3 (fun h => by cases h) ?_)
      intro _
      refine vc_exit ?_
      simp only [Exit.then, Exit.inBlock, if_true]
      have hB9 : B'.eval (.tmp 9) = .int .i64 (p : Int) := by rw [b2 9 (by omega), g9]
      have hBk : ∀ k : Nat, k < 23 → k ≠ 9 → B'.eval (.tmp k) = G.eval (.tmp k) := fun k h1 h2 => by rw [b2 k h1, hk' k h1 h2]
      have hB6 : B'.eval (.tmp 6) = .slice ad6 es.length cap6 := by rw [hBk 6 (by omega) (by omega), k6, hv6]
      have hB8 : B'.eval (.tmp 8) = .pointer (some ⟨bb, 0, none⟩) := by rw [hBk 8 (by omega) (by omega), k8]
      have hB5 : B'.eval (.tmp 5) = .int .u32 (le : Int) := by rw [hBk 5 (by omega) (by omega), k5]
      generalize hdup : (decide (tk < le) || decide (((es.map (·.1))[p]?).map (·.1) = some tk)) = dup
      refine vc_sq (vc_sq (s_unkT2 (j := p) (n := es.length) (cap := cap6) (tk := tk) (bb := bb) (le := le) (ad := ad6) (res := dup) H HT b0 hB5 hB9 hB6 hB8 (hcell 0 _ rfl) ?_ ?_ ?_ (fun _ _ _ _ h => False.elim h) ?_))
      · intro h
        rw [← hdup]
        simp [h]
      · intro h hpl'
        obtain ⟨g, rfl, hcj⟩ := hg6 p hpl'
        rw [List.getElem?_eq_getElem hpl'] at hcj
        refine ⟨g, es[p].1.1, rfl, hcj 0 _ rfl, ?_⟩
        rw [← hdup]
        have h2 : ¬ tk < le := h
        simp only [h2, decide_false, Bool.false_or, List.getElem?_map, List.getElem?_eq_getElem hpl', Option.map_some, Option.some.injEq]
        exact decide_eq_decide.2 ⟨fun h => by omega, fun h => by omega⟩
      · intro h hpl'
        rw [← hdup]
        have h2 : ¬ tk < le := h
        simp only [h2, decide_false, Bool.false_or, List.getElem?_map, List.getElem?_eq_none (Nat.le_of_not_lt hpl'), Option.map_none, decide_eq_false_iff_not]
        intro h
        cases h
      intro C c0 c1 c2 c3
      have hCk : ∀ k : Nat, k < 23 → k ≠ 9 → C.eval (.tmp k) = G.eval (.tmp k) := fun k h1 h2 => by rw [c2 k h1, hBk k h1 h2]
      have hCd : C.defers = [] := by rw [c1, b1]; exact hd'
      refine vc_sq (vc_cond (t := dup) c3 ?_ ?_)
      · intro ht
        refine vc_exit ?_
        simp only [Exit.then, Exit.inBlock, if_true]
        refine fin C { V1 with drawn := d + 1 + 1 } es v6 c0 hCd (by rw [hCk 5 (by omega) (by omega), k5]) (by rw [hCk 17 (by omega) (by omega), k17]) (by rw [hCk 18 (by omega) (by omega), k18]) (by rw [hCk 19 (by omega) (by omega), k19]) ⟨hbV1.os, hbV1.tape, hbV1.output, hbV1.size, hbV1.block⟩ (by rw [hCk 6 (by omega) (by omega), k6]) hown1 hok (by omega) ?_ _ (fun A' h => h)
        rw [ht] at hdup
        simp only [Bool.or_eq_true, decide_eq_true_eq] at hdup
        rcases hdup with h | h
        · rw [if_pos h]
        · rw [hins, if_pos h, ite_self]
      · intro ht
        refine vc_skip ?_
        refine vc_sq_nil ?_
        rw [ht] at hdup
        simp only [Bool.or_eq_false_iff, decide_eq_false_iff_not] at hdup
        refine s_unkIns (B := W1.heap.size) (bb := bb) (j := p) (v6 := v6) (es := es) (t := ((tk, oc), s)) (V := { V1 with drawn := d + 1 + 1 }) H HL c0 (by rw [hCk 6 (by omega) (by omega), k6]) (by rw [hCk 8 (by omega) (by omega), k8]) (by rw [c2 9 (by omega), hB9]) hpl (by omega) (Nat.le_trans hWV (Nat.le_of_lt hz3)) hown1 (fun e he => (hok e he).2.one) hs1 hz3 hbbl hcell ?_
        intro A2 V2 v2 d0 d1 d2 d3 d4 d5
        have hlen2 : (es.take p ++ ((tk, oc), s) :: es.drop p).length = es.length + 1 := by
          simp only [List.length_append, List.length_cons, List.length_take, List.length_drop]
          omega
        rw [← hlen2] at d5
        have hbV2 : Below W1.heap.size V1 V2 := ⟨d4.os, d4.tape, d4.output, d4.size, d4.block⟩
        refine fin A2 V2 _ v2 d0 (by rw [d1]; exact hCd) (by rw [d2 5 (by omega) (by omega) (by omega), hCk 5 (by omega) (by omega), k5]) (by rw [d2 17 (by omega) (by omega) (by omega), hCk 17 (by omega) (by omega), k17]) (by rw [d2 18 (by omega) (by omega) (by omega), hCk 18 (by omega) (by omega), k18]) (by rw [d2 19 (by omega) (by omega) (by omega), hCk 19 (by omega) (by omega), k19]) (hbV1.trans hbV2) d3 d5 ?_ (by rw [hlen2]; omega) ?_ _ (fun A' h => h)
        · intro e he
          rcases List.mem_append.1 he with h | h
          · exact hok e (List.mem_of_mem_take h)
          · rcases List.mem_cons.1 h with rfl | h
            · exact ⟨hkey, hoc⟩
            · exact hok e (List.mem_of_mem_drop h)
        · rw [if_neg hdup.1, hins, if_neg hdup.2]
          simp only [List.map_append, List.map_cons, List.map_take, List.map_drop]
  · rintro A V ⟨hm, hs, hd, g5, g17, g18, g19, hbV, es, v6, g6, hown, hok, hesl, hmap⟩
    rw [Nat.sub_zero] at g19 hmap
    rw [List.take_length] at hmap
    refine vc_sq (vc_rg (by simp) ?_)
    refine r_lss (k := .i64) (m := (u'.length : Int)) (n := (u'.length : Int)) g19 g18 ?_
    refine dn ?_
    refine vc_sq (vc_cond (t := false) ?_ (fun h => by cases h) ?_)
    · simp (disch := (first | omega | (simp only [sP]; omega))) only [eS, eN, eC]
      simp only [Value.bool.injEq, decide_eq_false_iff_not]
      omega
    intro _
    refine vc_exit ?_
    simp only [Exit.then, Exit.inBlock, if_true]
    refine vc_sq_nil ?_
    refine vc_sq (vc_rg (by simp) ?_)
    refine r_move ?_
    refine r_assign ?_
    refine dn ?_
    refine vc_sq (vc_ret ?_)
    have hfin : Below U w V := hbU1.trans (hbV.mono hU1)
    refine ⟨by simp only [defers_put]; exact hd, v6, results_one (by simp (disch := (first | omega | (simp only [sP]; omega))) only [eS, eN, eC, g6]), ?_, hfin⟩
    rw [← hmap]
    exact UnkB.of_own hown hok hU hfin
end
end Go.Km
