/- spec.field: the whole. -/
import Derived.Test.YtnbhpeaapbpaeaaKmS11
set_option linter.unusedSimpArgs false
set_option linter.unusedVariables false
namespace Go.Km
open Go Go.RowKit
attribute [local irreducible] vc runOps runG runS runD

theorem SF.wr_list {v : Int} {fx : Bool} {fr to nul tag df el : Int} {sub : SFs} {n : Int} {s : List UInt8} {tnl : Bool} {l : Trs} {u : List (Nat × List UInt8)} (nl : Bool) (hn : (SF.mk 11 fr to nul tag df el sub).isNull v (.mk n s tnl l u) = nl) (L : List Tr) (hL : L = if nl then [] else l.toL.take 32767) :
    (SF.mk 11 fr to nul tag df el sub).wr v fx (.mk n s tnl l u) = cnt fx nl L.length 4 ++ (L.map fun t => valW el (sub.part v fx) false fx t).flatten := by
  subst hn; subst hL
  simp only [SF.wr, if_true]
  rfl
theorem SF.wr_null {v : Int} {fx : Bool} {fr to nul tag df el : Int} {sub : SFs} {t : Tr} (h0 : nul ≥ 0) :
    (SF.mk 10 fr to nul tag df el sub).wr v fx t = if (SF.mk 10 fr to nul tag df el sub).isNull v t then be 1 (-1) else be 1 1 ++ sub.part v fx t := by
  simp [SF.wr, SFs.part, h0]
theorem SF.wr_val {v : Int} {fx : Bool} {kind fr to nul tag df el : Int} {sub : SFs} {t : Tr} (h1 : kind ≠ 11) (h2 : ¬ (kind = 10 ∧ nul ≥ 0)) :
    (SF.mk kind fr to nul tag df el sub).wr v fx t = valW kind (sub.part v fx) ((SF.mk kind fr to nul tag df el sub).isNull v t) fx t := by
  have : ¬ ((decide (kind = 10) && decide (nul ≥ 0)) = true) := by simpa using h2
  simp only [SF.wr, h1, if_false, this]
  rfl

section
variable {P : Program} {E : Env}
theorem s_field (H : SEnv P E) (HT : STexts P E) (hz8 : zeroT P E.tU8 = some (.int .u8 0)) {ver : Int} {fx : Bool} {f : SF} (hk : f.kindOk = true) (hp : PartC P E ver fx f.sub) : FieldC P E ver fx f := by
  intro U w cs t ts hU hr hrt hbig
  refine CallsV.enter HT.field (by simp) ?_
  intro a hsz hdf harg
  have e0 := harg 0 (.agg cs.toArray) (by simp)
  have e1 := harg 1 (.int .i64 ver) (by simp)
  have e2 := harg 2 (.bool fx) (by simp)
  have e3 := harg 3 (.agg ts.toArray) (by simp)
  unfold c_sField
  refine vc_sq (vc_rg (by simp) ?_)
  refine r_box (v := .agg cs.toArray) (by simp (disch := (first | omega | (simp only [sP]; omega))) only [eS, eN, eC, e0]) ?_
  refine r_box (v := .agg ts.toArray) (by simp (disch := (first | omega | (simp only [sP]; omega))) only [eS, eN, eC, e3]) ?_
  refine r_assign ?_
  refine dn ?_
  generalize hw1 : w.alloc (.cells (Value.agg cs.toArray).cells E.tFld) = w1
  have hb1 : Below U w w1 := by rw [← hw1]; exact (Below.refl U w).alloc (o := .cells _ _) hU
  have hz1 : w1.heap.size = w.heap.size + 1 := by rw [← hw1]; simp
  have c1 : Cells w1 w.heap.size 0 cs := by
    intro i v hv
    rw [← hw1, Nat.zero_add]
    exact cells_new w _ E.tFld (by simpa [Value.cells] using hv)
  clear hw1
  generalize hw2 : w1.alloc (.cells (Value.agg ts.toArray).cells E.tTree) = W
  have hb2 : Below U w W := by rw [← hw2]; exact hb1.trans ((Below.refl U w1).alloc (o := .cells _ _) (by omega))
  have hz2 : W.heap.size = w.heap.size + 2 := by rw [← hw2]; simp [hz1]
  have d1 : Cells W w.heap.size 0 cs := by rw [← hw2]; exact c1.eff (Eff.refl (fun _ _ => False) w1 |>.alloc _) (fun _ _ h => h)
  have d2 : Cells W (w.heap.size + 1) 0 ts := by
    intro i v hv
    rw [← hw2, Nat.zero_add, ← hz1]
    exact cells_new w1 _ E.tTree (by simpa [Value.cells] using hv)
  clear hw2
  rw [hz1]
  refine vc_sq (vc_rg (by simp) ?_)
  refine r_loadAgg (b := w.heap.size) (o := 0) (cs := cs) (by simp (disch := (first | omega | (simp only [sP]; omega))) only [eS, eN, eC]) (by rw [hr.len]; exact H.aFld) d1 ?_
  refine r_move ?_
  refine r_loadAgg (b := w.heap.size + 1) (o := 0) (cs := ts) (by simp (disch := (first | omega | (simp only [sP]; omega))) only [eS, eN, eC]) (by rw [hrt.len]; exact H.aTree) d2 ?_
  refine r_call' (args := #[.agg cs.toArray, .int .i64 ver, .agg ts.toArray]) ?_ (s_null (U := W.heap.size) H HT.null ((hr.below hb2).mono (by omega)) ((hrt.below hb2).mono (by omega)) (Nat.le_refl _)) ?_
  · simp only [List.map_toArray, List.map_cons, List.map_nil]
    simp (disch := (first | omega | (simp only [sP]; omega))) only [eS, eN, eC, e1]
  rintro v w3 ⟨rfl, hb3⟩
  refine r_assign ?_
  refine dn ?_
  generalize hA : Act.put _ (some 9) _ = A
  have hf : FFr P E w U ver fx (f.isNull ver t) cs ts w.heap.size A w3 := by
    rw [← hA]
    exact ⟨by simp only [size_put]; exact hsz, by simp only [defers_put]; exact hdf, (by simp (disch := (first | omega | (simp only [sP]; omega))) only [eS, eN, eC, e1]), (by simp (disch := (first | omega | (simp only [sP]; omega))) only [eS, eN, eC, e2]), (by simp (disch := (first | omega | (simp only [sP]; omega))) only [eS, eN, eC]), (by simp (disch := (first | omega | (simp only [sP]; omega))) only [eS, eN, eC]), (by simp (disch := (first | omega | (simp only [sP]; omega))) only [eS, eN, eC]), hb2.trans (hb3.mono (by omega)), hU, by have := hb3.size; omega, d1.below hb3 (by omega), d2.below hb3 (by omega)⟩
  clear hA
  have hs := hf.size
  cases f with
  | mk kindI fr to nul tag df elI sub =>
  simp only [SF.kindOk, Bool.and_eq_true, decide_eq_true_eq] at hk
  obtain ⟨kind, rfl⟩ := Int.eq_ofNat_of_zero_le hk.1.1.1
  obtain ⟨el, rfl⟩ := Int.eq_ofNat_of_zero_le hk.1.2
  have hel : el ≤ 10 := by omega
  have k0 : w3.cell? ⟨w.heap.size, 0 + 0, none⟩ = some (.int .i64 (kind : Int)) := hf.cf 0 _ (by obtain ⟨sv, rfl, _⟩ := hr; rfl)
  have k3 : w3.cell? ⟨w.heap.size, 0 + 3, none⟩ = some (.int .i64 nul) := hf.cf 3 _ (by obtain ⟨sv, rfl, _⟩ := hr; rfl)
  cases t with
  | mk n s tnl l u =>
  generalize hnl : (SF.mk (kind : Int) fr to nul tag df (el : Int) sub).isNull ver (.mk n s tnl l u) = nl at hf
  refine vc_sq (vc_sq (vc_rg (by simp) ?_))
  refine r_field (b := w.heap.size) (o := 0) (by simp (disch := (first | omega | (simp only [sP]; omega))) only [eS, eN, eC, hf.s4]) (offs_inv H.fFld (by decide)) ?_
  refine r_load (b := w.heap.size) (o := 0 + 0) (by simp (disch := (first | omega | (simp only [sP]; omega))) only [eS, eN, eC]) H.oInt k0 ?_
  refine r_eql (k := .i64) (m := (kind : Int)) (n := 11) (by simp (disch := (first | omega | (simp only [sP]; omega))) only [eS, eN, eC]) rfl ?_
  refine dn ?_
  refine vc_sq (vc_cond (t := ((kind : Int) == 11)) (by (try simp (disch := (first | omega | (simp only [sP]; omega))) only [eS, eN, eC]) <;> (first | rfl | assumption)) ?_ ?_)
  · intro h11
    have h11' : kind = 11 := by simp only [beq_iff_eq] at h11; omega
    subst h11'
    have hwr := SF.wr_list (fx := fx) nl hnl _ rfl
    have hwr' : (SF.mk ((11 : Nat) : Int) fr to nul tag df (el : Int) sub).wr ver fx (.mk n s tnl l u) = _ := hwr
    rw [hwr'] at hbig ⊢
    refine s_fieldL (w := w) (U := U) (b := w.heap.size) (ts := ts) (cs := cs) (nl := nl) H HT hz8 ?_ hr hrt hU hel hp rfl hbig (fun _ _ _ _ h => False.elim h) (fun _ _ h => h)
    repeat (refine FFr.put ?_ _ (by omega))
    exact hf
  · intro h11
    have h11' : kind ≠ 11 := by simp only [beq_eq_false_iff_ne, ne_eq] at h11; omega
    refine vc_skip (vc_sq_nil ?_)
    generalize hB : Act.put _ (some 19) _ = B
    have hfB : FFr P E w U ver fx nl cs ts w.heap.size B w3 := by
      rw [← hB]
      repeat (refine FFr.put ?_ _ (by omega))
      exact hf
    clear hB
    have hsB := hfB.size
    refine vc_sq (vc_sq (vc_rgS [0, 1, 2, 3, 4, 5, 6, 7] rfl ?_))
    refine runS_do rfl (wants_none rfl) (r_field (b := w.heap.size) (o := 0) (by simp (disch := (first | omega | (simp only [sP]; omega))) only [eS, eN, eC, hfB.s4]) (offs_inv H.fFld (by decide)) (dn (runS_then ?_)))
    refine runS_do rfl (wants_none rfl) (r_load (b := w.heap.size) (o := 0 + 0) (by simp (disch := (first | omega | (simp only [sP]; omega))) only [eS, eN, eC]) H.oInt k0 (dn (runS_then ?_)))
    refine runS_do rfl (wants_none rfl) (r_eql (k := .i64) (m := (kind : Int)) (n := 10) (by simp (disch := (first | omega | (simp only [sP]; omega))) only [eS, eN, eC]) rfl (dn (runS_then ?_)))
    (refine runS_do rfl (wants_none rfl) ?_; refine r_move ?_; refine dn (runS_then ?_))
    have fin : ∀ (C : Act), FFr P E w U ver fx nl cs ts w.heap.size C w3 → ¬ (kind = 10 ∧ nul ≥ 0) → ∀ Q : Exit → Act → World → Prop, (∀ a' w', Out P #[.tmp 8] (fun v w' => w'.ownsRow U E.tU8 1 v ((SF.mk (kind : Int) fr to nul tag df (el : Int) sub).wr ver fx (.mk n s tnl l u)).length (((SF.mk (kind : Int) fr to nul tag df (el : Int) sub).wr ver fx (.mk n s tnl l u)).map bv) ∧ Below U w w') .ret a' w' → Q .ret a' w') → vc P (sq [(rg [⟨some 67, .fieldAddr E.tFld (.tmp 4) 0, 0, "", #[], none⟩,
      ⟨some 68, .load E.tInt (.tmp 67), E.tInt, "", #[], none⟩,
      ⟨some 69, .fieldAddr E.tFld (.tmp 4) 7, 0, "", #[], none⟩,
      ⟨some 70, .load E.tFlds (.tmp 69), E.tFlds, "", #[], none⟩,
      ⟨some 71, .move (.tmp 9), E.tBool, "", #[], none⟩,
      ⟨some 72, .move (.tmp 1), E.tInt, "", #[], none⟩,
      ⟨some 73, .move (.tmp 2), E.tBool, "", #[], none⟩,
      ⟨some 74, .load E.tTree (.tmp 7), E.tTree, "", #[], none⟩,
      ⟨some 75, .call { callee := .value (.func E.sValue), args := #[(.tmp 68), (.tmp 70), (.tmp 71), (.tmp 72), (.tmp 73), (.tmp 74)], argTypes := #[E.tInt, E.tFlds, E.tBool, E.tInt, E.tBool, E.tTree] }, E.tBytes, "", #[], none⟩,
      ⟨some 8, .assign (.tmp 75), E.tBytes, "", #[], none⟩]), .ret]) Q C w3 := by
      intro C hfC hno Q hQ
      have hwr := SF.wr_val (v := ver) (fx := fx) (fr := fr) (to := to) (nul := nul) (tag := tag) (df := df) (el := (el : Int)) (sub := sub) (t := .mk n s tnl l u) (kind := (kind : Int)) (by omega) (by omega)
      rw [hnl] at hwr
      rw [hwr] at hbig hQ
      exact s_fieldV H HT hz8 hfC hr hrt hU (by omega) (fun _ => hp) hbig hQ
    by_cases h10 : kind = 10
    · subst h10
      refine runS_do rfl (by rw [wants_some (b := true) rfl rfl (by (try simp (disch := (first | omega | (simp only [sP]; omega))) only [eS, eN, eC]) <;> (first | rfl | assumption))]; rfl) (r_field (b := w.heap.size) (o := 0) (by simp (disch := (first | omega | (simp only [sP]; omega))) only [eS, eN, eC, hfB.s4]) (offs_inv H.fFld (by decide)) (dn (runS_then ?_)))
      refine runS_do rfl (by rw [wants_some (b := true) rfl rfl (by (try simp (disch := (first | omega | (simp only [sP]; omega))) only [eS, eN, eC]) <;> (first | rfl | assumption))]; rfl) (r_load (b := w.heap.size) (o := 0 + 3) (by simp (disch := (first | omega | (simp only [sP]; omega))) only [eS, eN, eC]) H.oInt k3 (dn (runS_then ?_)))
      refine runS_do rfl (by rw [wants_some (b := true) rfl rfl (by (try simp (disch := (first | omega | (simp only [sP]; omega))) only [eS, eN, eC]) <;> (first | rfl | assumption))]; rfl) (r_geq (k := .i64) (m := nul) (n := 0) (by simp (disch := (first | omega | (simp only [sP]; omega))) only [eS, eN, eC]) rfl (dn (runS_then ?_)))
      (refine runS_do rfl (wants_none rfl) ?_; (refine r_pickT ?_ ?_; (try simp (disch := (first | omega | (simp only [sP]; omega))) only [eS, eN, eC]) <;> (first | rfl | assumption)); refine dn (runS_then ?_))
      refine runS_nil ?_
      refine vc_sq (vc_cond (t := decide (nul ≥ 0)) (by (try simp (disch := (first | omega | (simp only [sP]; omega))) only [eS, eN, eC]) <;> (first | rfl | assumption)) ?_ ?_)
      · intro h0
        have h0' : nul ≥ 0 := by simpa using h0
        have hwr := SF.wr_null (v := ver) (fx := fx) (fr := fr) (to := to) (tag := tag) (df := df) (el := (el : Int)) (sub := sub) (t := .mk n s tnl l u) h0'
        have hnl' : (SF.mk 10 fr to nul tag df (el : Int) sub).isNull ver (.mk n s tnl l u) = nl := hnl
        rw [hnl'] at hwr
        have hwr' : (SF.mk ((10 : Nat) : Int) fr to nul tag df (el : Int) sub).wr ver fx (.mk n s tnl l u) = _ := hwr
        rw [hwr'] at hbig ⊢
        refine s_fieldN (w := w) (U := U) (b := w.heap.size) (ts := ts) (cs := cs) (nl := nl) (t := .mk n s tnl l u) H HT ?_ hr hrt hU hp hbig (fun _ _ _ _ h => False.elim h) (fun _ _ h => h)
        repeat (refine FFr.put ?_ _ (by omega))
        exact hfB
      · intro h0
        have h0' : ¬ nul ≥ 0 := by simpa using h0
        refine vc_skip (vc_sq_nil ?_)
        refine fin _ ?_ (fun h => h0' h.2) _ (fun _ _ h => h)
        repeat (refine FFr.put ?_ _ (by omega))
        exact hfB
    · have hb10 : ((kind : Int) == 10) = false := by simp only [beq_eq_false_iff_ne, ne_eq]; omega
      rw [hb10]
      (refine runS_no rfl (by rw [wants_some (b := false) rfl rfl (by (try simp (disch := (first | omega | (simp only [sP]; omega))) only [eS, eN, eC]) <;> (first | rfl | assumption))]; rfl) ?_)
      (refine runS_no rfl (by rw [wants_some (b := false) rfl rfl (by (try simp (disch := (first | omega | (simp only [sP]; omega))) only [eS, eN, eC]) <;> (first | rfl | assumption))]; rfl) ?_)
      (refine runS_no rfl (by rw [wants_some (b := false) rfl rfl (by (try simp (disch := (first | omega | (simp only [sP]; omega))) only [eS, eN, eC]) <;> (first | rfl | assumption))]; rfl) ?_)
      (refine runS_do rfl (wants_none rfl) ?_; (refine r_pickF ?_ ?_; (try simp (disch := (first | omega | (simp only [sP]; omega))) only [eS, eN, eC]) <;> (first | rfl | assumption)); refine dn (runS_then ?_))
      refine runS_nil ?_
      refine vc_sq (vc_cond (t := false) (by (try simp (disch := (first | omega | (simp only [sP]; omega))) only [eS, eN, eC]) <;> (first | rfl | assumption)) (fun h => by cases h) ?_)
      intro _
      refine vc_skip (vc_sq_nil ?_)
      refine fin _ ?_ (fun h => h10 h.1) _ (fun _ _ h => h)
      repeat (refine FFr.put ?_ _ (by omega))
      exact hfB
end
end Go.Km
