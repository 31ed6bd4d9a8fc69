/- The spec's messages: the functions that give them. -/
import Derived.Test.YtnbhpeaapbpaeaaKmL1
import Derived.Test.YtnbhpeaapbpaeaaKmD1
set_option linter.unusedSimpArgs false
set_option linter.unusedVariables false
namespace Go.Km
open Go Go.RowKit
attribute [local irreducible] vc runOps runG runS runD

/-- These cells say these fields. -/
def Reps (W : World) (U : Nat) : List (List Value) → List FE → Prop
  | [], [] => True
  | c :: cs, f :: l => f.1.Rep W U c ∧ Reps W U cs l
  | _, _ => False
theorem Reps.len {W : World} {U : Nat} : ∀ {cs : List (List Value)} {l : List FE}, Reps W U cs l → cs.length = l.length ∧ ∀ c ∈ cs, c.length = 8
  | [], [], _ => ⟨rfl, by simp⟩
  | c :: cs, f :: l, ⟨h1, h2⟩ => by
    obtain ⟨h3, h4⟩ := Reps.len h2
    refine ⟨by simp [h3], fun x hx => ?_⟩
    rcases List.mem_cons.1 hx with rfl | hx
    · exact h1.len
    · exact h4 x hx
  | [], _ :: _, h => h.elim
  | _ :: _, [], h => h.elim
theorem Reps.below {W W' : World} {U U' : Nat} (hW : Below U W W') (hU : U ≤ U') : ∀ {cs : List (List Value)} {l : List FE}, Reps W U cs l → Reps W' U' cs l
  | [], [], _ => trivial
  | c :: cs, f :: l, ⟨h1, h2⟩ => ⟨(h1.below hW).mono hU, Reps.below hW hU h2⟩
  | [], _ :: _, h => h.elim
  | _ :: _, [], h => h.elim
theorem FVals.cells {A : Act} {W : World} : ∀ {ss : List Nat} {l : List FE}, FVals A W ss l → ∃ cs : List (List Value), (ss.map fun s => A.eval (.tmp s)) = cs.map (fun c => Value.agg c.toArray) ∧ Reps W W.heap.size cs l
  | [], [], _ => ⟨[], rfl, trivial⟩
  | s :: ss, f :: l, ⟨⟨c, h1, h2⟩, h3⟩ => by
    obtain ⟨cs, h4, h5⟩ := FVals.cells h3
    exact ⟨c :: cs, by simp only [List.map_cons, h1, h4], h2, h5⟩
  | [], _ :: _, h => h.elim
  | _ :: _, [], h => h.elim
theorem sfs_rep {w : World} {U q : Nat} : ∀ {cs : List (List Value)} {l : List FE} {o : Nat}, Reps w U cs l → Cells w q o cs.flatten → (toSFs l).Rep w U q o
  | [], [], o, _, _ => trivial
  | c :: cs, f :: l, o, ⟨h1, h2⟩, hc => by
    have h8 := h1.len
    simp only [List.flatten_cons] at hc
    refine ⟨⟨c, ?_, h1⟩, sfs_rep h2 ?_⟩
    · have := hc.tk (n := c.length)
      rwa [List.take_left] at this
    · have := hc.dp (n := c.length)
      rwa [List.drop_left, h8] at this
  | [], _ :: _, _, h, _ => h.elim
  | _ :: _, [], _, h, _ => h.elim

mutual
/-- A block of fewer cells than a field has says nothing of fields. -/
theorem SF.Rep.other {w w' : World} {U b : Nat} (hk : ∀ k, k ≠ b → w'.heap[k]? = w.heap[k]?) (hb : ∀ i, 7 ≤ i → w.cell? ⟨b, i, none⟩ = none) : ∀ {f : SF} {cs : List Value}, f.Rep w U cs → f.Rep w' U cs
  | .mk kind fr to nul tag df el sub, cs, ⟨sv, h1, h2⟩ => by
    refine ⟨sv, h1, ?_⟩
    rcases h2 with h2 | ⟨q, o, cap, h3, h4, h5, h6⟩
    · exact .inl h2
    · exact .inr ⟨q, o, cap, h3, h4, h5, SFs.Rep.other hk hb h6⟩
theorem SFs.Rep.other {w w' : World} {U b q : Nat} (hk : ∀ k, k ≠ b → w'.heap[k]? = w.heap[k]?) (hb : ∀ i, 7 ≤ i → w.cell? ⟨b, i, none⟩ = none) : ∀ {l : SFs} {o : Nat}, l.Rep w U q o → l.Rep w' U q o
  | .nil, _, _ => trivial
  | .cons f r, o, ⟨⟨c, h1, h2⟩, h3⟩ => by
    have h8 := h2.len
    have hq : q ≠ b := by
      rintro rfl
      have := h1.get (i := 7) (by omega)
      rw [hb (o + 7) (by omega)] at this
      cases this
    exact ⟨⟨c, h1.same (hk q hq), SF.Rep.other hk hb h2⟩, SFs.Rep.other hk hb h3⟩
end

section
variable {P : Program} {E : Env}
theorem r_sliceOf (hB : rowB P E.tFlds E.tFld 8 = true) {d : Nat} {ss : List Nat} {l : List FE} {r : List Oper} {Q : Exit → Act → World → Prop} {A : Act} {W : World} (hv : FVals A W ss l) (hn0 : 0 < l.length) (hn : l.length ≤ 65536)
    (h : ∀ W', Below W.heap.size W W' → SlF W' W'.heap.size (.slice (some ⟨W.heap.size, 0, none⟩) l.length l.length) (toSFs l) → runOps P Q r (A.put (some d) (.slice (some ⟨W.heap.size, 0, none⟩) l.length l.length)) W') :
    runOps P Q (oSliceOf E d ss :: r) A W := by
  obtain ⟨cs, h1, h2⟩ := hv.cells
  obtain ⟨h3, h4⟩ := h2.len
  have hsl : ss.length = l.length := by
    have := congrArg List.length h1
    simp only [List.length_map] at this
    omega
  unfold oSliceOf
  rw [hsl]
  refine r_buildSlice (vs := cs.map (fun c => Value.agg c.toArray)) (s := 8) hB ?_ (by rw [List.length_map]; exact h3) ?_ (by omega) hn0 ?_
  · rw [← h1]
    simp [List.zipIdx_map, List.map_map, Function.comp_def]
  · intro v hv
    obtain ⟨c, hc, rfl⟩ := List.mem_map.1 hv
    simpa [Value.cells] using h4 c hc
  have hfl : ((cs.map (fun c => Value.agg c.toArray)).flatMap fun v => v.cells.toList) = cs.flatten := by
    rw [List.flatMap_map]
    simp [Value.cells, List.flatMap]
  rw [hfl]
  have hb : Below W.heap.size W (W.alloc (.cells cs.flatten.toArray E.tFld)) := (Below.refl W.heap.size W).alloc (o := .cells _ _) (Nat.le_refl _)
  refine h _ hb (.inr ⟨W.heap.size, 0, l.length, by rw [toSFs_len], by rw [toSFs_len]; exact Nat.le_refl _, by simp, ?_⟩)
  refine sfs_rep (h2.below hb (by simp)) ?_
  intro i v hv
  rw [Nat.zero_add]
  exact cells_new W _ E.tFld (by simpa using hv)

theorem c_lit_ok (HL : SLay P E) (hB : rowB P E.tFlds E.tFld 8 = true) {g : FuncId} {np nt : Nat} {l : List FE} (ht : Text P g np nt #[.tmp 0] (c_lit E l)) (hnt : feT l 1 + 1 ≤ nt) (hn0 : 0 < l.length) (hn : l.length ≤ 65536) (hS : SubsC P l) : LitC P g (toSFs l) := by
  intro w
  refine CallsV.enter ht (by simp) ?_
  intro a hsz hdf harg
  have hT := feT_ge l 1
  unfold c_lit
  refine vc_sq (vc_rg (by simp) ?_)
  refine r_assign ?_
  refine dn ?_
  refine vc_sq (vc_rg ?_ ?_)
  · intro o ho
    rcases List.mem_append.1 ho with h | h
    · have : ∀ (l : List FE) (t : Nat), ∀ o ∈ feOps E l t, o.guard = none := by
        intro l
        induction l with
        | nil => intro t o h; simp [feOps] at h
        | cons x r ih =>
          intro t o h
          rcases x with ⟨f, _ | g⟩
          · simp only [feOps, List.mem_cons] at h
            rcases h with rfl | h
            · rfl
            · exact ih _ o h
          · simp only [feOps, List.mem_cons] at h
            rcases h with rfl | rfl | h
            · rfl
            · rfl
            · exact ih _ o h
      exact this l 1 o h
    · simp only [List.mem_cons, List.not_mem_nil, or_false] at h
      rcases h with rfl | rfl <;> rfl
  refine fe_run HL l hS (by simp only [size_put]; omega) ?_
  intro A' W' a1 a2 a3 a4 a5
  simp only [size_put, defers_put] at a1 a2
  refine r_sliceOf hB a5 hn0 hn ?_
  intro W2 hb2 hs2
  refine r_assign ?_
  refine dn ?_
  refine vc_sq (vc_ret ?_)
  refine ⟨by simp only [defers_put]; rw [a2]; exact hdf, .slice (some ⟨W'.heap.size, 0, none⟩) l.length l.length, results_one ?_, hs2, a4.trans (hb2.mono a4.size)⟩
  simp (disch := (first | omega | (simp only [sP]; omega))) only [eS, eN, eC]

/-- What a function that gives a message gives. -/
def SpecC (P : Program) (f : FuncId) (fs : SFs) (flex : Int) : Prop := ∀ w, CallsV P f #[] w fun v w' => ∃ sv, v = .agg #[sv, .int .i64 flex] ∧ SlF w' w'.heap.size sv fs ∧ Below w.heap.size w w'
theorem c_spec_ok (HL : SLay P E) (hB : rowB P E.tFlds E.tFld 8 = true) (hM : aggT P E.tMsg = some 2) {f : FuncId} {np nt : Nat} {l : List FE} {flex : Int} (ht : Text P f np nt #[.cell 0 E.tMsg] (c_spec E l flex)) (hnt : feT l 1 + 2 ≤ nt) (hn0 : 0 < l.length) (hn : l.length ≤ 65536) (hS : SubsC P l) : SpecC P f (toSFs l) flex := by
  intro w
  refine CallsV.enter ht (by simp) ?_
  intro a hsz hdf harg
  have hT := feT_ge l 1
  obtain ⟨z, hz, hzc⟩ := lays_zero HL.msg
  unfold c_spec
  refine vc_sq (vc_rg (by simp) ?_)
  refine r_alloc hz ?_
  refine dn ?_
  rw [hzc]
  have hb0 : Below w.heap.size w (w.alloc (.cells #[.slice none 0 0, .int .i64 0] E.tMsg)) := (Below.refl w.heap.size w).alloc (o := .cells _ _) (Nat.le_refl _)
  have hfr : ∀ i, i < 2 → Free (w.alloc (.cells #[.slice none 0 0, .int .i64 0] E.tMsg)) w.heap.size i := fun i hi => free_new w _ E.tMsg (by simpa using hi)
  have hz0 : w.heap.size < (w.alloc (.cells #[.slice none 0 0, .int .i64 0] E.tMsg)).heap.size := by simp
  have h2c : ∀ i, 7 ≤ i → (w.alloc (.cells #[.slice none 0 0, .int .i64 0] E.tMsg)).cell? ⟨w.heap.size, i, none⟩ = none := fun i hi => by
    rw [World.cell?_alloc_new]
    exact Array.getElem?_eq_none (by simp; omega)
  generalize w.alloc (.cells #[.slice none 0 0, .int .i64 0] E.tMsg) = W at *
  generalize hwb : w.heap.size = wb at *
  refine vc_sq (vc_rg ?_ ?_)
  · intro o ho
    rcases List.mem_append.1 ho with h | h
    · have : ∀ (l : List FE) (t : Nat), ∀ o ∈ feOps E l t, o.guard = none := by
        intro l
        induction l with
        | nil => intro t o h; simp [feOps] at h
        | cons x r ih =>
          intro t o h
          rcases x with ⟨f, _ | g⟩
          · simp only [feOps, List.mem_cons] at h
            rcases h with rfl | h
            · rfl
            · exact ih _ o h
          · simp only [feOps, List.mem_cons] at h
            rcases h with rfl | rfl | h
            · rfl
            · rfl
            · exact ih _ o h
      exact this l 1 o h
    · simp only [List.mem_cons, List.not_mem_nil, or_false] at h
      rcases h with rfl | rfl | rfl <;> rfl
  refine fe_run HL l hS (by simp only [size_put]; omega) ?_
  intro A' W' a1 a2 a3 a4 a5
  simp only [size_put, defers_put] at a1 a2
  refine r_sliceOf hB a5 hn0 hn ?_
  intro W2 hb2 hs2
  have h0 : A'.eval (.tmp 0) = .pointer (some ⟨wb, 0, none⟩) := by
    rw [a3 0 (by omega)]
    simp (disch := (first | omega | (simp only [sP]; omega))) only [eS, eN, eC]
  generalize hsv : Value.slice (some ⟨W'.heap.size, 0, none⟩) l.length l.length = sv at *
  have hsv1 : sv.cells = #[sv] := by rw [← hsv]; rfl
  have hsvo : sv.oneCell' = true := by rw [← hsv]; rfl
  refine r_build (cells := #[sv, .int .i64 flex]) HL.msg ?_ ?_
  · have e1 : (A'.put (some (feT l 1)) sv).eval (.tmp (feT l 1)) = sv := by simp (disch := (first | omega | (simp only [sP]; omega))) only [eS, eN, eC]
    have hc : ∀ n : Int, (Value.int .i64 n).cells = #[.int .i64 n] := fun _ => rfl
    simp [Instr.fill, e1, hsv1, eval_const, hc]
  have hbW2 : Below W.heap.size W W2 := a4.trans (hb2.mono a4.size)
  refine r_storeAgg (b := wb) (o := 0) (cs := [sv, .int .i64 flex]) (by simp (disch := (first | omega | (simp only [sP]; omega))) only [eS, eN, eC, h0]) (by simp (disch := (first | omega | (simp only [sP]; omega))) only [eS, eN, eC]) (by intro v hv; simp only [List.mem_cons, List.not_mem_nil, or_false] at hv; rcases hv with rfl | rfl; exact hsvo; rfl) hM ?_ ?_
  · intro j hj
    rw [Nat.zero_add]
    exact (hfr j hj).below hbW2 hz0
  refine dn ?_
  refine vc_sq (vc_ret ?_)
  have hE := setCells_eff wb [sv, .int .i64 flex] W2 0
  have hzz := hE.size
  refine ⟨by simp only [defers_put]; rw [a2]; exact hdf, .agg #[sv, .int .i64 flex], results_cell (b := wb) (o := 0) (cs := [sv, .int .i64 flex]) (by simp (disch := (first | omega | (simp only [sP]; omega))) only [eS, eN, eC, h0]) hM ?_, sv, rfl, ?_, ?_⟩
  · intro j v hv
    refine setCells_cell wb _ W2 0 (fun j hj => ?_) j v hv
    rw [Nat.zero_add]
    exact ((hfr j hj).below hbW2 hz0).1
  · rcases hs2 with ⟨h, _⟩ | ⟨q, o, cap, h1, h2, h3, h4⟩
    · rw [← hsv] at h; cases h
    · refine .inr ⟨q, o, cap, h1, h2, by omega, SFs.Rep.mono hzz (SFs.Rep.other (b := wb) (fun k hk => ?_) (fun i hi => ?_) h4)⟩
      · rcases Nat.lt_or_ge k W2.heap.size with h | h
        · exact hE.blockEq h (fun i hh => hk hh.1)
        · have e : (setCells W2 wb 0 [sv, .int .i64 flex]).heap.size = W2.heap.size := by simp [setCells]
          rw [Array.getElem?_eq_none h, Array.getElem?_eq_none (by rw [e]; exact h)]
      · rw [hbW2.cell (p := ⟨wb, i, none⟩) hz0]
        exact h2c i hi
  · exact (hb0.trans (hbW2.mono (by omega))).trans (hE.below (by have := hbW2.size; omega) (by rintro k i hk ⟨h, _⟩; omega))
end
end Go.Km
