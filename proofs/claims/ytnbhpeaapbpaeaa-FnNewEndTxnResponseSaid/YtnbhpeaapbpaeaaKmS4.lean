/- whole, things, at, Same. -/
import Derived.Test.YtnbhpeaapbpaeaaKmS3
import Derived.Laws.Tables
set_option linter.unusedSimpArgs false
set_option linter.unusedVariables false
namespace Go.Km
open Go Go.RowKit
attribute [local irreducible] vc runOps runG runS runD

section
variable {P : Program} {a : Act} {w : World} {r : List Oper} {Q : Exit → Act → World → Prop}
/-- 'x[:y]' of a slice. -/
theorem r_sliceTo {d t x y ty p af g e s ad len cap k} {h : Nat} (ht : sliceT P t = some (e, s)) (hx : a.eval x = .slice ad len cap) (hy : a.eval y = .int k (h : Int)) (hh : h ≤ cap)
    (hn : runOps P Q r (a.put (some d) (.slice ad h cap)) w) : runOps P Q (⟨some d, .slice t x none (some y) none, ty, p, af, g⟩ :: r) a w := by
  refine r_slice 0 h cap ht hx rfl ⟨k, hy⟩ rfl (Nat.zero_le _) hh (Nat.le_refl _) ?_
  have : (if cap = 0 then ad else ad.map (·.add (0 * s))) = ad := by cases ad <;> simp [Addr.add_zero']
  rw [this]
  exact hn
/-- A struct type: where its fields lie, and its zero value's cells. -/
def lays (P : Program) (t : TypeId) : Option (List (Nat × Nat) × Array Value) :=
  match P.underlying t, P.info? t with
  | some (.struct fs), some it =>
    match it.zero, fs.toList.mapM (fun f => (P.info? f.type).map fun i => (f.offset, i.size)) with
    | some z, some pl => some (pl, z.cells)
    | _, _ => none
  | _, _ => none
theorem run_buildL {t : TypeId} {pl : List (Nat × Nat)} {z cells : Array Value} {parts : Array (Nat × Value)} (h : lays P t = some (pl, z)) (hf : Instr.fill (pl.toArray[·]?) z parts.toList = some cells) :
    (Instr.build t parts).run P w = .ok (.agg cells) w := by
  refine run_build w t parts cells ?_
  unfold lays at h
  split at h
  · rename_i fs it hu hi
    split at h
    · rename_i z' pl' hz hp
      simp only [Option.some.injEq, Prod.mk.injEq] at h
      obtain ⟨rfl, rfl⟩ := h
      unfold Program.built
      rw [hi, hu]
      simp only [hz, hp]
      exact hf
    · cases h
  · cases h
theorem r_build {d t ps ty p af g pl z cells} (h : lays P t = some (pl, z)) (hf : Instr.fill (pl.toArray[·]?) z (ps.map fun (x : Nat × Operand) => (x.1, a.eval x.2)).toList = some cells)
    (hn : runOps P Q r (a.put (some d) (.agg cells)) w) : runOps P Q (⟨some d, .build t ps, ty, p, af, g⟩ :: r) a w := by
  refine st ?_
  have hr : (Instr.build t (ps.map fun (i, x) => (i, a.eval x))).run P w = .ok (.agg cells) w := run_buildL h hf
  simp only [Oper.wp, execOp, Sem.run_bind, hr, Sem.run_pure, Result.andThen_ok, Oper.upon_value]
  exact hn
theorem results_cell {t : Nat} {T : TypeId} {b o : Nat} {cs : List Value} (h : a.eval (.tmp t) = .pointer (some ⟨b, o, none⟩)) (hT : aggT P T = some cs.length) (hc : Cells w b o cs) :
    (results { (default : Func) with results := #[.cell t T] } a.tmps).run P w = .ok (.agg cs.toArray) w := by
  obtain ⟨h1, h2⟩ := aggT_inv hT
  have hl : (loadVar T ⟨b, o, none⟩).run P w = .ok (.agg cs.toArray) w := by
    simp only [loadVar, Sem.run_bind, h1, Result.andThen_ok, if_true, h2, run_loadCells hc, Sem.run_pure]
  have h' : a.tmps[t]?.getD undef = .pointer (some ⟨b, o, none⟩) := by simpa [Act.eval] using h
  simp [results, h', asAddr, hl]
end

section
variable {P : Program} {E : Env} {w : World} {U : Nat}
theorem s_first {f T e : Nat} {c : Code} (hT : sliceT P T = some (e, 1) ∨ sliceT P T = some (e, 5)) (hint : intT P E.tInt = some .i64) {ad : Option Addr} {n cap : Nat} (hn : n ≤ cap)
    (ht : Text P f 1 8 #[.tmp 2] (sq [(rg [⟨some 2, .assign (.const (.slice none 0 0)), T, "", #[], none⟩]),
    (rg [⟨some 3, .move (.tmp 0), T, "", #[], none⟩,
      ⟨some 4, .move (.tmp 0), T, "", #[], none⟩,
      ⟨some 5, .call { callee := .builtin .len, args := #[(.tmp 4)], argTypes := #[T] }, E.tInt, "", #[], none⟩,
      ⟨some 6, .call { callee := .builtin .min, args := #[(.tmp 5), (.const (.int .i64 32767))], argTypes := #[E.tInt, E.tInt] }, E.tInt, "", #[], none⟩,
      ⟨some 7, .slice T (.tmp 3) none (some (.tmp 6)) none, T, "", #[], none⟩,
      ⟨some 2, .assign (.tmp 7), T, "", #[], none⟩]),
    .ret])) : CallsV P f #[.slice ad n cap] w fun v w' => v = .slice ad (min n 32767) cap ∧ w' = w := by
  refine CallsV.enter ht (by simp) ?_
  intro a hsz hdf harg
  have e0 := harg 0 (.slice ad n cap) (by simp)
  obtain ⟨s, hs⟩ : ∃ s, sliceT P T = some (e, s) := by rcases hT with h | h <;> exact ⟨_, h⟩
  refine vc_sq (vc_rg (by simp) ?_)
  refine r_assign ?_
  refine dn ?_
  refine vc_sq (vc_rg (by simp) ?_)
  refine r_move ?_
  refine r_move ?_
  refine r_len (ad := ad) (n := n) (c := cap) hs (by simp (disch := (first | omega | (simp only [sP]; omega))) only [eS, eN, eC, e0]) ?_
  refine r_min (k := .i64) (m := (n : Int)) (n := 32767) (by simp (disch := (first | omega | (simp only [sP]; omega))) only [eS, eN, eC]) rfl ?_
  have hm : (if (32767 : Int) < (n : Int) then (32767 : Int) else (n : Int)) = ((min n 32767 : Nat) : Int) := by split <;> omega
  rw [hm]
  refine r_sliceTo (ad := ad) (cap := cap) (k := .i64) (h := min n 32767) (len := n) hs (by simp (disch := (first | omega | (simp only [sP]; omega))) only [eS, eN, eC, e0]) (by simp (disch := (first | omega | (simp only [sP]; omega))) only [eS, eN, eC]) (by omega) ?_
  refine r_assign ?_
  refine dn ?_
  refine vc_sq (vc_ret ?_)
  exact ⟨by simp only [defers_put]; exact hdf, _, results_one (by (try simp (disch := (first | omega | (simp only [sP]; omega))) only [eS, eN, eC]) <;> (first | rfl | assumption)), rfl, rfl⟩

/-- What the struct types of the spec are like. -/
structure SLay (P : Program) (E : Env) : Prop where
  tree : lays P E.tTree = some ([(0, 1), (1, 1), (2, 1), (3, 1), (4, 1)], #[.int .i64 0, .slice none 0 0, .bool false, .slice none 0 0, .slice none 0 0])
  fld : lays P E.tFld = some ([(0, 1), (1, 1), (2, 1), (3, 1), (4, 1), (5, 1), (6, 1), (7, 1)], #[.int .i64 0, .int .i64 0, .int .i64 0, .int .i64 0, .int .i64 0, .int .i64 0, .int .i64 0, .slice none 0 0])
  msg : lays P E.tMsg = some ([(0, 1), (1, 1)], #[.slice none 0 0, .int .i64 0])
  unk : lays P E.tUnk = some ([(0, 1), (1, 1)], #[.int .u32 0, .slice none 0 0])
theorem lays_zero {P : Program} {t : TypeId} {pl : List (Nat × Nat)} {z : Array Value} (h : lays P t = some (pl, z)) : ∃ v, zeroT P t = some v ∧ v.cells = z := by
  unfold lays at h
  split at h
  · rename_i fs it hu hi
    split at h
    · rename_i z' pl' hz hp
      simp only [Option.some.injEq, Prod.mk.injEq] at h
      exact ⟨z', by simp [zeroT, hi, hz], h.2⟩
    · cases h
  · cases h

theorem Tr.zero_rep (w : World) (U : Nat) : Tr.zero.Rep w U [.int .i64 0, .slice none 0 0, .bool false, .slice none 0 0, .slice none 0 0] :=
  ⟨_, _, _, rfl, .inl ⟨rfl, rfl⟩, .inl ⟨rfl, rfl⟩, .inl ⟨rfl, rfl⟩⟩
theorem OctsB.one {w : World} {U : Nat} {v : Value} {l : List UInt8} (h : OctsB w U v l) : v.oneCell' = true := by
  rcases h with ⟨rfl, _⟩ | ⟨q, o, cap, rfl, _⟩ <;> rfl
theorem Tr.Rep.one {w : World} {U : Nat} {t : Tr} {cs : List Value} (h : t.Rep w U cs) : ∀ v ∈ cs, v.oneCell' = true := by
  cases t with
  | mk n s nl l u =>
    obtain ⟨sv, lv, uv, rfl, h1, h2, h3⟩ := h
    have e1 := h1.one
    have e2 : uv.oneCell' = true := by rcases h2 with ⟨rfl, _⟩ | ⟨q, o, cap, rfl, _⟩ <;> rfl
    have e3 : lv.oneCell' = true := by rcases h3 with ⟨rfl, _⟩ | ⟨q, o, cap, rfl, _⟩ <;> rfl
    intro v hv
    simp only [List.mem_cons, List.not_mem_nil, or_false] at hv
    rcases hv with rfl | rfl | rfl | rfl | rfl <;> first | rfl | assumption
theorem SF.Rep.one {w : World} {U : Nat} {f : SF} {cs : List Value} (h : f.Rep w U cs) : ∀ v ∈ cs, v.oneCell' = true := by
  cases f with
  | mk =>
    obtain ⟨sv, rfl, h3⟩ := h
    have e3 : sv.oneCell' = true := by rcases h3 with ⟨rfl, _⟩ | ⟨q, o, cap, rfl, _⟩ <;> rfl
    intro v hv
    simp only [List.mem_cons, List.not_mem_nil, or_false] at hv
    rcases hv with rfl | rfl | rfl | rfl | rfl | rfl | rfl | rfl <;> first | rfl | assumption

theorem s_at (H : SEnv P E) (HL : SLay P E) (ht : Text P E.sAt 2 16 #[.cell 4 E.tTree] (c_sAt E)) {t : Tr} {ts : List Value} {i : Nat} (hr : t.Rep w U ts) (hU : U ≤ w.heap.size) :
    CallsV P E.sAt #[.agg ts.toArray, .int .i64 i] w fun r w' => ∃ c, r = .agg c.toArray ∧ (t.at i).Rep w U c ∧ Below U w w' := by
  refine CallsV.enter ht (by simp) ?_
  intro a hsz hdf harg
  have e0 := harg 0 (.agg ts.toArray) (by simp)
  have e1 := harg 1 (.int .i64 i) (by simp)
  obtain ⟨z, hz, hzc⟩ := lays_zero HL.tree
  cases t with
  | mk n s nl l u =>
  obtain ⟨s1, lv, s3, rfl, _, _, hl⟩ := hr
  unfold c_sAt
  refine vc_sq (vc_rg (by simp) ?_)
  refine r_box (v := .agg [Value.int .i64 n, s1, .bool nl, lv, s3].toArray) (by simp (disch := (first | omega | (simp only [sP]; omega))) only [eS, eN, eC, e0]) ?_
  refine r_alloc hz ?_
  refine dn ?_
  rw [hzc]
  generalize hw1 : w.alloc (.cells (Value.agg [Value.int .i64 n, s1, .bool nl, lv, s3].toArray).cells E.tTree) = w1
  have hb1 : Below U w w1 := by rw [← hw1]; exact (Below.refl U w).alloc (o := .cells _ _) hU
  have hz1 : w1.heap.size = w.heap.size + 1 := by rw [← hw1]; simp
  have c3 : w1.cell? ⟨w.heap.size, 3, none⟩ = some lv := by rw [← hw1]; exact cells_new w _ E.tTree (i := 3) rfl
  clear hw1
  generalize hw2 : w1.alloc (.cells #[.int .i64 0, .slice none 0 0, .bool false, .slice none 0 0, .slice none 0 0] E.tTree) = w2
  have hb2 : Below U w w2 := by rw [← hw2]; exact hb1.trans ((Below.refl U w1).alloc (o := .cells _ _) (by omega))
  have d3 : w2.cell? ⟨w.heap.size, 3, none⟩ = some lv := by rw [← hw2]; exact (Eff.refl (fun _ _ => False) w1 |>.alloc _).cellSome c3 (fun h => h)
  have hfree : ∀ j, j < 5 → Free w2 w1.heap.size (0 + j) := by
    intro j hj
    rw [← hw2, Nat.zero_add]
    exact free_new w1 _ E.tTree (by simpa using hj)
  have hz2 : w2.heap.size = w1.heap.size + 1 := by rw [← hw2]; simp
  clear hw2
  have fin : ∀ (A : Act) (c : List Value), A.defers = [] → A.eval (.tmp 4) = .pointer (some ⟨w1.heap.size, 0, none⟩) → ((Tr.mk n s nl l u).at i).Rep w U c → Out P #[.cell 4 E.tTree] (fun r w' => ∃ c, r = .agg c.toArray ∧ ((Tr.mk n s nl l u).at i).Rep w U c ∧ Below U w w') .ret A (setCells w2 w1.heap.size 0 c) := by
    intro A c hd h4 hc
    have hbs : Below U w (setCells w2 w1.heap.size 0 c) := hb2.trans ((setCells_eff w1.heap.size c w2 0).below (by omega) (by rintro k i hk ⟨rfl, _, _⟩; omega))
    refine ⟨hd, .agg c.toArray, results_cell h4 (by rw [hc.len]; exact H.aTree) ?_, c, rfl, hc, hbs⟩
    intro j v hv
    exact setCells_cell w1.heap.size c w2 0 (fun j hj => (hfree j (by rw [hc.len] at hj; exact hj)).1) j v hv
  have hlen : ∃ ad cap, lv = .slice ad l.len cap ∧ (l.len = 0 ∨ ∃ q o, ad = some ⟨q, o, none⟩ ∧ q < U ∧ l.Rep w U q o) := by
    rcases hl with ⟨rfl, h0⟩ | ⟨q, o, cap, rfl, _, hq, hrep⟩
    · exact ⟨none, 0, by rw [h0], .inl h0⟩
    · exact ⟨_, cap, rfl, .inr ⟨q, o, rfl, hq, hrep⟩⟩
  obtain ⟨ad, cap, rfl, had⟩ := hlen
  refine vc_sq (vc_sq (vc_rg (by simp) ?_))
  refine r_move ?_
  refine r_field (b := w.heap.size) (o := 0) (by simp (disch := (first | omega | (simp only [sP]; omega))) only [eS, eN, eC]) (offs_inv H.fTree (by decide)) ?_
  refine r_load (b := w.heap.size) (o := 3) (by (try simp (disch := (first | omega | (simp only [sP]; omega))) only [eS, eN, eC]) <;> (first | rfl | assumption)) H.oTrees d3 ?_
  refine r_len (ad := ad) (n := l.len) (c := cap) (rowB_slice H.rTrees) (by simp (disch := (first | omega | (simp only [sP]; omega))) only [eS, eN, eC]) ?_
  refine r_lss (k := .i64) (m := (i : Int)) (n := (l.len : Int)) (by simp (disch := (first | omega | (simp only [sP]; omega))) only [eS, eN, eC, e1]) (by simp (disch := (first | omega | (simp only [sP]; omega))) only [eS, eN, eC]) ?_
  refine dn ?_
  refine vc_sq (vc_cond (t := decide ((i : Int) < (l.len : Int))) (by (try simp (disch := (first | omega | (simp only [sP]; omega))) only [eS, eN, eC]) <;> (first | rfl | assumption)) ?_ ?_)
  · intro hlt
    have hlt' : i < l.len := by simpa using hlt
    obtain ⟨q, o, rfl, hq, hrep⟩ := had.resolve_left (by omega)
    obtain ⟨t, hget⟩ := Trs.get_lt l i hlt'
    obtain ⟨c, hc, hrc⟩ := hrep.get hget
    have hat : (Tr.mk n s nl l u).at i = t := by simp [Tr.at, hget]
    rw [hat] at fin ⊢
    refine vc_sq (vc_rg (by simp) ?_)
    refine r_field (b := w.heap.size) (o := 0) (by simp (disch := (first | omega | (simp only [sP]; omega))) only [eS, eN, eC]) (offs_inv H.fTree (by decide)) ?_
    refine r_load (b := w.heap.size) (o := 3) (by (try simp (disch := (first | omega | (simp only [sP]; omega))) only [eS, eN, eC]) <;> (first | rfl | assumption)) H.oTrees d3 ?_
    refine r_move ?_
    refine r_index (k := .i64) (j := i) (b := q) (o := o) (len := l.len) (cap := cap) (rowB_slice H.rTrees) (by simp (disch := (first | omega | (simp only [sP]; omega))) only [eS, eN, eC]) (by simp (disch := (first | omega | (simp only [sP]; omega))) only [eS, eN, eC, e1]) hlt' ?_
    refine r_loadAgg (b := q) (o := o + i * 5) (cs := c) (by simp (disch := (first | omega | (simp only [sP]; omega))) only [eS, eN, eC]) (by rw [hrc.len]; exact H.aTree) (hc.below hb2 hq) ?_
    refine r_storeAgg (b := w1.heap.size) (o := 0) (cs := c) (by simp (disch := (first | omega | (simp only [sP]; omega))) only [eS, eN, eC]) (by simp (disch := (first | omega | (simp only [sP]; omega))) only [eS, eN, eC]) hrc.one (by rw [hrc.len]; exact H.aTree) (by rw [hrc.len]; exact hfree) ?_
    refine dn ?_
    refine vc_sq (vc_ret ?_)
    exact fin _ c (by simp only [defers_put]; exact hdf) (by (try simp (disch := (first | omega | (simp only [sP]; omega))) only [eS, eN, eC]) <;> (first | rfl | assumption)) hrc
  · intro hge
    have hge' : l.len ≤ i := by simpa using hge
    have hat : (Tr.mk n s nl l u).at i = Tr.zero := by simp [Tr.at, Trs.get_ge l i hge']
    rw [hat] at fin ⊢
    refine vc_skip (vc_sq_nil ?_)
    refine vc_sq (vc_rg (by simp) ?_)
    refine r_build (cells := #[.int .i64 0, .slice none 0 0, .bool false, .slice none 0 0, .slice none 0 0]) HL.tree (by simp [Instr.fill]) ?_
    refine r_storeAgg (b := w1.heap.size) (o := 0) (cs := [.int .i64 0, .slice none 0 0, .bool false, .slice none 0 0, .slice none 0 0]) (by simp (disch := (first | omega | (simp only [sP]; omega))) only [eS, eN, eC]) (by simp (disch := (first | omega | (simp only [sP]; omega))) only [eS, eN, eC]) (Tr.zero_rep w U).one H.aTree hfree ?_
    refine dn ?_
    refine vc_sq (vc_ret ?_)
    exact fin _ _ (by simp only [defers_put]; exact hdf) (by (try simp (disch := (first | omega | (simp only [sP]; omega))) only [eS, eN, eC]) <;> (first | rfl | assumption)) (Tr.zero_rep w U)
end
end Go.Km
