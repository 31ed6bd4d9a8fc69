/- Tags: Set; the reading of tags. Tags: the reading of tags. Tags: their numbers are sorted. Tags: one tag is written. Tags: operations on the map while it is ranged over. Tags: Each. Tags: the writer's part, with tags. -/
import Derived.Test.YtncnmjgieegjcaaDoorKb01
import Derived.Test.YtncnmjgieegjcaaDoorKb02
import Derived.Test.YtncnmjgieegjcaaDoorKb03
import Derived.Shelf.GgSortFunc.Whole
import Derived.Shelf.GgSortFunc.Tiny
import Derived.Deep.Draws
import Derived.Laws.MakeOwn
set_option linter.unusedSimpArgs false
set_option linter.unusedVariables false
namespace Go.Km
open Go Go.RowKit Go.ChangeMaps
attribute [local irreducible] vc rO_ runG runS runD
theorem setBlock_below {w : World} {B q : Nat} (o : Obj) (h : B ≤ q) : Below B w (setBlock w q o) := by
 refine ⟨rfl, rfl, rfl, ?_, fun k hk => ?_⟩
 ·simp [setBlock]
 ·simp only [setBlock]
  rw [Array.getElem?_setIfInBounds_ne (by omega)]
theorem setBlock_at {w : World} {q k : Nat} (o : Obj) (h : k ≠ q) : (setBlock w q o).heap[k]? = w.heap[k]? := by
 simp only [setBlock]
 rw [Array.getElem?_setIfInBounds_ne (Ne.symm h)]
theorem setBlock_size (w : World) (q : Nat) (o : Obj) : (setBlock w q o).heap.size = w.heap.size := by simp [setBlock]
theorem cell_at {w w' : World} {b o : Nat} (h : w'.heap[b]? = w.heap[b]?) : w'.cell? ⟨b, o, none⟩ = w.cell? ⟨b, o, none⟩ := by
 simp only [World.cell?]
 rw [h]
theorem free_at {w w' : World} {b o : Nat} (h : w'.heap[b]? = w.heap[b]?) (hf : Free w b o) : Free w' b o := by
 refine ⟨by rw [cell_at h]; exact hf.1, ?_⟩
 have := hf.2
 simp only [World.frozen?] at this ⊢
 rw [h]
 exact this
theorem ne_map {w : World} {b o q : Nat} {v : Value} {es : Array MapEntry} {clock : Nat} (hc : w.cell? ⟨b, o, none⟩ = some v) (hq : w.heap[q]? = some (.map es clock)) : b ≠ q := by
 rintro rfl
 simp [World.cell?, hq] at hc
structure TagT (P : Program) (E : Env) : Prop where
 map : P.underlying E.tTagMap = some (.map E.tW E.tB)
 u32 : P.underlying E.tW = some (.int .u32)
 oMap : oneT P E.tTagMap = true
 f0 : fieldOff P E.tTags 0 = some 0
 aTags : aggT P E.tTags = some 1
 zTags : zeroT P E.tTags = some (.agg #[.map none])
section
variable {P : Program} {a : Act} {w : World} {r : List Oper} {Q : Exit → Act → World → Prop}
theorem r_eqMapNil {d t x yt ty p af g m kt et} (ht : P.underlying t = some (.map kt et)) (hx : a.eval x = .map m) (h : rO_ P Q r (a.put (some d) (.bool m.isNone)) w) : rO_ P Q (⟨some d, .binOp .eql t x (.const (.map none)) yt, ty, p, af, g⟩ :: r) a w := by
 refine st ?_
 have hb : (binOp .eql t (.map m) (.map none)).run P w = .ok (.bool m.isNone) w := by
  have h0 : ∀ k : Nat, (Op.equalIn (k + 1) t (.map m) (.map none)).run P w = .ok m.isNone w := fun k => by
   cases m <;> simp [Op.equalIn, run_underlying ht]
  simp only [binOp]
  simp [Op.equal, Op.maxDepth, h0 9999]
 simp only [Oper.wp, execOp, hx, eval_const, eqGuard_at_map, hb, Sem.run_bind, Sem.run_pure, Result.andThen_ok, Oper.upon_value]
 exact h
theorem r_makeMap {d t ty p af g} (h : rO_ P Q r (a.put (some d) (.map (some w.heap.size))) (w.alloc (.map #[] 0))) : rO_ P Q (⟨some d, .makeMap t none, ty, p, af, g⟩ :: r) a w := by
 refine st ?_
 have hr : (Instr.makeMap t none).run P w = .ok (.map (some w.heap.size)) (w.alloc (.map #[] 0)) := rfl
 simp only [Oper.wp, execOp, Option.map_none, Sem.run_bind, hr, Result.andThen_ok, Sem.run_pure, Oper.upon_value]
 exact h
theorem r_mapUpdate {t m k x ty p af g mv kv xv w'} (hm : a.eval m = mv) (hk : a.eval k = kv) (hx : a.eval x = xv) (hr : (Instr.mapUpdate t mv kv xv).run P w = .ok () w') (h : rO_ P Q r a w') : rO_ P Q (⟨none, .mapUpdate t m k x, ty, p, af, g⟩ :: r) a w := by
 refine st ?_
 simp only [Oper.wp, execOp, hm, hk, hx, Sem.run_bind, hr, Result.andThen_ok, Sem.run_pure, Oper.upon_skip]
 exact h
end
section
variable {P : Program} {E : Env}
theorem k_gSet (H : TagT P E) (ht : Text P E.gSet 3 21 #[] (c_gSet E)) {w : World} {b sb B k : Nat} {v val : Value} {tags : List (Nat × List UInt8)} {l : List UInt8} (hc : w.cell? ⟨b, 0, none⟩ = some v) (hf : Free w b 0) (hm : TagM w sb B v tags) (hv : SrcV w sb val l) (hk : k < 4294967296) (hB : B ≤ b) (hBz : B ≤ w.heap.size) (hsb : sb < B) :
  CallsV P E.gSet #[.pointer (some ⟨b, 0, none⟩), .int .u32 (k : Int), val] w fun _ w' => Below B w w' ∧ ∃ v', w'.cell? ⟨b, 0, none⟩ = some v' ∧ v'.oneCell' = true ∧ Free w' b 0 ∧ TagM w' sb B v' (setTag k l tags) := by
 refine CallsV.enter ht (by simp) ?_
 intro a hsz hdf harg
 have e0 := harg 0 (.pointer (some ⟨b, 0, none⟩)) (by simp)
 have e1 := harg 1 (.int .u32 (k : Int)) (by simp)
 have e2 := harg 2 val (by simp)
 have hblt : b < w.heap.size := lt_of_cell hc
 have tail : ∀ (A : Act) (w1 : World) (q : Nat) (ls : List (Nat × List UInt8)), A.tmps.size = 21 → A.defers = [] → (∀ i : Nat, i < 3 → A.eval (.tmp i) = a.eval (.tmp i)) → w1.cell? ⟨b, 0, none⟩ = some (.map (some q)) → Free w1 b 0 → MapIs w1 sb q ls → ls.Perm tags → B ≤ q → Below B w w1 →
   vc P (rg [(oQ 15 (.move (.tmp 0)) E.tPTags),
   (oQ 16 (.nilCheck (.tmp 15)) 0),
   (oQ 17 (.fieldAddr E.tTags (.tmp 16) 0) 0),
   (oQ 18 (.load E.tTagMap (.tmp 17)) E.tTagMap),
   (oQ 19 (.move (.tmp 1)) E.tW),
   (oQ 20 (.move (.tmp 2)) E.tB),
   ⟨none, .mapUpdate E.tTagMap (.tmp 18) (.tmp 19) (.tmp 20), 0, "", #[], none⟩])
   (Out P #[] fun _ w' => Below B w w' ∧ ∃ v', w'.cell? ⟨b, 0, none⟩ = some v' ∧ v'.oneCell' = true ∧ Free w' b 0 ∧ TagM w' sb B v' (setTag k l tags)) A w1 := by
  intro A w1 q ls hs hd hA hcq hfq hmi hperm hBq hb1
  have g0 := (hA 0 (by omega)).trans e0
  have g1 := (hA 1 (by omega)).trans e1
  have g2 := (hA 2 (by omega)).trans e2
  have hv1 : SrcV w1 sb val l := hv.heap (hb1.block sb hsb)
  have hne : b ≠ q := by
   obtain ⟨es, clock, hq, _⟩ := hmi
   exact ne_map hcq hq
  have hqs : q < w1.heap.size := by
   obtain ⟨es, clock, hq, _⟩ := hmi
   exact (Array.getElem?_eq_some_iff.1 hq).1
  obtain ⟨o, hr, hmi'⟩ := run_mapSet (P := P) (k := k) H.map H.u32 hmi (by omega) hv1
  refine vR (by simp) ?_
  refine rM ?_
  refine r_nil (ad := ⟨b, 0, none⟩) (by simp (disch := (try simp only [sP]); omega) only [eV, g0]) ?_
  refine rF (b := b) (o := 0) (by simp (disch := (try simp only [sP]); omega) only [eV]) H.f0 ?_
  refine rL (b := b) (o := 0 + 0) (v := .map (some q)) (by simp (disch := (try simp only [sP]); omega) only [eV]) H.oMap (by simpa using hcq) ?_
  refine rM (rM ?_)
  refine r_mapUpdate (mv := .map (some q)) (kv := .int .u32 (k : Int)) (xv := val) (w' := setBlock w1 q o) (by simp (disch := (try simp only [sP]); omega) only [eV]) (by simp (disch := (try simp only [sP]); omega) only [eV, g1]) (by simp (disch := (try simp only [sP]); omega) only [eV, g2]) hr ?_
  refine dn ?_
  refine ⟨by simp only [dF]; exact hd, .tuple #[], by simp [results], hb1.trans (setBlock_below o hBq), .map (some q), by rw [cell_at (setBlock_at o hne)]; exact hcq, rfl, free_at (setBlock_at o hne) hfq, setTag_ok hk _ hm.1, .inr ⟨q, updL k l ls, rfl, hBq, by rw [setBlock_size]; exact hqs, hmi', updL_perm hperm hm.1.1⟩⟩
 unfold c_gSet
 refine vS (vX (rM ?_))
 refine r_nil (ad := ⟨b, 0, none⟩) (by simp (disch := (try simp only [sP]); omega) only [eV, e0]) ?_
 refine rF (b := b) (o := 0) (by simp (disch := (try simp only [sP]); omega) only [eV]) H.f0 ?_
 refine rL (b := b) (o := 0 + 0) (v := v) (by simp (disch := (try simp only [sP]); omega) only [eV]) H.oMap (by simpa using hc) ?_
 rcases hm.2 with ⟨rfl, rfl⟩ | ⟨q, ls, rfl, hBq, hqs, hmi, hperm⟩
 ·refine r_eqMapNil (m := none) H.map (by simp (disch := (try simp only [sP]); omega) only [eV]) ?_
  refine dn ?_
  refine vS (vC (t := true) (by simp (disch := (try simp only [sP]); omega) only [eV]; rfl) ?_ (fun h => by cases h))
  intro _
  refine vR (by simp) ?_
  refine rM ?_
  refine r_makeMap ?_
  refine r_nil (ad := ⟨b, 0, none⟩) (by simp (disch := (try simp only [sP]); omega) only [eV, e0]) ?_
  refine rF (b := b) (o := 0) (by simp (disch := (try simp only [sP]); omega) only [eV]) H.f0 ?_
  have hb1 : Below w.heap.size w (w.alloc (.map #[] 0)) := (Below.refl w.heap.size w).alloc (o := .map _ _) (Nat.le_refl _)
  have hf1 : Free (w.alloc (.map #[] 0)) b 0 := free_at (hb1.block b hblt) hf
  refine r_store (b := b) (o := 0 + 0) (v := .map (some w.heap.size)) (by simp (disch := (try simp only [sP]); omega) only [eV]) (by simp (disch := (try simp only [sP]); omega) only [eV]) rfl H.oMap (by simpa using hf1) ?_
  refine dn (vN ?_)
  have hnew : (w.alloc (.map #[] 0)).heap[w.heap.size]? = some (.map #[] 0) := heap_alloc_new w _
  have hnew2 : ((w.alloc (.map #[] 0)).setCell ⟨b, 0 + 0, none⟩ (.map (some w.heap.size))).heap[w.heap.size]? = some (.map #[] 0) := by
   rw [← hnew]
   exact Below.heap_setCell _ _ _ _ (by show w.heap.size ≠ b; omega)
  have hb2 : Below B w ((w.alloc (.map #[] 0)).setCell ⟨b, 0 + 0, none⟩ (.map (some w.heap.size))) := (hb1.mono hBz).setCell (p := ⟨b, 0 + 0, none⟩) hB _
  refine tail _ _ w.heap.size [] (by simp only [zP]; exact hsz) (by simp only [dF]; exact hdf) (fun i hi => by simp (disch := (try simp only [sP]); omega) only [eV]) (cell_setCell_same _ (by simpa using hf1.1)) ?_ ?_ (List.Perm.refl _) hBz hb2
  ·exact (show Free (w.alloc (.map #[] 0)) b 0 from hf1).eff ((Eff.refl (fun k _ => k = b) _).setCell _ _ _ (fun _ => rfl))
  ·exact ⟨#[], 0, hnew2, by simp, by simp, rfl, fun i x hx => by simp at hx⟩
 ·refine r_eqMapNil (m := some q) H.map (by simp (disch := (try simp only [sP]); omega) only [eV]) ?_
  refine dn ?_
  refine vS (vC (t := false) (by simp (disch := (try simp only [sP]); omega) only [eV]; rfl) (fun h => by cases h) ?_)
  intro _
  refine vK (vN ?_)
  exact tail _ _ q ls (by simp only [zP]; exact hsz) (by simp only [dF]; exact hdf) (fun i hi => by simp (disch := (try simp only [sP]); omega) only [eV]) hc hf hmi hperm hBq (Below.refl _ _)
end
end Go.Km
namespace Go.Km
open Go Go.RowKit Go.ChangeMaps
attribute [local irreducible] vc rO_ runG runS runD
theorem effBelow {M : Nat → Nat → Prop} {W w w' : World} (h : Eff M W w) (hb : Below W.heap.size w w') : Eff M W w' :=
 ⟨hb.os.trans h.os, hb.tape.trans h.tape, hb.output.trans h.output, Nat.le_trans h.size hb.size, fun k hk => (h.block k hk).trans (BlkKeep.of_eq (hb.block k hk))⟩
theorem rdTagsN_snoc : ∀ (n : Nat) (acc : List (Nat × List UInt8)) (st : RSt), rdTagsN (n + 1) acc st = (setTag (rdTag (rdTagsN n acc st).2).1.1 (rdTag (rdTagsN n acc st).2).1.2 (rdTagsN n acc st).1, (rdTag (rdTagsN n acc st).2).2)
 | 0, acc, st => rfl
 | n + 1, acc, st => by
  rw [rdTagsN, rdTagsN_snoc n _ _]
  rfl
theorem wrapu32 {n : Int} (h0 : 0 ≤ n) (h1 : n < 4294967296) : IntKind.u32.wrap n = n := by
 have h2 : (2 : Int) ^ 32 = 4294967296 := by decide
 simp only [IntKind.wrap, IntKind.bits, IntKind.signed, Bool.false_and, Bool.false_eq_true, if_false, h2]
 omega
section
variable {P : Program} {E : Env}
theorem TagM.eff {rb sb B : Nat} {w w' : World} {v : Value} {tags : List (Nat × List UInt8)} (h : TagM w sb B v tags) (he : Eff (RM rb) w w') (hrb : rb < B) (hne : rb ≠ sb) (hsb : sb < w.heap.size) : TagM w' sb B v tags := by
 refine h.heap (he.blockEq hsb (by rintro i ⟨e, _⟩; exact hne e.symm)) he.size ?_
 rintro q rfl
 obtain ⟨_, h2⟩ := h
 rcases h2 with ⟨h2, _⟩ | ⟨q', l, hv, hq, hqs, _⟩
 ·cases h2
 ·cases hv
  exact he.blockEq hqs (by rintro i ⟨e, _⟩; omega)
set_option maxHeartbeats 1000000 in
theorem tagsR (H : TagT P E) (iu : intT P E.tW = some .u32) (ii : intT P E.tI = some .i64) (cU : E.rTags ≠ 0 → CUv P E) (cS : E.rTags ≠ 0 → CSpan P E) (hset : E.rTags ≠ 0 → Text P E.gSet 3 21 #[] (c_gSet E)) (ht : E.rTags ≠ 0 → Text P E.rTags 1 24 #[.cell 2 E.tTags] (c_rTags E)) : TagsR P E (fun _ => True) := by
 intro hne rb sb st W hr
 have cU := cU hne
 have cS := cS hne
 have hset := hset hne
 have ht := ht hne
 have hrlt := hr.rb_lt
 have hslt := hr.lt
 refine CallsV.enter ht (by simp) ?_
 intro a hsz hdf harg
 have e0 := harg 0 (.pointer (some ⟨rb, 0, none⟩)) (by simp)
 unfold c_rTags
 refine vX ?_
 refine r_alloc H.zTags ?_
 refine dn (vX ?_)
 refine r_alloc H.zTags ?_
 refine dn ?_
 have hb0 : Below W.heap.size W ((W.alloc (.cells (Value.agg #[.map none]).cells E.tTags)).alloc (.cells (Value.agg #[.map none]).cells E.tTags)) :=
  ((Below.refl W.heap.size W).alloc (o := .cells _ _) (Nat.le_refl _)).alloc (o := .cells _ _) (by simp)
 have hf2 : Free ((W.alloc (.cells (Value.agg #[.map none]).cells E.tTags)).alloc (.cells (Value.agg #[.map none]).cells E.tTags)) W.heap.size 0 :=
  (free_new W _ E.tTags (by simp [Value.cells])).eff ((Eff.refl (fun _ _ => False) _).alloc _)
 have hf3 : Free ((W.alloc (.cells (Value.agg #[.map none]).cells E.tTags)).alloc (.cells (Value.agg #[.map none]).cells E.tTags)) (W.heap.size + 1) 0 := by
  have := free_new (W.alloc (.cells (Value.agg #[.map none]).cells E.tTags)) (Value.agg #[.map none]).cells E.tTags (i := 0) (by simp [Value.cells])
  simpa using this
 have hc3 : ((W.alloc (.cells (Value.agg #[.map none]).cells E.tTags)).alloc (.cells (Value.agg #[.map none]).cells E.tTags)).cell? ⟨W.heap.size + 1, 0, none⟩ = some (.map none) := by
  have := cells_new (W.alloc (.cells (Value.agg #[.map none]).cells E.tTags)) (Value.agg #[.map none]).cells E.tTags (i := 0) (v := .map none) (by simp [Value.cells])
  simpa using this
 have hz0 : ((W.alloc (.cells (Value.agg #[.map none]).cells E.tTags)).alloc (.cells (Value.agg #[.map none]).cells E.tTags)).heap.size = W.heap.size + 2 := by simp
 have hsz1 : (W.alloc (.cells (Value.agg #[.map none]).cells E.tTags)).heap.size = W.heap.size + 1 := by simp
 generalize ha1 : Act.put (Act.put a _ _) _ _ = a1
 have hfr1 : Fr (fun k => k < 2) a a1 := by
  subst ha1
  exact ((Fr.refl _ a).put _ (by omega)).put _ (by omega)
 have h12 : a1.eval (.tmp 2) = .pointer (some ⟨W.heap.size, 0, none⟩) := by subst ha1; simp (disch := (try simp only [sP]); omega) only [eV]
 have h13 : a1.eval (.tmp 3) = .pointer (some ⟨W.heap.size + 1, 0, none⟩) := by subst ha1; rw [← hsz1]; simp (disch := (try simp only [sP]); omega) only [eV]
 have hs1 := hfr1.size
 clear ha1
 generalize hW0 : (W.alloc (.cells (Value.agg #[.map none]).cells E.tTags)).alloc (.cells (Value.agg #[.map none]).cells E.tTags) = w0 at *
 generalize hB : W.heap.size = B0 at *
 have hr0 : RdS w0 rb sb st := hr.below hb0 (by omega) (by omega)
 refine vS (vX (rM ?_))
 refine r_call' (args := #[.pointer (some ⟨rb, 0, none⟩)]) ?_ (cU rb sb st w0 hr0) ?_
 ·simp only [lM]
  simp (disch := (try simp only [sP]); omega) only [eV, hfr1.slot 0 (by omega), e0]
 rintro v w1 ⟨rfl, hr1, hE1, _⟩
 refine rA (dn ?_)
 generalize ha2 : Act.put _ (some 4) _ = a2
 have hfr2 : Fr (fun k => k < 4) a1 a2 := by
  subst ha2
  exact (((Fr.refl _ a1).put _ (by omega)).put _ (by omega)).put _ (by omega)
 have h24 : a2.eval (.tmp 4) = .int .u32 ((rdUv st).1 : Int) := by subst ha2; simp (disch := (try simp only [sP]); omega) only [eV]
 have hs2 := hfr2.size
 clear ha2
 have hn := rdUv_lt st
 have hbW : Eff (RM rb) W w0 := Eff.of_below (by rw [hB]; exact hb0)
 have hEW1 : Eff (RM rb) W w1 := hbW.trans hE1
 have hz1 := hE1.size
 generalize hnn : (rdUv st).1 = n at *
 -- the loop
 refine vS (vc_block (vc_loop (fun A w => ∃ i, i ≤ n ∧ A.tmps.size = 24 ∧ A.defers = [] ∧ A.eval (.tmp 0) = .pointer (some ⟨rb, 0, none⟩) ∧ A.eval (.tmp 2) = .pointer (some ⟨B0, 0, none⟩) ∧ A.eval (.tmp 3) = .pointer (some ⟨B0 + 1, 0, none⟩) ∧ A.eval (.tmp 4) = .int .u32 ((n - i : Nat) : Int) ∧
   RdS w rb sb (rdTagsN i [] (rdUv st).2).2 ∧ Eff (RM rb) W w ∧ B0 + 2 ≤ w.heap.size ∧ Free w B0 0 ∧ Free w (B0 + 1) 0 ∧ ∃ v tags, w.cell? ⟨B0 + 1, 0, none⟩ = some v ∧ v.oneCell' = true ∧ TagM w sb (B0 + 1) v tags ∧ ((rdTagsN i [] (rdUv st).2).2.2 = false → tags = (rdTagsN i [] (rdUv st).2).1))
  (fun A _ => (intOf (A.eval (.tmp 4))).toNat) ?_ ?_))
 ·refine ⟨0, Nat.zero_le _, by rw [hs2, hs1, hsz], by rw [hfr2.defers, hfr1.defers, hdf], by rw [hfr2.slot 0 (by omega), hfr1.slot 0 (by omega)]; exact e0, by rw [hfr2.slot 2 (by omega)]; exact h12, by rw [hfr2.slot 3 (by omega)]; exact h13, h24, hr1, hEW1, by omega, hf2.eff hE1, hf3.eff hE1, .map none, [], ?_, rfl, ⟨⟨List.Pairwise.nil, by simp⟩, .inl ⟨rfl, rfl⟩⟩, fun _ => rfl⟩
  exact hE1.cellSome hc3 (by rintro ⟨e, _⟩; omega)
 rintro A w ⟨i, hi, hsA, hdA, g0, g2, g3, g4, hrw, hEw, hzw, hfw2, hfw3, v, tags, hcv, hv1, htm, hteq⟩
 refine vS (vX (rM ?_))
 refine r_gtr (k := .u32) (m := ((n - i : Nat) : Int)) (n := 0) (by simp (disch := (try simp only [sP]); omega) only [eV, g4]) rfl ?_
 refine dn ?_
 refine vS (vC (t := decide (((n - i : Nat) : Int) > 0)) (by simp (disch := (try simp only [sP]); omega) only [eV]) ?_ ?_)
 ·intro h
  have hlt : i < n := by
   have : ((n - i : Nat) : Int) > 0 := by simpa using h
   omega
  refine vK (vN ?_)
  refine vS (vc_block (vX ?_))
  refine rM ?_
  refine r_call' (args := #[.pointer (some ⟨rb, 0, none⟩)]) ?_ (cU rb sb _ w hrw) ?_
  ·simp only [lM]
   simp (disch := (try simp only [sP]); omega) only [eV, g0]
  rintro v2 w2 ⟨rfl, hr2, hE2, _⟩
  refine rM ?_
  refine r_call' (args := #[.pointer (some ⟨rb, 0, none⟩)]) ?_ (cU rb sb _ w2 hr2) ?_
  ·simp only [lM]
   simp (disch := (try simp only [sP]); omega) only [eV, g0]
  rintro v3 w3 ⟨rfl, hr3, hE3, hNN3⟩
  refine rA (rA (dn (vX (rM (rM (rM ?_))))))
  have hk1 := rdUv_lt (rdTagsN i [] (rdUv st).2).2
  have hk2 := rdUv_lt (rdUv (rdTagsN i [] (rdUv st).2).2).2
  refine r_conv (k := .u32) (k' := .i64) (m := ((rdUv (rdUv (rdTagsN i [] (rdUv st).2).2).2).1 : Int)) iu ii (by simp (disch := (try simp only [sP]); omega) only [eV]) ?_
  rw [wrap_i64 (by omega) (by omega)]
  refine r_call' (args := #[.pointer (some ⟨rb, 0, none⟩), .int .i64 ((rdUv (rdUv (rdTagsN i [] (rdUv st).2).2).2).1 : Int)]) ?_ (cS rb sb _ _ w3 hr3) ?_
  ·simp only [lM]
   simp (disch := (try simp only [sP]); omega) only [eV, g0]
  rintro sv w4 ⟨hsv, hr4, hE4, _⟩
  have hE24 : Eff (RM rb) w w4 := (hE2.trans hE3).trans hE4
  have hz4 := hE24.size
  have htm4 : TagM w4 sb (B0 + 1) v tags := htm.eff hE24 (by omega) hr.ne (by omega)
  refine r_call' (args := #[.pointer (some ⟨B0 + 1, 0, none⟩), .int .u32 ((rdUv (rdTagsN i [] (rdUv st).2).2).1 : Int), sv]) ?_
   (k_gSet H hset (B := B0 + 1) (hE24.cellSome hcv (by rintro ⟨e, _⟩; omega)) (hfw3.eff hE24) htm4 hsv hk1 (Nat.le_refl _) (by omega) (by omega)) ?_
  ·simp only [lM]
   simp (disch := (try simp only [sP]); omega) only [eV, g3]
  rintro v5 w5 ⟨hb5, v', hc5, hv5, hf5, htm5⟩
  refine dn ?_
  have hz5 := hb5.size
  refine vN (vX (rM ?_))
  refine r_sub (k := .u32) (m := ((n - i : Nat) : Int)) (n := 1) (by simp (disch := (try simp only [sP]); omega) only [eV, g4]) rfl ?_
  rw [wrapu32 (by omega) (by omega)]
  refine rA (dn (vN ?_))
  generalize hA5 : Act.put _ (some 4) _ = A5
  have hfr5 : Fr (fun k => k < 4) A A5 := by
   subst hA5
   exact ((((((((((((((Fr.refl _ A).put _ (by omega)).put _ (by omega)).put _ (by omega)).put _ (by omega)).put _ (by omega)).put _ (by omega)).put _ (by omega)).put _ (by omega)).put _ (by omega)).put _ (by omega)).put _ (by omega)).put _ (by omega) |>.put _ (by omega)).put _ (by omega) |>.put _ (by omega)).put _ (by omega) |>.put _ (by omega)
  have h54 : A5.eval (.tmp 4) = .int .u32 (((n - i : Nat) : Int) - 1) := by subst hA5; simp (disch := (try simp only [sP]); omega) only [eV]
  have e1 : ((n - i : Nat) : Int) - 1 = ((n - (i + 1) : Nat) : Int) := by omega
  rw [e1] at h54
  have hEW5 : Eff (RM rb) W w5 := effBelow (hEw.trans hE24) (by rw [hB]; exact hb5.mono (by omega))
  refine ⟨⟨i + 1, hlt, by rw [hfr5.size]; exact hsA, by rw [hfr5.defers]; exact hdA, by rw [hfr5.slot 0 (by omega)]; exact g0, by rw [hfr5.slot 2 (by omega)]; exact g2, by rw [hfr5.slot 3 (by omega)]; exact g3, h54, ?_, hEW5, by omega, ?_, hf5, v', _, hc5, hv5, htm5, ?_⟩, ?_⟩
  ·rw [rdTagsN_snoc]
   exact (show RdS w4 rb sb (rdTag (rdTagsN i [] (rdUv st).2).2).2 from hr4).below hb5 (by omega) (by omega)
  ·have := hfw2.eff hE24
   exact free_at (hb5.block B0 (by omega)) this
  ·intro hbad
   rw [rdTagsN_snoc] at hbad ⊢
   rw [hteq (rdTag_mono hbad)]
   rfl
  ·show (intOf _).toNat < (intOf _).toNat
   rw [h54, g4]
   simp only [intOf, Int.toNat_natCast]
   omega
 ·intro h
  have hin : i = n := by
   have : ¬ (((n - i : Nat) : Int) > 0) := by simpa using h
   omega
  subst hin
  refine vc_exit ?_
  simp only [Exit.then, Exit.inBlock, if_true]
  refine vN (vX ?_)
  have hcc : Cells w (B0 + 1) 0 [v] := by
   intro j u hu
   cases j with
   | zero => simp only [List.getElem?_cons_zero, Option.some.injEq] at hu; subst hu; exact hcv
   | succ j => simp at hu
  refine r_loadAgg (b := B0 + 1) (o := 0) (cs := [v]) (by simp (disch := (try simp only [sP]); omega) only [eV, g3]) H.aTags hcc ?_
  have hfree : ∀ j, j < [v].length → Free w B0 (0 + j) := fun j hj => by
   have : j = 0 := by simpa using hj
   subst this
   exact hfw2
  refine r_storeAgg (b := B0) (o := 0) (cs := [v]) (by simp (disch := (try simp only [sP]); omega) only [eV, g2]) (by simp (disch := (try simp only [sP]); omega) only [eV]) (by simpa using hv1) H.aTags hfree ?_
  refine dn (vS (vT ?_))
  have hE9 := setCells_eff B0 [v] w 0
  have hcells : Cells (setCells w B0 0 [v]) B0 0 [v] := fun j u hu => setCells_cell _ _ _ _ (fun j hj => (hfree j hj).1) j u hu
  refine ⟨by simp only [dF]; exact hdA, .agg [v].toArray, results_cell (b := B0) (o := 0) (cs := [v]) (by simp (disch := (try simp only [sP]); omega) only [eV, g2]) H.aTags hcells, ⟨v, tags, rfl, hv1, ?_, fun hb => ?_⟩, ?_, ?_⟩
  ·have htm' : TagM (setCells w B0 0 [v]) sb (B0 + 1) v tags := by
    refine htm.heap (hE9.blockEq (by omega) (by rintro j ⟨e, _⟩; omega)) hE9.size ?_
    rintro q rfl
    rcases htm.2 with ⟨h2, _⟩ | ⟨q', l, hv, hq, hqs, _⟩
    ·cases h2
    ·cases hv
     exact hE9.blockEq hqs (by rintro j ⟨e, _⟩; omega)
   have := htm'.rep (by have := hE9.size; omega)
   obtain ⟨k1, k2, k3⟩ := this
   refine ⟨k1, k2, ?_⟩
   rcases k3 with k3 | ⟨q, es, clock, k4, k5, k6⟩
   ·exact .inl k3
   ·obtain ⟨k7, k8, k9, k10, l, k11, k12, k13⟩ := k6
    refine .inr ⟨q, es, clock, k4, by omega, k7, k8, k9, k10, l, k11, k12, fun j x hx => ?_⟩
    obtain ⟨e, m1, m2, m3⟩ := k13 j x hx
    exact ⟨e, m1, m2, m3.imp id (fun ⟨c, o, cap, z1, z2, z3⟩ => ⟨c, o, cap, z1, z2.imp id (fun h => by omega), z3⟩)⟩
  ·have e : (rdTags st) = rdTagsN i [] (rdUv st).2 := by unfold rdTags; rw [hnn]
   rw [e] at hb ⊢
   exact hteq hb
  ·have e : (rdTags st) = rdTagsN i [] (rdUv st).2 := by unfold rdTags; rw [hnn]
   rw [e]
   exact hrw.keep hE9 (by rintro j ⟨e, _⟩; omega) (by rintro j ⟨e, _⟩; omega)
  ·refine hEw.trans' hE9 ?_
   rintro k j hk ⟨e, _⟩
   omega
end
end Go.Km
namespace Go.Km
open Go Go.RowKit
attribute [local irreducible] vc rO_ runG runS runD
def encU (k : Nat) : Value := .int .u32 (k : Int)
def ltU (a b : Nat) : Bool := decide (a < b)
theorem swoU : Go.Sort.SWO ltU := ⟨fun x => by simp [ltU], fun x y z h1 h2 => by simp only [ltU, decide_eq_true_eq] at *; omega, fun x y z h1 h2 => by simp only [ltU, decide_eq_false_iff_not] at *; omega⟩
structure SortE (P : Program) (E : Env) : Prop where
 mixed : P.follows .mixedOrders = true
 row : rowB P E.tU32s E.tW 1 = true
 oU32s : oneT P E.tU32s = true
 zU32s : zeroT P E.tU32s = some (.slice none 0 0)
 oU32 : oneT P E.tW = true
 iu : intT P E.tW = some .u32
 L : ∃ ρ : Go.Shelf.Ren, Go.Proofs.LaysGg.n6 P ρ ∧ ρ.f 6 = E.sortSlice
 enters : Enters P E.sortSlice
 info : ∃ i ie, P.info? E.tU32s = some i ∧ i.desc = .slice E.tW ∧ P.packed E.tU32s = false ∧ P.info? E.tW = some ie ∧ ie.size = 1 ∧ ie.hasPointers = false ∧ ie.bytes = 4
 kind : ∀ w, (Extern.Rtype.kind E.tW).run P w = .ok 10 w
 sw2 : ∃ f, P.funcs.findIdx? (·.name == "internal/reflectlite" ++ ".Swapper$" ++ toString 2) = some f
 sw6 : ∃ f gS, P.funcs.findIdx? (·.name == "internal/reflectlite" ++ ".Swapper$" ++ toString 6) = some f ∧ ∀ args W, (callFunc f args).run P W = ((Extern.ReflectliteSwapper.swap gS args).run P W).andThen fun v w' => .ok (.value v) w'
 less : Text P E.gAll1 2 15 #[.tmp 5] (c_gAll1 E)
section
variable {P : Program} {E : Env}
theorem cells_drewN {W w' : World} {q : Nat} (h : w' = W.drewN q) (a : Addr) : w'.cell? a = W.cell? a := by subst h; rfl
theorem k_gAll1 (H : SortE P E) {W : World} {ob blk size c : Nat} {G : Nat → Nat} (hs : W.cell? ⟨ob, 0, none⟩ = some (.slice (some ⟨blk, 0, none⟩) size c)) (hc : ∀ t, t < size → W.cell? ⟨blk, 0 + t, none⟩ = some (encU (G t))) {i j : Nat} (hi : i < size) (hj : j < size) :
  CallsV P E.gAll1 #[.int .i64 i, .int .i64 j, .pointer (some ⟨ob, 0, none⟩)] W fun v w' => v = .bool (ltU (G i) (G j)) ∧ ∃ q, w' = W.drewN q := by
 refine CallsV.enter H.less (by simp) ?_
 intro a hsz hdf harg
 have e0 := harg 0 (.int .i64 i) (by simp)
 have e1 := harg 1 (.int .i64 j) (by simp)
 have e2 := harg 2 (.pointer (some ⟨ob, 0, none⟩)) (by simp)
 unfold c_gAll1
 refine vX (rA (dn ?_))
 have hst : (∃ q, ({ W with drawn := W.drawn + 1 } : World) = W.drewN q) := ⟨1, rfl⟩
 generalize hA : Act.put a _ _ = A
 have hsA : A.tmps.size = 15 := by rw [← hA, zP]; exact hsz
 have hdA : A.defers = [] := by rw [← hA, dF]; exact hdf
 have k0 : A.eval (.tmp 0) = .int .i64 i := by rw [← hA]; simp (disch := (try simp only [sP]); omega) only [eV, e0]
 have k1 : A.eval (.tmp 1) = .int .i64 j := by rw [← hA]; simp (disch := (try simp only [sP]); omega) only [eV, e1]
 have k2 : A.eval (.tmp 2) = .pointer (some ⟨ob, 0, none⟩) := by rw [← hA]; simp (disch := (try simp only [sP]); omega) only [eV, e2]
 clear hA
 refine vS (vc_rgd [(0, true), (1, true), (2, true), (3, true), (4, true), (5, true), (6, true), (7, true), (8, true), (9, true)] (fun W' => ∃ q, W' = W.drewN q) H.mixed (by kernel_rfl) rfl (by kernel_rfl) (fun _ _ _ _ h => False.elim h) ?_)
 have e1o : Cells W 0 0 [] := fun i v h => by simp at h
 refine dP rfl rfl rfl (wN rfl) (by simp only [zP, hsA]; omega) hst (fun w' ⟨q, hq⟩ => rL (b := ob) (o := 0) (v := .slice (some ⟨blk, 0, none⟩) size c) (by simp (disch := (try simp only [sP]); omega) only [eV, k2]) H.oU32s (by rw [cells_drewN hq]; exact hs) (dn ⟨rfl, rfl, rfl⟩)) ?_
 refine dP rfl rfl rfl (wN rfl) (by simp only [zP, hsA]; omega) hst (fun w' _ => rM (dn ⟨rfl, rfl, rfl⟩)) ?_
 refine dP rfl rfl rfl (wN rfl) (by simp only [zP, hsA]; omega) hst (fun w' _ => r_index (b := blk) (o := 0) (len := size) (cap := c) (k := .i64) (j := i) (rB H.row) (by simp (disch := (try simp only [sP]); omega) only [eV]) (by simp (disch := (try simp only [sP]); omega) only [eV, k0]) hi (dn ⟨rfl, rfl, rfl⟩)) ?_
 refine dP rfl rfl rfl (wN rfl) (by simp only [zP, hsA]; omega) hst (fun w' ⟨q, hq⟩ => rL (b := blk) (o := 0 + i * 1) (v := encU (G i)) (by simp (disch := (try simp only [sP]); omega) only [eV]) H.oU32 (by rw [cells_drewN hq, Nat.mul_one]; exact hc i hi) (dn ⟨rfl, rfl, rfl⟩)) ?_
 refine dP rfl rfl rfl (wN rfl) (by simp only [zP, hsA]; omega) hst (fun w' ⟨q, hq⟩ => rL (b := ob) (o := 0) (v := .slice (some ⟨blk, 0, none⟩) size c) (by simp (disch := (try simp only [sP]); omega) only [eV, k2]) H.oU32s (by rw [cells_drewN hq]; exact hs) (dn ⟨rfl, rfl, rfl⟩)) ?_
 refine dP rfl rfl rfl (wN rfl) (by simp only [zP, hsA]; omega) hst (fun w' _ => rM (dn ⟨rfl, rfl, rfl⟩)) ?_
 refine dP rfl rfl rfl (wN rfl) (by simp only [zP, hsA]; omega) hst (fun w' _ => r_index (b := blk) (o := 0) (len := size) (cap := c) (k := .i64) (j := j) (rB H.row) (by simp (disch := (try simp only [sP]); omega) only [eV]) (by simp (disch := (try simp only [sP]); omega) only [eV, k1]) hj (dn ⟨rfl, rfl, rfl⟩)) ?_
 refine dP rfl rfl rfl (wN rfl) (by simp only [zP, hsA]; omega) hst (fun w' ⟨q, hq⟩ => rL (b := blk) (o := 0 + j * 1) (v := encU (G j)) (by simp (disch := (try simp only [sP]); omega) only [eV]) H.oU32 (by rw [cells_drewN hq, Nat.mul_one]; exact hc j hj) (dn ⟨rfl, rfl, rfl⟩)) ?_
 refine dP rfl rfl rfl (wN rfl) (by simp only [zP, hsA]; omega) hst (fun w' _ => r_lss (k := .u32) (m := (G i : Int)) (n := (G j : Int)) (by (try simp (disch := (try simp only [sP]); omega) only [eV]) <;> (first | rfl | assumption)) (by (try simp (disch := (try simp only [sP]); omega) only [eV]) <;> (first | rfl | assumption)) (dn ⟨rfl, rfl, rfl⟩)) ?_
 refine dP rfl rfl rfl (wN rfl) (by simp only [zP, hsA]; omega) hst (fun w' _ => rA (dn ⟨rfl, rfl, rfl⟩)) ?_
 refine d_nil ?_
 refine vS (vT ?_)
 refine ⟨by simp only [dF]; exact hdA, .bool (ltU (G i) (G j)), rO ?_, rfl, 1, rfl⟩
 simp (disch := (try simp only [sP]); omega) only [eV]
 simp [ltU]
theorem eff_sorted {w : World} {blk : Nat} {d : Array Nat} {n : Nat} {os : Array Obj} : Eff (fun k _ => k = blk) w (Go.Sort.grow (Go.Sort.putRow encU (Go.Sort.ahead w n) blk 0 d) os) := by
 refine ⟨rfl, rfl, rfl, ?_, fun k hk => ?_⟩
 ·simp [Go.Sort.grow, Go.Sort.putRow, Go.Sort.mapBlock, Go.Sort.ahead]
 ·have h1 : (Go.Sort.grow (Go.Sort.putRow encU (Go.Sort.ahead w n) blk 0 d) os).heap[k]? = (Go.Sort.putRow encU (Go.Sort.ahead w n) blk 0 d).heap[k]? := Go.Sort.heap_grow_old _ _ (by simpa [Go.Sort.putRow, Go.Sort.mapBlock, Go.Sort.ahead] using hk)
  rw [h1]
  show BlkKeep (fun _ => k = blk) w.heap[k]? (w.heap.modify blk (Go.Sort.onCells (Go.Sort.putCells encU 0 d)))[k]?
  rw [Array.getElem?_modify]
  by_cases hb : blk = k
  ·subst hb
   simp only [if_true]
   cases hh : w.heap[blk]? with
   | none => exact BlkKeep.refl _ _
   | some x =>
    cases x with
    | cells c T f => exact ⟨_, rfl, by simp [Go.Sort.putCells], fun i hi => absurd trivial hi⟩
    | _ => exact BlkKeep.refl _ _
  ·simp only [if_neg hb]
   exact BlkKeep.refl _ _
theorem getD_toArray (ks : List Nat) (j : Nat) (h : j < ks.length) : ks.toArray[j]! = ks[j] := by simp [h]
theorem k_sort (H : SortE P E) {w : World} {U n ob : Nat} {v : Value} {ks : List Nat} (hown : w.ownsRow U E.tW 1 v n (ks.map encU)) (hn : ks.length = n) (h1 : 1 ≤ n) (hbig : n ≤ big) (hob : w.cell? ⟨ob, 0, none⟩ = some v) (hne : ∀ a c, v = .slice (some ⟨a, 0, none⟩) n c → ob ≠ a) :
  CallsV P E.sortSlice #[.iface E.tU32s v, .func (.func E.gAll1) #[] #[.pointer (some ⟨ob, 0, none⟩)]] w fun _ w' => ∃ (blk cap : Nat) (ks' : List Nat), v = .slice (some ⟨blk, 0, none⟩) n cap ∧ U ≤ blk ∧ blk < w.heap.size ∧ ks'.Perm ks ∧ ks'.Pairwise (· ≤ ·) ∧ Cells w' blk 0 (ks'.map encU) ∧ Eff (fun k _ => k = blk) w w' := by
 refine ⟨H.enters, ?_⟩
 obtain ⟨ρ, L, hρ⟩ := H.L
 obtain ⟨i, ie, hi, hd, hpk, hie, hs1, hptr, hby⟩ := H.info
 have hagg : ∀ w, (isAgg E.tW).run P w = .ok false w := fun w => run_isAgg_oneT H.oU32
 rcases hown.2 with ⟨_, h0⟩ | ⟨g, cap, cur, rfl, hbg, hg, hnc, hcm, hcs, htake⟩
 ·omega
 have hglt : g < w.heap.size := (Array.getElem?_eq_some_iff.1 hg).1
 have hobg : ob ≠ g := hne g cap rfl
 have hoblt : ob < w.heap.size := lt_of_cell hob
 have hbig' : big ≤ 2147483000 := Nat.le_refl _
 have hcells : Cells w g 0 (ks.map encU) := by
  intro j u hu
  have := hown.cells (g := g) rfl j u hu
  rwa [Addr.add_lit] at this
 by_cases h2 : 2 ≤ n
 ·have hK : Go.Lib.swapperK n ie 10 = 6 := by
   have c0 : (n == 0) = false := by simp; omega
   have c1 : (n == 1) = false := by simp; omega
   simp [Go.Lib.swapperK, hptr, hby, c0, c1]
  obtain ⟨f, gS, hf, hx⟩ := H.sw6
  have hsz : ks.toArray.size = n := by simpa using hn
  have hH : Go.Sort.Holds encU w g 0 ks.toArray := by
   intro j hj
   have hj' : j < ks.length := by simpa using hj
   refine ⟨?_, by simp [World.frozen?, hg]⟩
   rw [getD_toArray ks j hj']
   exact hcells j (encU ks[j]) (by simp [hj'])
  have hless : Go.Proofs.LessReads P E.gAll1 #[.pointer (some ⟨ob, 0, none⟩)] encU ltU g 0 n w := by
   intro m os dk hdk x y hx hy
   have hgl : g < (Go.Sort.ahead w m).heap.size := hglt
   have e : Go.Proofs.sortWorld encU w g 0 m dk os = Go.Sort.grow (Go.Sort.putRow encU (Go.Sort.ahead w m) g 0 dk) os := rfl
   have hsp : (Go.Sort.putRow encU (Go.Sort.ahead w m) g 0 dk).heap.size = w.heap.size := by simp [Go.Sort.putRow, Go.Sort.mapBlock, Go.Sort.ahead]
   have hHa : Go.Sort.Holds encU (Go.Sort.ahead w m) g 0 ks.toArray := Go.Sort.holds_ahead _ _ _ _ _ _ hH
   have := (k_gAll1 H (W := Go.Proofs.sortWorld encU w g 0 m dk os) (ob := ob) (blk := g) (size := n) (c := cap) (G := fun t => dk[t]!) ?_ ?_ hx hy).2
   ·refine this.mono ?_
    rintro e w' ⟨v, rfl, rfl, q, hq⟩
    exact ⟨rfl, q, hq⟩
   ·rw [e, Go.Sort.cell?_grow _ _ _ (by show ob < _; rw [hsp]; exact hoblt), Go.Sort.cell?_putRow_other _ _ g 0 dk _ (Or.inl (by show ob ≠ g; exact hobg))]
    exact hob
   ·intro t ht
    rw [e, Go.Sort.cell?_grow _ _ _ (by show g < _; rw [hsp]; exact hglt)]
    exact Go.Sort.cell?_putRow encU _ g 0 ks.toArray dk hHa (by rw [hdk, hsz]) t (by omega)
  have hS := Go.Proofs.Any.sort_Slice_sorted L E.tU32s E.tW i ie hi hd hpk hie 10 H.kind hs1 hagg encU (fun _ => rfl) ltU swoU E.gAll1 #[.pointer (some ⟨ob, 0, none⟩)] (fun args w => H.less.enters args w) g 0 cap ks.toArray (by omega) (by omega) f
   (by rw [hsz, hK]; exact hf) gS hx w (by rw [hsz]; exact hless) hH hglt
  rw [hρ, hsz] at hS
  refine hS.mono ?_
  rintro e w' ⟨rfl, d', q, os, hp, hso, rfl⟩
  obtain ⟨hpz, _, hpp⟩ := hp
  have hdz : d'.size = n := by rw [hpz, hsz]
  refine ⟨_, rfl, g, cap, d'.toList, rfl, hbg, hglt, ?_, ?_, ?_, eff_sorted⟩
  ·have e1 : d'.extract 0 n = d' := by rw [← hdz]; simp
   have e2 : ks.toArray.extract 0 n = ks.toArray := by rw [← hsz]; simp
   rw [e1, e2] at hpp
   simpa using hpp
  ·refine List.pairwise_iff_getElem.2 fun x y hx hy hxy => ?_
   have hx' : x < d'.size := by simpa using hx
   have hy' : y < d'.size := by simpa using hy
   have := hso x y (Nat.zero_le _) hxy (by omega)
   simp only [ltU, decide_eq_false_iff_not] at this
   rw [getElem!_pos d' x hx', getElem!_pos d' y hy'] at this
   simp only [Array.getElem_toList]
   omega
  ·intro j u hu
   have hj : j < d'.size := by
    rcases Nat.lt_or_ge j d'.size with h | h
    ·exact h
    ·rw [List.getElem?_eq_none (by simpa using h)] at hu; cases hu
   have hsp : (Go.Sort.putRow encU (Go.Sort.ahead w q) g 0 d').heap.size = w.heap.size := by simp [Go.Sort.putRow, Go.Sort.mapBlock, Go.Sort.ahead]
   have hHa : Go.Sort.Holds encU (Go.Sort.ahead w q) g 0 ks.toArray := Go.Sort.holds_ahead _ _ _ _ _ _ hH
   rw [Go.Sort.cell?_grow _ _ _ (by show g < _; rw [hsp]; exact hglt), Go.Sort.cell?_putRow encU _ g 0 ks.toArray d' hHa (by rw [hdz, hsz]) j hj, getElem!_pos d' j hj]
   simp only [List.getElem?_map, Array.getElem?_toList, Array.getElem?_eq_getElem hj, Option.map_some, Option.some.injEq] at hu
   rw [hu]
 ·have hn1 : n = 1 := by omega
  subst hn1
  obtain ⟨f, hf⟩ := H.sw2
  have hK : Go.Lib.swapperK 1 ie 10 = 2 := by simp [Go.Lib.swapperK]
  have hS := Go.Proofs.Any.sort_Slice_tiny L E.tU32s E.tW i ie hi hd hpk hie 10 H.kind (some ⟨g, 0, none⟩) 1 cap (Nat.le_refl _) f (by rw [hK]; exact hf) (.func E.gAll1) #[] #[.pointer (some ⟨ob, 0, none⟩)] w
  rw [hρ] at hS
  refine hS.mono ?_
  rintro e w' ⟨rfl, os, rfl⟩
  refine ⟨_, rfl, g, cap, ks, rfl, hbg, hglt, List.Perm.refl _, ?_, ?_, ?_⟩
  ·match ks, hn with
   | [x], _ => exact List.pairwise_singleton _ _
  ·intro j u hu
   rw [Go.Sort.cell?_grow _ _ _ hglt]
   exact hcells j u hu
  ·refine ⟨rfl, rfl, rfl, by simp [Go.Sort.grow], fun k hk => BlkKeep.of_eq (Go.Sort.heap_grow_old _ _ hk)⟩
end
end Go.Km
namespace Go.Km
open Go Go.RowKit
attribute [local irreducible] vc rO_ runG runS runD
theorem own_heapG {w w' : World} {B : Nat} {e : TypeId} {s : Nat} {v : Value} {n : Nat} {xs : List Value} (h : w.ownsRow B e s v n xs) (hk : ∀ g, v.ownBlock = some g → w'.heap[g]? = w.heap[g]?) : w'.ownsRow B e s v n xs := by
 refine ⟨h.1, ?_⟩
 rcases h.2 with h | ⟨g, cap, cur, rfl, h2, h3, h4⟩
 ·exact .inl h
 ·exact .inr ⟨g, cap, cur, rfl, h2, by rw [hk g rfl]; exact h3, h4⟩
theorem own_lt {w : World} {B : Nat} {e : TypeId} {s : Nat} {v : Value} {n : Nat} {xs : List Value} (h : w.ownsRow B e s v n xs) : ∀ g, v.ownBlock = some g → B ≤ g ∧ g < w.heap.size := by
 intro g hg
 rcases h.2 with ⟨rfl, _⟩ | ⟨g', cap, cur, rfl, h2, h3, h4⟩
 ·cases hg
 ·simp only [Value.ownBlock, Option.some.injEq] at hg
  subst hg
  exact ⟨h2, (Array.getElem?_eq_some_iff.1 h3).1⟩
theorem own_one {w : World} {B : Nat} {e : TypeId} {s : Nat} {v : Value} {n : Nat} {xs : List Value} (h : w.ownsRow B e s v n xs) : v.oneCell' = true ∧ v.cells = #[v] := by
 rcases h.2 with ⟨rfl, _⟩ | ⟨g', cap, cur, rfl, h2, h3, h4⟩ <;> exact ⟨rfl, rfl⟩
structure DSt (E : Env) (U db : Nat) (w : World) (dv : Value) (xs : List UInt8) : Prop where
 cell : w.cell? ⟨db, 0, none⟩ = some dv
 free : Free w db 0
 own : w.ownsRow U E.tU8 1 dv xs.length (xs.map bv)
 ne : dv.ownBlock ≠ some db
 U : U ≤ db
structure DKeep (U db : Nat) (w : World) (dv : Value) (w' : World) (dv' : Value) : Prop where
 below : Below U w w'
 same : ∀ k, k < w.heap.size → k ≠ db → dv.ownBlock ≠ some k → w'.heap[k]? = w.heap[k]?
 row : ∀ g, dv'.ownBlock = some g → dv.ownBlock = some g ∨ w.heap.size ≤ g
theorem DKeep.refl (U db : Nat) (w : World) (dv : Value) : DKeep U db w dv w dv := ⟨Below.refl _ _, fun _ _ _ _ => rfl, fun _ h => .inl h⟩
theorem DKeep.trans {U db : Nat} {w w1 w2 : World} {dv d1 d2 : Value} (h : DKeep U db w dv w1 d1) (k : DKeep U db w1 d1 w2 d2) : DKeep U db w dv w2 d2 := by
 have hz := h.below.size
 refine ⟨h.below.trans k.below, fun j hj hd hr => ?_, fun g hg => ?_⟩
 ·rw [k.same j (by omega) hd (fun e => ?_), h.same j hj hd hr]
  rcases h.row j e with h1 | h1
  ·exact hr h1
  ·omega
 ·rcases k.row g hg with h1 | h1
  ·exact h.row g h1
  ·exact .inr (by omega)
theorem DSt.step {E : Env} {U db : Nat} {w w1 : World} {dv d1 : Value} {xs ys : List UInt8} (h : DSt E U db w dv xs) (ho : w1.ownsRow U E.tU8 1 d1 ys.length (ys.map bv)) (hb : Below U w w1) (hk : Keep w dv d1 w1) : Free w1 db 0 ∧ DSt E U db (w1.setCell ⟨db, 0, none⟩ d1) d1 ys ∧ DKeep U db w dv (w1.setCell ⟨db, 0, none⟩ d1) d1 := by
 have hdb : db < w.heap.size := lt_of_cell h.cell
 have hz := hb.size
 have hf1 : Free w1 db 0 := free_at (hk.1 db hdb h.ne) h.free
 have hne : d1.ownBlock ≠ some db := fun e => by
  rcases hk.2 db e with h1 | h1
  ·exact h.ne h1
  ·omega
 refine ⟨hf1, ⟨cell_setCell_same _ hf1.1, hf1.eff ((Eff.refl (fun k _ => k = db) _).setCell _ _ _ (fun _ => rfl)), own_heapG ho (fun g hg => Below.heap_setCell _ _ _ _ (fun e => hne (by rw [hg, e]))), hne, h.U⟩, hb.setCell (p := ⟨db, 0, none⟩) h.U _, fun k hk1 hk2 hk3 => ?_, hk.2⟩
 rw [Below.heap_setCell _ _ _ _ hk2]
 exact hk.1 k hk1 hk3
section
variable {P : Program} {E : Env}
theorem k_gEach1 (ht : Text P E.gEach1 2 16 #[] (c_gEach1 E)) (huv : ∀ (n : Nat) U w, n < 4294967296 → Wr1K P E E.wUvarint U [.int .u32 n] (Go.Km.uvar n) w) (HB : rowB P E.tB E.tU8 1 = true) (oB : oneT P E.tB = true) (iu : intT P E.tW = some .u32) (ii : intT P E.tI = some .i64)
  {w : World} {U db k : Nat} {dv val : Value} {xs l : List UInt8} (hd : DSt E U db w dv xs) (hk : k < 4294967296) (hv : ∃ ad cap, val = .slice ad l.length cap) (hsrc : ∀ w', Below U w w' → Src P 1 E.tB val l.length (l.map bv) w') (hb : xs.length + (wrTag (k, l)).length ≤ big) :
  CallsV P E.gEach1 #[.int .u32 (k : Int), val, .pointer (some ⟨db, 0, none⟩)] w fun _ w' => ∃ dv', DSt E U db w' dv' (xs ++ wrTag (k, l)) ∧ DKeep U db w dv w' dv' := by
 have hbig : big ≤ 2147483000 := Nat.le_refl _
 have hwr : (wrTag (k, l)).length = (Go.Km.uvar k).length + (Go.Km.uvar l.length).length + l.length := by simp [wrTag]; omega
 obtain ⟨ad, cap, hval⟩ := hv
 refine CallsV.enter ht (by simp) ?_
 intro a hsz hdf harg
 have e0 := harg 0 (.int .u32 (k : Int)) (by simp)
 have e1 := harg 1 val (by simp)
 have e2 := harg 2 (.pointer (some ⟨db, 0, none⟩)) (by simp)
 have hUw : U ≤ w.heap.size := by have := lt_of_cell hd.cell; have := hd.U; omega
 unfold c_gEach1
 refine vX ?_
 refine rL (b := db) (o := 0) (v := dv) (by simp (disch := (try simp only [sP]); omega) only [eV, e2]) oB hd.cell ?_
 refine rM ?_
 refine r_call' (args := #[dv, .int .u32 (k : Int)]) ?_ (huv k U w hk dv xs hd.own hUw (by omega)) ?_
 ·simp only [lM]
  simp (disch := (try simp only [sP]); omega) only [eV, e0]
 rintro d1 w1 ⟨ho1, hb1, hk1⟩
 obtain ⟨hf1, hd1, hkp1⟩ := hd.step ho1 hb1 hk1
 refine r_store (b := db) (o := 0) (v := d1) (by simp (disch := (try simp only [sP]); omega) only [eV, e2]) (by simp (disch := (try simp only [sP]); omega) only [eV]) (own_one ho1).1 oB hf1 ?_
 refine dn ?_
 generalize w1.setCell ⟨db, 0, none⟩ d1 = w2 at *
 have hUw2 : U ≤ w2.heap.size := by have := hkp1.below.size; omega
 refine vX ?_
 refine rL (b := db) (o := 0) (v := d1) (by simp (disch := (try simp only [sP]); omega) only [eV, e2]) oB hd1.cell ?_
 refine rM ?_
 refine r_len (ad := ad) (n := l.length) (c := cap) (rB HB) (by simp (disch := (try simp only [sP]); omega) only [eV, e1, hval]) ?_
 refine r_conv (k := .i64) (k' := .u32) (m := (l.length : Int)) ii iu (by simp (disch := (try simp only [sP]); omega) only [eV]) ?_
 rw [wrapu32 (by omega) (by omega)]
 refine r_call' (args := #[d1, .int .u32 (l.length : Int)]) ?_ (huv l.length U w2 (by omega) d1 _ hd1.own hUw2 (by simp only [List.length_append]; omega)) ?_
 ·simp only [lM]
  simp (disch := (try simp only [sP]); omega) only [eV]
 rintro d2 w3 ⟨ho2, hb2, hk2⟩
 obtain ⟨hf2, hd2, hkp2⟩ := hd1.step ho2 hb2 hk2
 refine r_store (b := db) (o := 0) (v := d2) (by simp (disch := (try simp only [sP]); omega) only [eV, e2]) (by simp (disch := (try simp only [sP]); omega) only [eV]) (own_one ho2).1 oB hf2 ?_
 refine dn ?_
 generalize w3.setCell ⟨db, 0, none⟩ d2 = w4 at *
 have hkp12 := hkp1.trans hkp2
 have hUw4 : U ≤ w4.heap.size := by have := hkp12.below.size; omega
 refine vX ?_
 refine rL (b := db) (o := 0) (v := d2) (by simp (disch := (try simp only [sP]); omega) only [eV, e2]) oB hd2.cell ?_
 refine rM ?_
 refine r_appendK (U := U) (v := d2) (n := (xs ++ Go.Km.uvar k ++ Go.Km.uvar l.length).length) (xs := (xs ++ Go.Km.uvar k ++ Go.Km.uvar l.length).map bv) (u := val) (m := l.length) (news := l.map bv) HB (by simp (disch := (try simp only [sP]); omega) only [eV]) (by simp (disch := (try simp only [sP]); omega) only [eV, e1]) hd2.own hUw4 (hsrc _ hkp12.below) (by simp only [List.length_append]; omega) ?_
 intro d3 w5 ho3 hb3 hk3
 have ho3' : w5.ownsRow U E.tU8 1 d3 (xs ++ wrTag (k, l)).length ((xs ++ wrTag (k, l)).map bv) := by
  have e : xs ++ wrTag (k, l) = (xs ++ Go.Km.uvar k ++ Go.Km.uvar l.length) ++ l := by simp [wrTag, List.append_assoc]
  rw [e, List.length_append, List.map_append]
  exact ho3
 obtain ⟨hf3, hd3, hkp3⟩ := hd2.step ho3' hb3 hk3
 refine r_store (b := db) (o := 0) (v := d3) (by simp (disch := (try simp only [sP]); omega) only [eV, e2]) (by simp (disch := (try simp only [sP]); omega) only [eV]) (own_one ho3').1 oB hf3 ?_
 refine dn (vN ?_)
 exact ⟨by simp only [dF]; exact hdf, .tuple #[], by simp [results], d3, hd3, hkp12.trans hkp3⟩
end
end Go.Km
namespace Go.Km
open Go Go.RowKit Go.ChangeMaps
attribute [local irreducible] vc rO_ runG runS runD
section
variable {P : Program} {a : Act} {w : World} {r : List Oper} {Q : Exit → Act → World → Prop}
theorem r_callF {d f x xs ts ty p af g pre post args} {S : Value → World → Prop} (hx : a.eval x = .func (.func f) pre post) (ha : pre ++ xs.map a.eval ++ post = args) (h : CallsV P f args w S) (hn : ∀ v w', S v w' → rO_ P Q r (a.put d v) w') :
  rO_ P Q (⟨d, .call { callee := .value x, args := xs, argTypes := ts }, ty, p, af, g⟩ :: r) a w := by
 refine st ?_
 obtain ⟨he, hc⟩ := h
 have h3 : (callFunc f (pre ++ xs.map a.eval ++ post)).run P w = .ok (.enter f args) w := by rw [ha]; exact he args w
 simp only [Oper.wp, execOp, resolve, hx, Deferred.ofValue, Sem.run_bind, Sem.run_pure, Result.andThen_ok, invoke]
 simp only [Oper.upon, h3]
 refine hc.mono ?_
 rintro e w' ⟨v, rfl, hs⟩
 exact hn v w' hs
theorem r_range {d t x ty p af g q es clock kt et} (ht : P.underlying t = some (.map kt et)) (hx : a.eval x = .map (some q)) (hq : w.heap[q]? = some (.map es clock)) (h : rO_ P Q r (a.put (some d) (.pointer (some ⟨w.heap.size, 0, none⟩))) (w.alloc (.mapIter (some q) clock #[] clock))) :
  rO_ P Q (⟨some d, .range t x, ty, p, af, g⟩ :: r) a w := by
 refine st ?_
 simp only [Oper.wp, execOp, hx, Sem.run_bind, run_range_map w t kt et q es clock ht hq, Sem.run_pure, Result.andThen_ok, Oper.upon_value]
 exact h
theorem r_next {d x ty p af g rr q es clock seen} (hx : a.eval x = .pointer (some ⟨rr, 0, none⟩)) (hr : w.heap[rr]? = some (.mapIter (some q) clock seen clock)) (hq : w.heap[q]? = some (.map es clock)) (hold : ∀ e ∈ es.toList, e.born < clock)
  (h0 : (leftOf es seen).size = 0 → rO_ P Q r (a.put (some d) (.tuple #[.bool false])) w)
  (h1 : ∀ e ∈ (leftOf es seen).toList, ∀ w1 : World, (w1 = w ∨ w1 = w.drew) → rO_ P Q r (a.put (some d) (.tuple #[.bool true, e.key, e.val])) (setBlock w1 rr (.mapIter (some q) clock (seen.push e.born) clock))) :
  rO_ P Q (⟨some d, .next x false, ty, p, af, g⟩ :: r) a w := by
 refine st ?_
 rcases run_next_at (P := P) w ty rr q clock clock seen es clock hr hq hold (Nat.le_refl _) with ⟨hz, hrun⟩ | ⟨e, he, w1, hw1, hrun⟩
 ·simp only [Oper.wp, execOp, hx, Sem.run_bind, hrun, Sem.run_pure, Result.andThen_ok, Oper.upon_value]
  exact h0 hz
 ·simp only [Oper.wp, execOp, hx, Sem.run_bind, hrun, Sem.run_pure, Result.andThen_ok, Oper.upon_value]
  exact h1 e he w1 hw1
theorem r_entry {d x ty p af g rr q since} {seen : Array Nat} {es : Array MapEntry} {clock : Nat} {e : MapEntry} (hx : a.eval x = .pointer (some ⟨rr, 0, none⟩)) (hr : w.heap[rr]? = some (.mapIter (some q) since (seen.push e.born) clock)) (hq : w.heap[q]? = some (.map es clock)) (he : e ∈ es.toList) (hn : (es.toList.map (·.born)).Nodup)
  (h : rO_ P Q r (a.put (some d) (.tuple #[e.key, e.val])) w) : rO_ P Q (⟨some d, .entry x, ty, p, af, g⟩ :: r) a w := by
 refine st ?_
 simp only [Oper.wp, execOp, hx, Sem.run_bind, run_entry_at (P := P) w rr q since seen es clock e hr hq he hn, Sem.run_pure, Result.andThen_ok, Oper.upon_value]
 exact h
theorem r_lookup {d t x i ty p af g kt et q es clock k j e} {l : List (Nat × List UInt8)} (ht : P.underlying t = some (.map kt et)) (hk : P.underlying kt = some (.int .u32)) (hx : a.eval x = .map (some q)) (hi : a.eval i = .int .u32 ((k : Nat) : Int)) (hq : w.heap[q]? = some (.map es clock)) (hl : l.length = es.size)
  (hkeys : ∀ (i : Nat) x, l[i]? = some x → ∃ e : MapEntry, es[i]? = some e ∧ e.key = .int .u32 (x.1 : Int)) (hf : l.findIdx? (·.1 == k) = some j) (he : es[j]? = some e)
  (h : rO_ P Q r (a.put (some d) e.val) w) : rO_ P Q (⟨some d, .lookup t x i false, ty, p, af, g⟩ :: r) a w := by
 refine st ?_
 have hg : (getObj q).run P w = .ok (.map es clock) w := by simp [getObj, Sem.run, hq]
 have hfk := run_findKey (P := P) (k := k) (w := w) (es := es.toList) (l := l) hk (by simpa using hl) (fun i x hx => by obtain ⟨e, e1, e2⟩ := hkeys i x hx; exact ⟨e, by simpa using e1, e2⟩)
 rw [hf] at hfk
 simp only [Option.bind_some, Array.getElem?_toList, he, Option.map_some] at hfk
 have hr : (Instr.lookup t (.map (some q)) (.int .u32 ((k : Nat) : Int)) false).run P w = .ok e.val w := by
  simp [Instr.lookup, run_underlying ht, hg, run_checkKey hk, hfk]
 simp only [Oper.wp, execOp, hx, hi, Sem.run_bind, hr, Sem.run_pure, Result.andThen_ok, Oper.upon_value]
 exact h
theorem r_makeIface {d t x ty p af g e} (ht : P.underlying t = some (.slice e)) (h : rO_ P Q r (a.put (some d) (.iface t (a.eval x))) w) : rO_ P Q (⟨some d, .makeInterface t x, ty, p, af, g⟩ :: r) a w := by
 refine st ?_
 have hr : (Instr.makeInterface t (a.eval x)).run P w = .ok (.iface t (a.eval x)) w := by simp [Instr.makeInterface, run_underlying ht]
 simp only [Oper.wp, execOp, Sem.run_bind, hr, Sem.run_pure, Result.andThen_ok, Oper.upon_value]
 exact h
theorem r_makeSlice {d t l c ty p af g e s} {n : Nat} (hB : rowB P t e s = true) (hl : a.eval l = .int .i64 0) (hc : a.eval c = .int .i64 (n : Int)) (hn : n ≤ big)
  (h : ∀ w', w'.ownsRow w.heap.size e s (.slice (some ⟨w.heap.size, 0, none⟩) 0 n) 0 [] → Below w.heap.size w w' → w'.heap.size = w.heap.size + 1 → rO_ P Q r (a.put (some d) (.slice (some ⟨w.heap.size, 0, none⟩) 0 n)) w') :
  rO_ P Q (⟨some d, .makeSlice t l c, ty, p, af, g⟩ :: r) a w := by
 refine st ?_
 obtain ⟨hu, i, z, hi, hsz, hs0, hz, hzs, hby⟩ := rowB_inv hB
 have hbig : big ≤ 2147483000 := Nat.le_refl _
 have hbytes : i.bytes * n ≤ 281474976710656 := by
  have := Nat.mul_le_mul hby hn
  unfold big at this
  omega
 have h63 : (n : Int) ≤ 9223372036854775807 := by omega
 have hb' : (i.bytes : Int) * (n : Int) ≤ 281474976710656 := by
  have h : ((i.bytes * n : Nat) : Int) ≤ 281474976710656 := by omega
  rwa [Int.natCast_mul] at h
 have hr := run_make (P := P) w t e i z hu hi hz .i64 .i64 0 n (Int.le_refl _) (by omega) hb' h63
 simp only [Int.toNat_zero, Int.toNat_natCast] at hr
 simp only [Oper.wp, execOp, hl, hc, Sem.run_bind, hr, Sem.run_pure, Result.andThen_ok, Oper.upon_value]
 refine h _ ?_ ((Below.refl w.heap.size w).alloc (o := .cells _ _) (Nat.le_refl _)) (by simp)
 rw [hsz]
 exact World.ownsRow_made w _ n (Nat.le_refl _) (by unfold maxLen; omega) (size_madeCells _ _)
end
theorem perm_left : ∀ (L : List MapEntry) (e : MapEntry), (L.map (·.born)).Nodup → e ∈ L → L.Perm (e :: L.filter (fun x => x.born != e.born))
 | [], e, _, h => by simp at h
 | x :: L, e, hn, h => by
  simp only [List.map_cons] at hn
  have hn2 := List.nodup_cons.1 hn
  rcases List.mem_cons.1 h with rfl | h
  ·have : L.filter (fun x => x.born != e.born) = L := by
    refine List.filter_eq_self.2 fun y hy => ?_
    have : y.born ≠ e.born := fun hh => hn2.1 (by rw [← hh]; exact List.mem_map.2 ⟨y, hy, rfl⟩)
    simpa using this
   rw [List.filter_cons_of_neg (by simp), this]
  ·have hne : x.born ≠ e.born := fun hh => hn2.1 (by rw [hh]; exact List.mem_map.2 ⟨e, h, rfl⟩)
   rw [List.filter_cons_of_pos (by simpa using hne)]
   exact ((perm_left L e hn2.2 h).cons x).trans (List.Perm.swap _ _ _)
theorem left_push (es : Array MapEntry) (seen : Array Nat) (e : MapEntry) : (leftOf es (seen.push e.born)).toList = (leftOf es seen).toList.filter (fun x => x.born != e.born) := by
 unfold leftOf
 simp only [Array.toList_filter, List.filter_filter]
 congr 1
 funext x
 rw [Array.contains_push]
 cases h1 : seen.contains x.born <;> cases h2 : (x.born == e.born) <;> simp [bne, h1, h2]
theorem left_step {es : Array MapEntry} {seen : Array Nat} {e : MapEntry} (hn : (es.toList.map (·.born)).Nodup) (he : e ∈ (leftOf es seen).toList) : (leftOf es seen).toList.Perm (e :: (leftOf es (seen.push e.born)).toList) := by
 rw [left_push]
 refine perm_left _ e ?_ he
 unfold leftOf
 rw [Array.toList_filter]
 exact hn.sublist (List.filter_sublist.map _)
def keyOf (e : MapEntry) : Nat := match e.key with | .int _ n => n.toNat | _ => 0
theorem keyOf_eq {e : MapEntry} {n : Nat} (h : e.key = .int .u32 (n : Int)) : keyOf e = n := by simp [keyOf, h]
theorem keys_eq {es : Array MapEntry} {l : List (Nat × List UInt8)} (hl : l.length = es.size) (h : ∀ (i : Nat) x, l[i]? = some x → ∃ e : MapEntry, es[i]? = some e ∧ e.key = .int .u32 (x.1 : Int)) : es.toList.map keyOf = l.map (·.1) := by
 apply List.ext_getElem?
 intro i
 simp only [List.getElem?_map, Array.getElem?_toList]
 rcases Nat.lt_or_ge i l.length with hi | hi
 ·obtain ⟨e, h1, h2⟩ := h i l[i] (List.getElem?_eq_getElem hi)
  rw [h1, List.getElem?_eq_getElem hi]
  simp [keyOf_eq h2]
 ·rw [List.getElem?_eq_none hi, Array.getElem?_eq_none (by omega)]
  rfl
theorem key_enc {es : Array MapEntry} {l : List (Nat × List UInt8)} (hl : l.length = es.size) (h : ∀ (i : Nat) x, l[i]? = some x → ∃ e : MapEntry, es[i]? = some e ∧ e.key = .int .u32 (x.1 : Int)) {e : MapEntry} (he : e ∈ es.toList) : e.key = encU (keyOf e) := by
 obtain ⟨i, hi, rfl⟩ := List.mem_iff_getElem.1 he
 have hi' : i < es.size := by simpa using hi
 obtain ⟨e', h1, h2⟩ := h i (l[i]'(by omega)) (List.getElem?_eq_getElem (by omega))
 have h3 : es.toList[i] = e' := by
  rw [Array.getElem?_eq_getElem hi'] at h1
  simpa using h1
 rw [h3, keyOf_eq h2, h2]
 rfl
end Go.Km
namespace Go.Km
open Go Go.RowKit Go.ChangeMaps
attribute [local irreducible] vc rO_ runG runS runD
theorem perm_sorted_eq : ∀ (a b : List Nat), a.Perm b → a.Pairwise (· ≤ ·) → b.Pairwise (· < ·) → a = b
 | [], b, h, _, _ => (List.nil_perm.1 h).symm
 | x :: a, [], h, _, _ => by have := h.length_eq; simp at this
 | x :: a, y :: b, h, h1, h2 => by
  have h3 := List.pairwise_cons.1 h1
  have h4 := List.pairwise_cons.1 h2
  have hx : x ∈ y :: b := h.mem_iff.1 (by simp)
  have hy : y ∈ x :: a := h.mem_iff.2 (by simp)
  have e : x = y := by
   rcases List.mem_cons.1 hx with rfl | hx
   ·rfl
   ·rcases List.mem_cons.1 hy with rfl | hy
    ·rfl
    ·have := h4.1 x hx
     have := h3.1 y hy
     omega
  subst e
  rw [perm_sorted_eq a b h.cons_inv h3.2 h4.2]
theorem tag_unique {tags : List (Nat × List UInt8)} (h : tags.Pairwise (fun x y => x.1 < y.1)) {x y : Nat × List UInt8} (hx : x ∈ tags) (hy : y ∈ tags) (e : x.1 = y.1) : x = y := by
 induction tags with
 | nil => simp at hx
 | cons z l ih =>
  have h2 := List.pairwise_cons.1 h
  rcases List.mem_cons.1 hx with hx1 | hx1
  ·rcases List.mem_cons.1 hy with hy1 | hy1
   ·rw [hx1, hy1]
   ·have := h2.1 y hy1; rw [hx1] at e; omega
  ·rcases List.mem_cons.1 hy with hy1 | hy1
   ·have := h2.1 x hx1; rw [hy1] at e; omega
   ·exact ih h2.2 hx1 hy1
theorem tag_find {l tags : List (Nat × List UInt8)} (hp : l.Perm tags) (h : tags.Pairwise (fun x y => x.1 < y.1)) {x : Nat × List UInt8} (hx : x ∈ tags) : ∃ j, l.findIdx? (·.1 == x.1) = some j ∧ l[j]? = some x := by
 have hxl : x ∈ l := hp.mem_iff.2 hx
 cases hf : l.findIdx? (·.1 == x.1) with
 | none =>
  have := List.findIdx?_eq_none_iff.1 hf x hxl
  simp at this
 | some j =>
  obtain ⟨hj, hk, _⟩ := List.findIdx?_eq_some_iff_getElem.1 hf
  have hk : (l[j]).1 = x.1 := by simpa using hk
  refine ⟨j, rfl, ?_⟩
  rw [List.getElem?_eq_getElem hj, tag_unique h (hp.mem_iff.1 (List.getElem_mem hj)) hx hk]
def TagIn (P : Program) (E : Env) (w : World) (U : Nat) (v : Value) (tags : List (Nat × List UInt8)) : Prop :=
 TagsOk tags ∧ ((v = .map none ∧ tags = []) ∨ ∃ (q : Nat) (es : Array MapEntry) (clock : Nat) (l : List (Nat × List UInt8)), v = .map (some q) ∧ q < U ∧ w.heap[q]? = some (.map es clock) ∧ (∀ e ∈ es.toList, e.born < clock) ∧ (es.toList.map (·.born)).Nodup ∧ l.Perm tags ∧ l.length = es.size ∧
  ∀ (i : Nat) (x : Nat × List UInt8), l[i]? = some x → ∃ e : MapEntry, es[i]? = some e ∧ e.key = .int .u32 (x.1 : Int) ∧ (∃ ad cap, e.val = .slice ad x.2.length cap) ∧ ∀ w', Below U w w' → Src P 1 E.tB e.val x.2.length (x.2.map bv) w')
theorem flat_take {tags : List (Nat × List UInt8)} {i : Nat} (hi : i < tags.length) : ((tags.take i).map wrTag).flatten.length + (wrTag tags[i]).length ≤ (tags.map wrTag).flatten.length := by
 have e : tags = tags.take i ++ tags[i] :: tags.drop (i + 1) := by
  rw [List.getElem_cons_drop, List.take_append_drop]
 have := congrArg (fun t => (t.map wrTag).flatten.length) e
 simp only [List.map_append, List.map_cons, List.flatten_append, List.flatten_cons, List.length_append] at this
 omega
section
variable {P : Program} {E : Env}
set_option maxHeartbeats 4000000 in
theorem k_gAll (HT : TagT P E) (HS : SortE P E) (ht : Text P E.gAll 2 53 #[] (c_gAll E)) (ii : intT P E.tI = some .i64)
  (hg1 : ∀ {w : World} {U db k : Nat} {dv val : Value} {xs l : List UInt8}, DSt E U db w dv xs → k < 4294967296 → (∃ ad cap, val = .slice ad l.length cap) → (∀ w', Below U w w' → Src P 1 E.tB val l.length (l.map bv) w') → xs.length + (wrTag (k, l)).length ≤ big →
   CallsV P E.gEach1 #[.int .u32 (k : Int), val, .pointer (some ⟨db, 0, none⟩)] w fun _ w' => ∃ dv', DSt E U db w' dv' (xs ++ wrTag (k, l)) ∧ DKeep U db w dv w' dv')
  {w : World} {U b o db : Nat} {v dv : Value} {xs : List UInt8} {tags : List (Nat × List UInt8)} (hcv : w.cell? ⟨b, o, none⟩ = some v) (hbU : b < U) (htg : TagIn P E w U v tags) (hd : DSt E U db w dv xs) (hn32 : tags.length ≤ big) (hbg : xs.length + (tags.map wrTag).flatten.length ≤ big) :
  CallsV P E.gAll #[.pointer (some ⟨b, o, none⟩), .func (.func E.gEach1) #[] #[.pointer (some ⟨db, 0, none⟩)]] w fun _ w' => ∃ dv', DSt E U db w' dv' (xs ++ (tags.map wrTag).flatten) ∧ Below U w w' := by
 obtain ⟨hok, htg⟩ := htg
 have hbig : big ≤ 2147483000 := Nat.le_refl _
 have hdb : db < w.heap.size := lt_of_cell hd.cell
 have hUdb := hd.U
 have hlen : (v = .map none ∧ tags.length = 0) ∨ ∃ q es clock, v = .map (some q) ∧ w.heap[q]? = some (.map es clock) ∧ es.size = tags.length := by
  rcases htg with ⟨h1, rfl⟩ | ⟨q, es, clock, l, h1, _, h2, _, _, hp, hl, _⟩
  ·exact .inl ⟨h1, rfl⟩
  ·exact .inr ⟨q, es, clock, h1, h2, by rw [← hl]; exact hp.length_eq⟩
 refine CallsV.enter ht (by simp) ?_
 intro a hsz hdf harg
 have e0 := harg 0 (.pointer (some ⟨b, o, none⟩)) (by simp)
 have e1 := harg 1 (.func (.func E.gEach1) #[] #[.pointer (some ⟨db, 0, none⟩)]) (by simp)
 generalize hfv : Value.func (.func E.gEach1) #[] #[.pointer (some ⟨db, 0, none⟩)] = fv at *
 unfold c_gAll
 refine vS (vX (rM ?_))
 refine r_nil (ad := ⟨b, o, none⟩) (by simp (disch := (try simp only [sP]); omega) only [eV, e0]) ?_
 refine rF (b := b) (o := o) (by simp (disch := (try simp only [sP]); omega) only [eV]) HT.f0 ?_
 refine rL (b := b) (o := o + 0) (v := v) (by simp (disch := (try simp only [sP]); omega) only [eV]) HT.oMap hcv ?_
 refine r_lenMap (v := v) (n := tags.length) HT.map (by simp (disch := (try simp only [sP]); omega) only [eV]) hlen ?_
 refine r_eql (k := .i64) (m := ((tags.length : Nat) : Int)) (n := 0) (by simp (disch := (try simp only [sP]); omega) only [eV]) rfl ?_
 refine dn ?_
 refine vS (vC (t := (((tags.length : Nat) : Int) == 0)) (by simp (disch := (try simp only [sP]); omega) only [eV]) ?_ ?_)
 ·intro h
  have h0 : tags = [] := by
   have : tags.length = 0 := by simp only [beq_iff_eq] at h; omega
   exact List.eq_nil_of_length_eq_zero this
  subst h0
  refine vT ?_
  exact ⟨by simp only [dF]; exact hdf, .tuple #[], by simp [results], dv, by simpa using hd, Below.refl _ _⟩
 intro h
 have hne : 1 ≤ tags.length := by
  rcases Nat.eq_zero_or_pos tags.length with h0 | h0
  ·rw [h0] at h; simp at h
  ·exact h0
 refine vK (vN ?_)
 rcases htg with ⟨_, rfl⟩ | ⟨q, es, clock, l, rfl, hqU, hq, hborn, hnod, hperm, hll, hent⟩
 ·simp at hne
 have hkeys : ∀ (i : Nat) x, l[i]? = some x → ∃ e : MapEntry, es[i]? = some e ∧ e.key = .int .u32 (x.1 : Int) := fun i x hx => by obtain ⟨e, h1, h2, _⟩ := hent i x hx; exact ⟨e, h1, h2⟩
 have hqlt : q < w.heap.size := (Array.getElem?_eq_some_iff.1 hq).1
 have hblt : b < w.heap.size := lt_of_cell hcv
 -- the row of numbers
 refine vX (rM ?_)
 refine r_nil (ad := ⟨b, o, none⟩) (by simp (disch := (try simp only [sP]); omega) only [eV, e0]) ?_
 refine rF (b := b) (o := o) (by simp (disch := (try simp only [sP]); omega) only [eV]) HT.f0 ?_
 refine rL (b := b) (o := o + 0) (v := .map (some q)) (by simp (disch := (try simp only [sP]); omega) only [eV]) HT.oMap hcv ?_
 refine r_lenMap (v := .map (some q)) (n := tags.length) HT.map (by simp (disch := (try simp only [sP]); omega) only [eV]) hlen ?_
 refine r_makeSlice (n := tags.length) HS.row rfl (by simp (disch := (try simp only [sP]); omega) only [eV]) hn32 ?_
 intro w1 hown1 hb1 hz1
 refine r_alloc HS.zU32s ?_
 have hf1 : Free (w1.alloc (.cells (Value.slice none 0 0).cells E.tU32s)) w1.heap.size 0 := free_new w1 _ _ (by simp [Value.cells])
 refine r_store (b := w1.heap.size) (o := 0) (v := .slice (some ⟨w.heap.size, 0, none⟩) 0 tags.length) (by simp (disch := (try simp only [sP]); omega) only [eV]) (by simp (disch := (try simp only [sP]); omega) only [eV]) rfl HS.oU32s hf1 ?_
 refine dn ?_
 have hb2 : Below w.heap.size w ((w1.alloc (.cells (Value.slice none 0 0).cells E.tU32s)).setCell ⟨w1.heap.size, 0, none⟩ (.slice (some ⟨w.heap.size, 0, none⟩) 0 tags.length)) :=
  (hb1.alloc (o := .cells _ _) (by omega)).setCell (p := ⟨w1.heap.size, 0, none⟩) (by show w.heap.size ≤ w1.heap.size; omega) _
 have hc2 : ((w1.alloc (.cells (Value.slice none 0 0).cells E.tU32s)).setCell ⟨w1.heap.size, 0, none⟩ (.slice (some ⟨w.heap.size, 0, none⟩) 0 tags.length)).cell? ⟨w1.heap.size, 0, none⟩ = some (.slice (some ⟨w.heap.size, 0, none⟩) 0 tags.length) := cell_setCell_same _ hf1.1
 have hf2 : Free ((w1.alloc (.cells (Value.slice none 0 0).cells E.tU32s)).setCell ⟨w1.heap.size, 0, none⟩ (.slice (some ⟨w.heap.size, 0, none⟩) 0 tags.length)) w1.heap.size 0 := hf1.eff ((Eff.refl (fun k _ => k = w1.heap.size) _).setCell _ _ _ (fun _ => rfl))
 have hown2 : ((w1.alloc (.cells (Value.slice none 0 0).cells E.tU32s)).setCell ⟨w1.heap.size, 0, none⟩ (.slice (some ⟨w.heap.size, 0, none⟩) 0 tags.length)).ownsRow w.heap.size E.tW 1 (.slice (some ⟨w.heap.size, 0, none⟩) 0 tags.length) 0 [] := by
  refine own_heapG (hown1.alloc _) (fun g hg => Below.heap_setCell _ _ _ _ ?_)
  simp only [Value.ownBlock, Option.some.injEq] at hg
  show g ≠ w1.heap.size
  omega
 have hz2 : ((w1.alloc (.cells (Value.slice none 0 0).cells E.tU32s)).setCell ⟨w1.heap.size, 0, none⟩ (.slice (some ⟨w.heap.size, 0, none⟩) 0 tags.length)).heap.size = w.heap.size + 2 := by simp; omega
 generalize (w1.alloc (.cells (Value.slice none 0 0).cells E.tU32s)).setCell ⟨w1.heap.size, 0, none⟩ (.slice (some ⟨w.heap.size, 0, none⟩) 0 tags.length) = w2 at *
 generalize ha1 : Act.put _ (some 4) _ = a1
 have hfr1 : Fr (fun k => k < 2) a a1 := by
  subst ha1
  exact ((((((((((((((Fr.refl _ a).put _ (by omega)).put _ (by omega)).put _ (by omega)).put _ (by omega)).put _ (by omega)).put _ (by omega)).put _ (by omega)).put _ (by omega)).put _ (by omega)).put _ (by omega)).put _ (by omega)).put _ (by omega)).put _ (by omega))
 have h14 : a1.eval (.tmp 4) = .pointer (some ⟨w1.heap.size, 0, none⟩) := by subst ha1; simp (disch := (try simp only [sP]); omega) only [eV]
 have hs1 := hfr1.size
 clear ha1
 generalize hob : w1.heap.size = ob at *
 have hoB : ob = w.heap.size + 1 := by omega
 -- the range
 refine vS (vX (rM ?_))
 refine r_nil (ad := ⟨b, o, none⟩) (by simp (disch := (try simp only [sP]); omega) only [eV, hfr1.slot 0 (by omega), e0]) ?_
 refine rF (b := b) (o := o) (by simp (disch := (try simp only [sP]); omega) only [eV]) HT.f0 ?_
 refine rL (b := b) (o := o + 0) (v := .map (some q)) (by simp (disch := (try simp only [sP]); omega) only [eV]) HT.oMap (by rw [hb2.cell (p := ⟨b, o + 0, none⟩) hblt]; exact hcv) ?_
 refine r_range (q := q) (es := es) (clock := clock) HT.map (by simp (disch := (try simp only [sP]); omega) only [eV]) (by rw [hb2.block q hqlt]; exact hq) ?_
 refine dn ?_
 have hb3 : Below w.heap.size w (w2.alloc (.mapIter (some q) clock #[] clock)) := hb2.alloc (o := .mapIter _ _ _ _) (by omega)
 have hr3 : (w2.alloc (.mapIter (some q) clock #[] clock)).heap[w2.heap.size]? = some (.mapIter (some q) clock #[] clock) := heap_alloc_new w2 _
 have hh3 : ∀ k, k < w2.heap.size → (w2.alloc (.mapIter (some q) clock #[] clock)).heap[k]? = w2.heap[k]? := fun k hk => Below.heap_alloc w2 _ k hk
 generalize w2.alloc (.mapIter (some q) clock #[] clock) = w3 at *
 generalize hrr : w2.heap.size = rr at *
 generalize ha2 : Act.put _ (some 24) _ = a2
 have hfr2 : Fr (fun k => k < 5) a1 a2 := by
  subst ha2
  exact (((((Fr.refl _ a1).put _ (by omega)).put _ (by omega)).put _ (by omega)).put _ (by omega)).put _ (by omega)
 have h24 : a2.eval (.tmp 24) = .pointer (some ⟨rr, 0, none⟩) := by subst ha2; simp (disch := (try simp only [sP]); omega) only [eV]
 have hs2 := hfr2.size
 clear ha2
 refine vS (vc_block (vc_loop (fun A W => ∃ (seen : Array Nat) (ks : List Nat) (sv : Value), A.tmps.size = 53 ∧ A.defers = [] ∧ A.eval (.tmp 0) = .pointer (some ⟨b, o, none⟩) ∧ A.eval (.tmp 1) = fv ∧ A.eval (.tmp 4) = .pointer (some ⟨ob, 0, none⟩) ∧ A.eval (.tmp 24) = .pointer (some ⟨rr, 0, none⟩) ∧
   Below w.heap.size w W ∧ rr < W.heap.size ∧ W.heap[rr]? = some (.mapIter (some q) clock seen clock) ∧ W.cell? ⟨ob, 0, none⟩ = some sv ∧ Free W ob 0 ∧ W.ownsRow w.heap.size E.tW 1 sv ks.length (ks.map encU) ∧ sv.ownBlock ≠ some ob ∧ sv.ownBlock ≠ some rr ∧ (ks ++ (leftOf es seen).toList.map keyOf).Perm (l.map (·.1)))
  (fun _ W => match W.heap[rr]? with | some (.mapIter _ _ seen _) => (leftOf es seen).size | _ => 0) ?_ ?_))
 ·refine ⟨#[], [], .slice (some ⟨w.heap.size, 0, none⟩) 0 tags.length, by rw [hs2, hs1, hsz], by rw [hfr2.defers, hfr1.defers, hdf], by rw [hfr2.slot 0 (by omega), hfr1.slot 0 (by omega)]; exact e0, by rw [hfr2.slot 1 (by omega), hfr1.slot 1 (by omega)]; exact e1, by rw [hfr2.slot 4 (by omega)]; exact h14, h24, hb3, (Array.getElem?_eq_some_iff.1 hr3).1, hr3, by rw [cell_at (hh3 ob (by omega))]; exact hc2, free_at (hh3 ob (by omega)) hf2, own_heapG hown2 (fun g hg => ?_), ?_, ?_, ?_⟩
  ·simp only [Value.ownBlock, Option.some.injEq] at hg
   exact hh3 g (by omega)
  ·simp only [Value.ownBlock, ne_eq, Option.some.injEq]; omega
  ·simp only [Value.ownBlock, ne_eq, Option.some.injEq]; omega
  ·have e : (leftOf es #[]).toList = es.toList := by unfold leftOf; simp
   rw [List.nil_append, e, keys_eq hll hkeys]
 ·rintro A W ⟨seen, ks, sv, hsA, hdA, g0, g1, g4, g24, hbW, hrW, hit, hcs, hfs, hown, hne1, hne2, hpm⟩
  have hqW : W.heap[q]? = some (.map es clock) := by rw [hbW.block q hqlt]; exact hq
  refine vX ?_
  refine r_next (rr := rr) (q := q) (es := es) (clock := clock) (seen := seen) g24 hit hqW hborn ?_ ?_
  ·intro hz
   refine r_extract (vs := #[.bool false]) (v := .bool false) (by simp (disch := (try simp only [sP]); omega) only [eV]) rfl ?_
   refine dn ?_
   refine vS (vC (t := false) (by simp (disch := (try simp only [sP]); omega) only [eV]) (fun h => by cases h) ?_)
   intro _
   refine vc_exit ?_
   simp only [Exit.then, Exit.inBlock, if_true]
   refine vN ?_
   have hks : ks.Perm (l.map (·.1)) := by
    have e : (leftOf es seen).toList = [] := by
     have : (leftOf es seen) = #[] := Array.eq_empty_of_size_eq_zero hz
     rw [this]
    rw [e] at hpm
    simpa using hpm
   have hkn : ks.length = tags.length := by rw [hks.length_eq, List.length_map, hperm.length_eq]
   -- the sort
   refine vX ?_
   refine rL (b := ob) (o := 0) (v := sv) (by simp (disch := (try simp only [sP]); omega) only [eV, g4]) HS.oU32s hcs ?_
   refine r_makeIface (rowB_inv HS.row).1 ?_
   refine r_makeFunc ?_
   refine r_call' (args := #[.iface E.tU32s sv, .func (.func E.gAll1) #[] #[.pointer (some ⟨ob, 0, none⟩)]]) ?_ (k_sort HS (ob := ob) (n := ks.length) (ks := ks) hown rfl (by omega) (by omega) hcs (fun x c e => fun e2 => hne1 (by rw [e, ← e2]; rfl))) ?_
   ·simp only [lM]
    simp (disch := (try simp only [sP]); omega) only [eV, g4]
   rintro _ w5 ⟨blk, cap, ks', rfl, hUb, hblk, hp', hso, hcel, hE5⟩
   have hks' : ks' = tags.map (·.1) := perm_sorted_eq _ _ ((hp'.trans hks).trans (hperm.map _)) hso (List.pairwise_map.2 hok.1)
   refine dn ?_
   have hz5 := hE5.size
   have hobk : ob ≠ blk := fun e => hne1 (by rw [e]; rfl)
   have hc5 : w5.cell? ⟨ob, 0, none⟩ = some (.slice (some ⟨blk, 0, none⟩) ks.length cap) := hE5.cellSome hcs hobk
   have hb5 : Below w.heap.size w w5 := hbW.trans (hE5.below hbW.size (by rintro k i hk rfl; omega))
   refine vX ?_
   refine rL (b := ob) (o := 0) (v := .slice (some ⟨blk, 0, none⟩) ks.length cap) (by simp (disch := (try simp only [sP]); omega) only [eV, g4]) HS.oU32s hc5 ?_
   refine r_len (ad := some ⟨blk, 0, none⟩) (n := ks.length) (c := cap) (rB HS.row) (by simp (disch := (try simp only [sP]); omega) only [eV]) ?_
   refine rM (dn ?_)
   generalize hA5 : Act.put _ (some 39) _ = A5
   have hfr5 : Fr (fun k => k < 25) A A5 := by
    subst hA5
    exact ((((((((((Fr.refl _ A).put _ (by omega)).put _ (by omega)).put _ (by omega)).put _ (by omega)).put _ (by omega)).put _ (by omega)).put _ (by omega)).put _ (by omega)).put _ (by omega))
   have h37 : A5.eval (.tmp 37) = .slice (some ⟨blk, 0, none⟩) ks.length cap := by subst hA5; simp (disch := (try simp only [sP]); omega) only [eV]
   have h38 : A5.eval (.tmp 38) = .int .i64 (ks.length : Nat) := by subst hA5; simp (disch := (try simp only [sP]); omega) only [eV]
   have h39 : A5.eval (.tmp 39) = .int .i64 ((0 : Nat) : Int) := by subst hA5; simp (disch := (try simp only [sP]); omega) only [eV]; rfl
   have hs5 := hfr5.size
   clear hA5
   have hd5 : DSt E U db w5 dv xs := ⟨by rw [hb5.cell (p := ⟨db, 0, none⟩) hdb]; exact hd.cell, free_at (hb5.block db hdb) hd.free, own_heapG hd.own (fun g hg => hb5.block g (own_lt hd.own g hg).2), hd.ne, hd.U⟩
   have hUw : U ≤ w.heap.size := by omega
   refine vS (vc_block (vc_loop (fun A W => ∃ (i : Nat) (dvi : Value), i ≤ ks.length ∧ A.tmps.size = 53 ∧ A.defers = [] ∧ A.eval (.tmp 0) = .pointer (some ⟨b, o, none⟩) ∧ A.eval (.tmp 1) = fv ∧ A.eval (.tmp 37) = .slice (some ⟨blk, 0, none⟩) ks.length cap ∧ A.eval (.tmp 38) = .int .i64 (ks.length : Nat) ∧ A.eval (.tmp 39) = .int .i64 (i : Int) ∧
     DSt E U db W dvi (xs ++ ((tags.take i).map wrTag).flatten) ∧ Below U w W ∧ Cells W blk 0 (ks'.map encU) ∧ w5.heap.size ≤ W.heap.size ∧ (∀ g, dvi.ownBlock = some g → dv.ownBlock = some g ∨ w5.heap.size ≤ g))
    (fun A _ => ks.length - (intOf (A.eval (.tmp 39))).toNat) ?_ ?_))
   ·refine ⟨0, dv, Nat.zero_le _, by rw [hs5]; exact hsA, by rw [hfr5.defers]; exact hdA, by rw [hfr5.slot 0 (by omega)]; exact g0, by rw [hfr5.slot 1 (by omega)]; exact g1, h37, h38, h39, by simpa using hd5, hb5.mono hUw, hcel, Nat.le_refl _, fun g hg => .inl hg⟩
   ·rintro A6 W6 ⟨i, dvi, hi, hsA6, hdA6, k0, k1, k37, k38, k39, hdst, hbW6, hcel6, hz6, hrow6⟩
    refine vX ?_
    refine r_lss (k := .i64) (m := (i : Int)) (n := (ks.length : Int)) k39 k38 ?_
    refine dn ?_
    refine vS (vC (t := decide ((i : Int) < (ks.length : Int))) (by simp (disch := (try simp only [sP]); omega) only [eV]) ?_ ?_)
    ·intro hlt
     have hlt' : i < ks.length := by simpa using hlt
     have hit' : i < tags.length := by omega
     refine vK ?_
     have hki : (ks'.map encU)[i]? = some (encU (tags[i]).1) := by
      rw [hks', List.map_map, List.getElem?_map, List.getElem?_eq_getElem hit']
      rfl
     refine vS (vc_block (vX ?_))
     refine r_index (b := blk) (o := 0) (len := ks.length) (cap := cap) (k := .i64) (j := i) (rB HS.row) (by simp (disch := (try simp only [sP]); omega) only [eV, k37]) (by simp (disch := (try simp only [sP]); omega) only [eV, k39]) hlt' ?_
     refine rL (b := blk) (o := 0 + i * 1) (v := encU (tags[i]).1) (by simp (disch := (try simp only [sP]); omega) only [eV]) HS.oU32 (by rw [Nat.mul_one]; exact hcel6 i _ hki) ?_
     refine rA (dn ?_)
     obtain ⟨j, hfj, hlj⟩ := tag_find hperm hok.1 (List.getElem_mem hit')
     obtain ⟨e, hej, hek, hev, hsrc⟩ := hent j _ hlj
     refine vX (rM (rM (rM ?_)))
     refine r_nil (ad := ⟨b, o, none⟩) (by simp (disch := (try simp only [sP]); omega) only [eV, k0]) ?_
     refine rF (b := b) (o := o) (by simp (disch := (try simp only [sP]); omega) only [eV]) HT.f0 ?_
     refine rL (b := b) (o := o + 0) (v := .map (some q)) (by simp (disch := (try simp only [sP]); omega) only [eV]) HT.oMap (by rw [hbW6.cell (p := ⟨b, o + 0, none⟩) hbU]; exact hcv) ?_
     refine rM ?_
     refine r_lookup (q := q) (es := es) (clock := clock) (k := (tags[i]).1) (j := j) (e := e) (l := l) HT.map HT.u32 (by simp (disch := (try simp only [sP]); omega) only [eV]) (by (try simp (disch := (try simp only [sP]); omega) only [eV]) <;> (first | rfl | assumption)) (by rw [hbW6.block q hqU]; exact hq) hll hkeys hfj hej ?_
     have hlenb : (xs ++ ((tags.take i).map wrTag).flatten).length + (wrTag ((tags[i]).1, (tags[i]).2)).length ≤ big := by
      have := flat_take hit'
      rw [List.length_append]
      show _ + (wrTag tags[i]).length ≤ big
      omega
     refine r_callF (f := E.gEach1) (pre := #[]) (post := #[.pointer (some ⟨db, 0, none⟩)]) (args := #[.int .u32 ((tags[i]).1 : Int), e.val, .pointer (some ⟨db, 0, none⟩)]) (by rw [hfv]; exact (by simp (disch := (try simp only [sP]); omega) only [eV, k1])) ?_
      (hg1 (k := (tags[i]).1) (l := (tags[i]).2) hdst (hok.2 _ (List.getElem_mem hit')) hev (fun w' hb' => hsrc w' (hbW6.trans hb')) hlenb) ?_
     ·simp only [lM]
      simp (disch := (try simp only [sP]); omega) only [eV]
      rfl
     rintro _ W7 ⟨dv7, hd7, hkp7⟩
     refine dn (vN ?_)
     have hz7 := hkp7.below.size
     have hcel7 : Cells W7 blk 0 (ks'.map encU) := by
      have hblk6 : blk < W6.heap.size := by omega
      have := hkp7.same blk hblk6 (by omega) (fun e => by
       rcases hrow6 blk e with h1 | h1
       ·have := (own_lt hd.own blk h1).2; omega
       ·omega)
      intro x u hu
      rw [cell_at this]
      exact hcel6 x u hu
     refine vX ?_
     refine r_add (k := .i64) (m := (i : Int)) (n := 1) (by simp (disch := (try simp only [sP]); omega) only [eV, k39]) rfl ?_
     rw [wrap_i64 (by omega) (by omega)]
     refine rM (dn (vN ?_))
     generalize hA7 : Act.put _ (some 39) _ = A7
     have hfr7 : Fr (fun k => k < 7 ∨ k = 37 ∨ k = 38) A6 A7 := by
      subst hA7
      exact (((((((((((((((Fr.refl _ A6).put _ (by omega)).put _ (by omega)).put _ (by omega)).put _ (by omega)).put _ (by omega)).put _ (by omega)).put _ (by omega)).put _ (by omega)).put _ (by omega)).put _ (by omega)).put _ (by omega)).put _ (by omega)).put _ (by omega)).put _ (by omega)).put _ (by omega)
     have h397 : A7.eval (.tmp 39) = .int .i64 ((i + 1 : Nat) : Int) := by subst hA7; simp (disch := (try simp only [sP]); omega) only [eV]; rfl
     clear hA7
     refine ⟨⟨i + 1, dv7, hlt', by rw [hfr7.size]; exact hsA6, by rw [hfr7.defers]; exact hdA6, by rw [hfr7.slot 0 (by omega)]; exact k0, by rw [hfr7.slot 1 (by omega)]; exact k1, by rw [hfr7.slot 37 (by omega)]; exact k37, by rw [hfr7.slot 38 (by omega)]; exact k38, h397, ?_, hbW6.trans hkp7.below, hcel7, by omega, fun g hg => ?_⟩, ?_⟩
     ·have e2 : xs ++ ((tags.take (i + 1)).map wrTag).flatten = xs ++ ((tags.take i).map wrTag).flatten ++ wrTag ((tags[i]).1, (tags[i]).2) := by
       rw [List.take_succ_eq_append_getElem hit', List.map_append, List.flatten_append, List.append_assoc]
       simp
      rw [e2]
      exact hd7
     ·rcases hkp7.row g hg with h1 | h1
      ·exact hrow6 g h1
      ·exact .inr (by omega)
     ·show ks.length - (intOf _).toNat < ks.length - (intOf _).toNat
      rw [h397, k39]
      simp only [intOf, Int.toNat_natCast]
      omega
    ·intro hge
     have hin : i = ks.length := by
      have : ¬ ((i : Int) < (ks.length : Int)) := by simpa using hge
      omega
     refine vc_exit ?_
     simp only [Exit.then, Exit.inBlock, if_true]
     refine vN ?_
     have e3 : tags.take i = tags := by rw [hin, hkn]; exact List.take_length
     rw [e3] at hdst
     exact ⟨by simp only [dF]; exact hdA6, .tuple #[], by simp [results], dvi, hdst, hbW6⟩
  ·intro e he w1' hw1'
   have hheap : w1'.heap = W.heap := by rcases hw1' with rfl | rfl <;> rfl
   have hees : e ∈ es.toList := by
    unfold leftOf at he
    rw [Array.toList_filter] at he
    exact (List.mem_filter.1 he).1
   have hbs : Below w.heap.size w (setBlock w1' rr (.mapIter (some q) clock (seen.push e.born) clock)) := by
    have h1 : Below w.heap.size w w1' := by rcases hw1' with rfl | rfl; exact hbW; exact ⟨hbW.os, hbW.tape, hbW.output, hbW.size, hbW.block⟩
    exact h1.trans (setBlock_below _ (by omega))
   have hrb : (setBlock w1' rr (.mapIter (some q) clock (seen.push e.born) clock)).heap[rr]? = some (.mapIter (some q) clock (seen.push e.born) clock) := by
    simp only [setBlock]
    rw [Array.getElem?_setIfInBounds_self_of_lt (by rw [hheap]; exact hrW)]
   have hkb : ∀ k, k ≠ rr → (setBlock w1' rr (.mapIter (some q) clock (seen.push e.born) clock)).heap[k]? = W.heap[k]? := fun k hk => by rw [setBlock_at _ hk, hheap]
   have hzb : (setBlock w1' rr (.mapIter (some q) clock (seen.push e.born) clock)).heap.size = W.heap.size := by rw [setBlock_size, hheap]
   generalize setBlock w1' rr (.mapIter (some q) clock (seen.push e.born) clock) = W2 at *
   have hobr : ob ≠ rr := by omega
   have hcs2 : W2.cell? ⟨ob, 0, none⟩ = some sv := by rw [cell_at (hkb ob hobr)]; exact hcs
   have hfs2 : Free W2 ob 0 := free_at (hkb ob hobr) hfs
   have hown2' : W2.ownsRow w.heap.size E.tW 1 sv ks.length (ks.map encU) := own_heapG hown (fun g hg => hkb g (fun e => hne2 (by rw [hg, e])))
   have hke := key_enc hll hkeys hees
   refine r_extract (vs := #[.bool true, e.key, e.val]) (v := .bool true) (by simp (disch := (try simp only [sP]); omega) only [eV]) rfl ?_
   refine dn ?_
   refine vS (vC (t := true) (by simp (disch := (try simp only [sP]); omega) only [eV]) ?_ (fun h => by cases h))
   intro _
   refine vK ?_
   refine vS (vc_block (vX ?_))
   refine r_entry (rr := rr) (q := q) (since := clock) (seen := seen) (es := es) (clock := clock) (e := e) (by simp (disch := (try simp only [sP]); omega) only [eV, g24]) hrb (by rw [hbs.block q hqlt]; exact hq) hees hnod ?_
   refine r_extract (vs := #[e.key, e.val]) (v := e.key) (by simp (disch := (try simp only [sP]); omega) only [eV]) rfl ?_
   refine rA (dn (vX ?_))
   refine rL (b := ob) (o := 0) (v := sv) (by simp (disch := (try simp only [sP]); omega) only [eV, g4]) HS.oU32s hcs2 ?_
   refine rM ?_
   refine r_buildSlice (s := 1) (vs := [encU (keyOf e)]) HS.row ?_ rfl (by intro v hv; simp only [List.mem_cons, List.not_mem_nil, or_false] at hv; subst hv; rfl) (by omega) (by omega) ?_
   ·simp only [lM]
    simp (disch := (try simp only [sP]); omega) only [eV]
    rw [hke]
    rfl
   have hcsl : [encU (keyOf e)].flatMap (fun v => v.cells.toList) = [encU (keyOf e)] := rfl
   rw [hcsl]
   have hkslen : ks.length ≤ tags.length := by
    have h1 := hpm.length_eq
    rw [List.length_append, List.length_map, List.length_map, hperm.length_eq] at h1
    omega
   have hkslt : ks.length < tags.length := by
    have h1 := hpm.length_eq
    rw [List.length_append, List.length_map, List.length_map, hperm.length_eq] at h1
    have h2 : 0 < (leftOf es seen).toList.length := List.length_pos_of_mem he
    omega
   refine r_appendK (U := w.heap.size) (v := sv) (n := ks.length) (xs := ks.map encU) (u := .slice (some ⟨W2.heap.size, 0, none⟩) 1 1) (m := 1) (news := [encU (keyOf e)]) HS.row (by simp (disch := (try simp only [sP]); omega) only [eV]) (by simp (disch := (try simp only [sP]); omega) only [eV]) (hown2'.alloc _) (by simp; have := hbs.size; omega) ?_ (by omega) ?_
   ·refine src_cells (rB HS.row) ?_ rfl (by intro u hu; simp only [List.mem_cons, List.not_mem_nil, or_false] at hu; subst hu; rfl)
    intro j u hu
    rw [Nat.zero_add]
    exact cells_new W2 _ _ (by simpa using hu)
   intro sv' W3 hown3 hb3' hkp3
   have hz3 := hb3'.size
   have hza : (W2.alloc (.cells [encU (keyOf e)].toArray E.tW)).heap.size = W2.heap.size + 1 := by simp
   have hk3 : ∀ k, k < W2.heap.size → sv.ownBlock ≠ some k → W3.heap[k]? = W2.heap[k]? := fun k hk hn => by
    rw [hkp3.1 k (by omega) hn]
    exact Below.heap_alloc W2 _ k hk
   have hob2 : ob < W2.heap.size := lt_of_cell hcs2
   have hf3 : Free W3 ob 0 := free_at (hk3 ob hob2 hne1) hfs2
   have hsv' : sv'.ownBlock ≠ some ob ∧ sv'.ownBlock ≠ some rr := by
    constructor
    ·intro e9
     rcases hkp3.2 ob e9 with h1 | h1
     ·exact hne1 h1
     ·omega
    ·intro e9
     rcases hkp3.2 rr e9 with h1 | h1
     ·exact hne2 h1
     ·omega
   refine r_store (b := ob) (o := 0) (v := sv') (by simp (disch := (try simp only [sP]); omega) only [eV, g4]) (by simp (disch := (try simp only [sP]); omega) only [eV]) (own_one hown3).1 HS.oU32s hf3 ?_
   refine dn (vN (vN ?_))
   generalize hA3 : Act.put _ (some 32) _ = A3
   have hfr3 : Fr (fun k => k < 5 ∨ k = 24) A A3 := by
    subst hA3
    exact ((((((((Fr.refl _ A).put _ (by omega)).put _ (by omega)).put _ (by omega)).put _ (by omega)).put _ (by omega)).put _ (by omega)).put _ (by omega)).put _ (by omega) |>.put _ (by omega)
   clear hA3
   have hrr3 : (W3.setCell ⟨ob, 0, none⟩ sv').heap[rr]? = some (.mapIter (some q) clock (seen.push e.born) clock) := by
    rw [Below.heap_setCell _ _ _ _ (by show rr ≠ ob; omega), hk3 rr (by omega) hne2]
    exact hrb
   have hbW3 : Below w.heap.size w (W3.setCell ⟨ob, 0, none⟩ sv') := by
    have h1 : Below w.heap.size w W3 := (hbs.alloc (o := .cells _ _) hbs.size).trans hb3'
    exact h1.setCell (p := ⟨ob, 0, none⟩) (by show w.heap.size ≤ ob; omega) _
   have hpm3 : ((ks ++ [keyOf e]) ++ (leftOf es (seen.push e.born)).toList.map keyOf).Perm (l.map (·.1)) := by
    refine List.Perm.trans ?_ hpm
    rw [List.append_assoc]
    refine List.Perm.append_left ks ?_
    have := ((left_step hnod he).map keyOf).symm
    simpa using this
   refine ⟨⟨seen.push e.born, ks ++ [keyOf e], sv', by rw [hfr3.size]; exact hsA, by rw [hfr3.defers]; exact hdA, by rw [hfr3.slot 0 (by omega)]; exact g0, by rw [hfr3.slot 1 (by omega)]; exact g1, by rw [hfr3.slot 4 (by omega)]; exact g4, by rw [hfr3.slot 24 (by omega)]; exact g24, hbW3, by simp; omega, hrr3, cell_setCell_same _ hf3.1, hf3.eff ((Eff.refl (fun k _ => k = ob) _).setCell _ _ _ (fun _ => rfl)), ?_, hsv'.1, hsv'.2, hpm3⟩, ?_⟩
   ·have : W3.ownsRow w.heap.size E.tW 1 sv' (ks ++ [keyOf e]).length ((ks ++ [keyOf e]).map encU) := by simpa using hown3
    exact own_heapG this (fun g hg => Below.heap_setCell _ _ _ _ (fun e9 => hsv'.1 (by rw [hg, e9])))
   ·simp only [hrr3, hit]
    have h1 := (left_step hnod he).length_eq
    simp only [Array.length_toList, List.length_cons] at h1
    omega
end
end Go.Km
namespace Go.Km
open Go Go.RowKit Go.ChangeMaps
attribute [local irreducible] vc rO_ runG runS runD
theorem TagsRep.tagIn {P : Program} {E : Env} {W0 w : World} {sb : Sb} {v : Value} {tags : List (Nat × List UInt8)} (HB : sliceT P E.tB = some (E.tU8, 1)) (h : TagsRep W0 sb 0 v tags) (hw : Below W0.heap.size W0 w) : TagIn P E w W0.heap.size v tags := by
 obtain ⟨h1, _, h2⟩ := h
 refine ⟨h1, ?_⟩
 rcases h2 with h2 | ⟨q, es, clock, hv, _, hq, hm, hb, hn, l, hp, hl, hx⟩
 ·exact .inl h2
 ·refine .inr ⟨q, es, clock, l, hv, hq, by rw [hw.block q hq]; exact hm, hb, hn, hp, hl, fun i x hi => ?_⟩
  obtain ⟨e, e1, e2, e3⟩ := hx i x hi
  refine ⟨e, e1, e2, ?_, ?_⟩
  ·rcases e3 with ⟨e3, e4⟩ | ⟨c, o, cap, e3, _⟩
   ·exact ⟨none, 0, by rw [e3, e4]; rfl⟩
   ·exact ⟨_, cap, e3⟩
  ·intro w' hw'
   rcases e3 with ⟨e3, e4⟩ | ⟨c, o, cap, e3, _, hc, hcs⟩
   ·rw [e3, e4]; exact src_nil HB
   ·rw [e3]
    refine src_cells HB ?_ (by simp) (bv_one _)
    intro j u hu
    rw [cell_at ((hw.trans hw').block c hc)]
    exact hcs j u hu
section
variable {P : Program} {E : Env}
theorem k_teach (HT : TagT P E) (HS : SortE P E) (ht : Text P E.tEach 2 9 #[.tmp 4] (c_tEach E)) (hta : Text P E.gAll 2 53 #[] (c_gAll E)) (ht1 : Text P E.gEach1 2 16 #[] (c_gEach1 E)) (huv : ∀ (n : Nat) U w, n < 4294967296 → Wr1K P E E.wUvarint U [.int .u32 n] (Go.Km.uvar n) w)
  (row : rowB P E.tB E.tU8 1 = true) (hob : oneT P E.tB = true) (ii : intT P E.tI = some .i64)
  {W0 w : World} {sb : Sb} {b o : Nat} {v : Value} {tags : List (Nat × List UInt8)} (hc : W0.cell? ⟨b, o, none⟩ = some v) (hr : TagsRep W0 sb 0 v tags) (hw : Below W0.heap.size W0 w)
  {dv : Value} {xs : List UInt8} (hown : w.ownsRow W0.heap.size E.tU8 1 dv xs.length (xs.map bv)) (hbg : xs.length + (tags.map wrTag).flatten.length ≤ big) :
  CallsV P E.tEach #[.pointer (some ⟨b, o, none⟩), dv] w fun v' w' => w'.ownsRow W0.heap.size E.tU8 1 v' (xs ++ (tags.map wrTag).flatten).length ((xs ++ (tags.map wrTag).flatten).map bv) ∧ Below W0.heap.size w w' := by
 refine CallsV.enter ht (by simp) ?_
 intro a hsz hdf harg
 have e0 := harg 0 (.pointer (some ⟨b, o, none⟩)) (by simp)
 have e1 := harg 1 dv (by simp)
 have hdc : dv.cells = #[dv] := (own_one hown).2
 have hz := hw.size
 have hbl : Below W0.heap.size w (w.alloc (.cells dv.cells E.tB)) := (Below.refl _ w).alloc (o := .cells _ _) hw.size
 have hw1 : Below W0.heap.size W0 (w.alloc (.cells dv.cells E.tB)) := hw.trans hbl
 have hcw : (w.alloc (.cells dv.cells E.tB)).cell? ⟨b, o, none⟩ = some v := by rw [hw1.cell (p := ⟨b, o, none⟩) (lt_of_cell hc)]; exact hc
 have hn := tags_short tags
 have hd : DSt E W0.heap.size w.heap.size (w.alloc (.cells dv.cells E.tB)) dv xs := by
  refine ⟨cells_new w _ _ (by rw [hdc]; rfl), free_new w _ _ (by rw [hdc]; simp), hown.alloc _, fun e => ?_, hz⟩
  have := (own_lt hown _ e).2
  omega
 unfold c_tEach
 refine vX ?_
 refine r_box (v := dv) (by simp (disch := (try simp only [sP]); omega) only [eV, e1]) ?_
 refine rA (dn (vX (rM ?_)))
 refine r_makeFunc ?_
 refine r_call' (args := #[.pointer (some ⟨b, o, none⟩), .func (.func E.gEach1) #[] #[.pointer (some ⟨w.heap.size, 0, none⟩)]]) ?_
  (k_gAll HT HS hta ii (fun hd hk hv hs hb => k_gEach1 ht1 huv row hob HS.iu ii hd hk hv hs hb) hcw (lt_of_cell hc) (hr.tagIn (rB row) hw1) hd (by omega) hbg) ?_
 ·simp only [lM]
  simp (disch := (try simp only [sP]); omega) only [eV, e0]
 rintro v' w' ⟨dv', hd', hb'⟩
 refine dn (vX ?_)
 refine rL (b := w.heap.size) (o := 0) (v := dv') (by simp (disch := (try simp only [sP]); omega) only [eV]) hob hd'.cell ?_
 refine rA (dn (vS (vT ?_)))
 exact ⟨by simp only [dF]; exact hdf, dv', rO (by simp (disch := (try simp only [sP]); omega) only [eV]), hd'.own, hbl.trans hb'⟩
structure TTexts (P : Program) (E : Env) : Prop where
 tagT : TagT P E
 sortE : SortE P E
 gEach1 : Text P E.gEach1 2 16 #[] (c_gEach1 E)
 uv : E.wUvarint ≠ 0
theorem envWT (HT : KTexts P E) (hB : kB P E = true) (HG : TTexts P E) : EnvW P E (fun _ => True) := by
 have H0 := envW0 HT hB
 have hB' := hB
 simp only [kB, Bool.and_eq_true, beq_iff_eq, bne_iff_ne, ne_eq] at hB'
 obtain ⟨⟨⟨⟨⟨⟨⟨⟨⟨⟨⟨⟨⟨⟨⟨⟨⟨⟨⟨⟨⟨⟨⟨⟨⟨⟨⟨⟨⟨row, u8⟩, ii⟩, ob⟩, s8⟩, oU16⟩, oU32⟩, oU64⟩, oI8⟩, oI16⟩, oI32⟩, oI64⟩, oUv⟩, oStr⟩, oCStr⟩, oNStr⟩, oCNStr⟩, oB⟩, oCB⟩, oNB⟩, oCNB⟩, oL⟩, oCL⟩, oNL⟩, oCNL⟩, oUu⟩, oTl⟩, oTe⟩, oUv2⟩, oF⟩ := hB'
 have cUv : ∀ (n : Nat) U w, n < 4294967296 → Wr1K P E E.wUvarint U [.int .u32 n] (Go.Km.uvar n) w := fun n U w hn => by
  have h2 := on_inv oUv HG.uv
  simp only [Bool.and_eq_true, beq_iff_eq, bne_iff_ne, ne_eq] at h2
  exact k_uvarK (HT.wUvarint HG.uv) (HT.uvLen h2.1.2) (HT.len32 h2.2) row u8 h2.1.1.1 ii (strB_inv h2.1.1.2) hn
 refine { bytes := H0.bytes, scal := H0.scal, uuid := H0.uuid, str := H0.str, cstr := H0.cstr, nstr := H0.nstr, cnstr := H0.cnstr, octs := H0.octs, cocts := H0.cocts, nocts := H0.nocts, cnocts := H0.cnocts, len := H0.len, clen := H0.clen, nlen := H0.nlen, cnlen := H0.cnlen, uvar := H0.uvar, tlen := ?_, teach := ?_ }
 ·intro h W0 sb b o v tags w _ hc hr hw
  have h2 := on_inv oTl h
  simp only [Bool.and_eq_true, beq_iff_eq] at h2
  exact k_tlen (HT.tLen h) h2.1.1 h2.2 h2.1.2 hc hr hw
 ·intro h W0 sb b o v tags w hT hc hr hw dv xs hown hb
  have h2 := on_inv oTe h
  simp only [Bool.and_eq_true, beq_iff_eq, bne_iff_ne, ne_eq] at h2
  exact k_teach HG.tagT HG.sortE (HT.tEach h) (HT.gAll h2.2) HG.gEach1 cUv row ob ii hc hr hw hown hb
end
end Go.Km
