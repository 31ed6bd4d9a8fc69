/- Memory: which cells a call may have written. -/
import Derived.Test.YtnbhpeaapbpaeaaKmOps
set_option linter.unusedSimpArgs false
set_option linter.unusedVariables false
namespace Go.Km
open Go Go.RowKit

/-- What becomes of one block: its shape stays, and each cell outside m. -/
def BlkKeep (m : Nat → Prop) : Option Obj → Option Obj → Prop
  | some (.cells c T f), o' => ∃ c', o' = some (.cells c' T f) ∧ c'.size = c.size ∧ ∀ i, ¬ m i → c'[i]? = c[i]?
  | o, o' => o' = o

theorem BlkKeep.refl (m : Nat → Prop) (o : Option Obj) : BlkKeep m o o := by
  unfold BlkKeep
  split
  · exact ⟨_, rfl, rfl, fun _ _ => rfl⟩
  · rfl
theorem BlkKeep.of_eq {m : Nat → Prop} {o o' : Option Obj} (h : o' = o) : BlkKeep m o o' := h ▸ BlkKeep.refl m o
theorem BlkKeep.trans {m : Nat → Prop} {a b c : Option Obj} (h : BlkKeep m a b) (h' : BlkKeep m b c) : BlkKeep m a c := by
  unfold BlkKeep at h
  split at h
  · obtain ⟨c1, rfl, hs, hc⟩ := h
    simp only [BlkKeep] at h'
    obtain ⟨c2, rfl, hs', hc'⟩ := h'
    exact ⟨c2, rfl, hs'.trans hs, fun i hi => (hc' i hi).trans (hc i hi)⟩
  · subst h; exact h'
theorem BlkKeep.mono {m m' : Nat → Prop} {a b : Option Obj} (h : BlkKeep m a b) (hm : ∀ i, m i → m' i) : BlkKeep m' a b := by
  unfold BlkKeep at h ⊢
  split at h
  · obtain ⟨c1, rfl, hs, hc⟩ := h
    exact ⟨c1, rfl, hs, fun i hi => hc i (fun hh => hi (hm i hh))⟩
  · exact h
theorem BlkKeep.eq {m : Nat → Prop} {a b : Option Obj} (h : BlkKeep m a b) (hm : ∀ i, ¬ m i) : b = a := by
  unfold BlkKeep at h
  split at h
  · obtain ⟨c1, rfl, hs, hc⟩ := h
    congr 2
    apply Array.ext_getElem?
    exact fun i => hc i (hm i)
  · exact h

/-- The world has turned at most in the cells of M; new blocks may be there. -/
structure Eff (M : Nat → Nat → Prop) (w w' : World) : Prop where
  os : w'.os = w.os
  tape : w'.tape = w.tape
  output : w'.output = w.output
  size : w.heap.size ≤ w'.heap.size
  block : ∀ k, k < w.heap.size → BlkKeep (M k) w.heap[k]? w'.heap[k]?

/-- No old cell has turned. -/
abbrev Grow (w w' : World) : Prop := Eff (fun _ _ => False) w w'

theorem Eff.refl (M : Nat → Nat → Prop) (w : World) : Eff M w w := ⟨rfl, rfl, rfl, Nat.le_refl _, fun _ _ => BlkKeep.refl _ _⟩
theorem Eff.trans {M : Nat → Nat → Prop} {a b c : World} (h : Eff M a b) (k : Eff M b c) : Eff M a c :=
  ⟨k.os.trans h.os, k.tape.trans h.tape, k.output.trans h.output, Nat.le_trans h.size k.size,
    fun i hi => (h.block i hi).trans (k.block i (Nat.lt_of_lt_of_le hi h.size))⟩
theorem Eff.mono {M M' : Nat → Nat → Prop} {a b : World} (h : Eff M a b) (hm : ∀ k i, k < a.heap.size → M k i → M' k i) : Eff M' a b :=
  ⟨h.os, h.tape, h.output, h.size, fun k hk => (h.block k hk).mono (fun i => hm k i hk)⟩
/-- Two steps: what the second may write of old cells counts alone. -/
theorem Eff.trans' {M M' : Nat → Nat → Prop} {a b c : World} (h : Eff M a b) (k : Eff M' b c) (hm : ∀ k i, k < a.heap.size → M' k i → M k i) : Eff M a c :=
  ⟨k.os.trans h.os, k.tape.trans h.tape, k.output.trans h.output, Nat.le_trans h.size k.size,
    fun i hi => (h.block i hi).trans ((k.block i (Nat.lt_of_lt_of_le hi h.size)).mono (fun j => hm i j hi))⟩
theorem Eff.drew {M : Nat → Nat → Prop} {a w : World} (h : Eff M a w) : Eff M a w.drew := ⟨h.os, h.tape, h.output, h.size, h.block⟩
theorem Eff.drawn {M : Nat → Nat → Prop} {a w : World} (h : Eff M a w) (n : Nat) : Eff M a { w with drawn := n } := ⟨h.os, h.tape, h.output, h.size, h.block⟩
theorem Eff.alloc {M : Nat → Nat → Prop} {a w : World} (h : Eff M a w) (o : Obj) : Eff M a (w.alloc o) :=
  h.trans ⟨rfl, rfl, rfl, by simp, fun k hk => BlkKeep.of_eq (Below.heap_alloc w o k hk)⟩
theorem blk_setCell (w : World) (b o : Nat) (v : Value) (k : Nat) : BlkKeep (fun i => k = b ∧ i = o) w.heap[k]? (w.setCell ⟨b, o, none⟩ v).heap[k]? := by
  simp only [World.setCell, Array.getElem?_modify]
  by_cases hk : b = k
  · subst hk
    simp only [if_true]
    cases hh : w.heap[b]? with
    | none => exact BlkKeep.refl _ _
    | some x =>
      cases x with
      | cells c T f =>
        refine ⟨_, rfl, by simp, fun i hi => ?_⟩
        have : o ≠ i := fun e => hi (by first | exact ⟨trivial, e.symm⟩ | exact ⟨rfl, e.symm⟩)
        simp [this]
      | _ => exact BlkKeep.refl _ _
  · simp only [if_neg hk]
    exact BlkKeep.refl _ _
theorem Eff.setCell {M : Nat → Nat → Prop} {a w : World} (h : Eff M a w) (b o : Nat) (v : Value) (hb : b < a.heap.size → M b o) : Eff M a (w.setCell ⟨b, o, none⟩ v) := by
  refine h.trans' (M' := fun k i => k = b ∧ i = o) ⟨rfl, rfl, rfl, by simp, fun k _ => blk_setCell w b o v k⟩ ?_
  rintro k i hk ⟨rfl, rfl⟩
  exact hb hk

theorem Eff.blockEq {M : Nat → Nat → Prop} {w w' : World} (h : Eff M w w') {k : Nat} (hk : k < w.heap.size) (hm : ∀ i, ¬ M k i) : w'.heap[k]? = w.heap[k]? := (h.block k hk).eq hm
theorem Eff.below {M : Nat → Nat → Prop} {w w' : World} (h : Eff M w w') {B : Nat} (hB : B ≤ w.heap.size) (hm : ∀ k i, k < B → ¬ M k i) : Below B w w' :=
  ⟨h.os, h.tape, h.output, h.size, fun k hk => h.blockEq (Nat.lt_of_lt_of_le hk hB) (fun i => hm k i hk)⟩
theorem Grow.below {w w' : World} (h : Grow w w') : Below w.heap.size w w' := Eff.below h (Nat.le_refl _) (fun _ _ _ h => h)
theorem Grow.of_below {w w' : World} (h : Below w.heap.size w w') : Grow w w' := ⟨h.os, h.tape, h.output, h.size, fun k hk => BlkKeep.of_eq (h.block k hk)⟩
theorem Eff.of_below {M : Nat → Nat → Prop} {w w' : World} (h : Below w.heap.size w w') : Eff M w w' := ⟨h.os, h.tape, h.output, h.size, fun k hk => BlkKeep.of_eq (h.block k hk)⟩
theorem Grow.eff {M : Nat → Nat → Prop} {w w' : World} (h : Grow w w') : Eff M w w' := Eff.mono h (fun _ _ _ h => h.elim)

theorem lt_of_cell {w : World} {b o : Nat} {v : Value} (h : w.cell? ⟨b, o, none⟩ = some v) : b < w.heap.size := World.block_lt_of_cell? w _ h
theorem BlkKeep.cell {m : Nat → Prop} {w w' : World} {b : Nat} (h : BlkKeep m w.heap[b]? w'.heap[b]?) {o : Nat} (hm : ¬ m o) : w'.cell? ⟨b, o, none⟩ = w.cell? ⟨b, o, none⟩ := by
  unfold BlkKeep at h
  split at h
  · rename_i c T f hc
    obtain ⟨c', hc', hs, hi⟩ := h
    simp [World.cell?, hc, hc', hi o hm]
  · simp [World.cell?, h]
theorem Eff.cell {M : Nat → Nat → Prop} {w w' : World} (h : Eff M w w') {b o : Nat} (hb : b < w.heap.size) (hm : ¬ M b o) : w'.cell? ⟨b, o, none⟩ = w.cell? ⟨b, o, none⟩ :=
  (h.block b hb).cell hm
theorem Eff.cellSome {M : Nat → Nat → Prop} {w w' : World} (h : Eff M w w') {b o : Nat} {v : Value} (hc : w.cell? ⟨b, o, none⟩ = some v) (hm : ¬ M b o) : w'.cell? ⟨b, o, none⟩ = some v :=
  (h.cell (lt_of_cell hc) hm).trans hc
/-- A cell that is there stays there (whatever it holds). -/
theorem Eff.there {M : Nat → Nat → Prop} {w w' : World} (h : Eff M w w') {b o : Nat} (hc : (w.cell? ⟨b, o, none⟩).isSome = true) : (w'.cell? ⟨b, o, none⟩).isSome = true := by
  obtain ⟨v, hv⟩ := Option.isSome_iff_exists.1 hc
  have hk := h.block b (lt_of_cell hv)
  unfold World.cell? at hv ⊢
  simp only at hv ⊢
  split at hv
  · rename_i c T f hh
    rw [hh] at hk
    obtain ⟨c', hc', hs, _⟩ := hk
    simp only [hc'] 
    simp only [Option.isSome_none, Bool.false_eq_true, if_false] at hv ⊢
    have : o < c.size := by
      rcases Nat.lt_or_ge o c.size with h | h
      · exact h
      · simp [Array.getElem?_eq_none h] at hv
    simp [hs, this]
  · cases hv
theorem Eff.frozen {M : Nat → Nat → Prop} {w w' : World} (h : Eff M w w') {b o : Nat} (hb : b < w.heap.size) : w'.frozen? ⟨b, o, none⟩ = w.frozen? ⟨b, o, none⟩ := by
  have hk := h.block b hb
  unfold BlkKeep at hk
  split at hk
  · rename_i c T f hc
    obtain ⟨c', hc', _, _⟩ := hk
    simp [World.frozen?, hc, hc']
  · simp [World.frozen?, hk]

/-! ## cells that may be written -/
/-- The cell is there and may be written. -/
def Free (w : World) (b o : Nat) : Prop := (w.cell? ⟨b, o, none⟩).isSome = true ∧ w.frozen? ⟨b, o, none⟩ = false
theorem Free.lt {w : World} {b o : Nat} (h : Free w b o) : b < w.heap.size := by
  obtain ⟨v, hv⟩ := Option.isSome_iff_exists.1 h.1
  exact lt_of_cell hv
theorem Free.eff {M : Nat → Nat → Prop} {w w' : World} {b o : Nat} (h : Free w b o) (he : Eff M w w') : Free w' b o := ⟨he.there h.1, (he.frozen h.lt).trans h.2⟩

theorem free_new (w : World) (c : Array Value) (T : TypeId) {i : Nat} (hi : i < c.size) : Free (w.alloc (.cells c T)) w.heap.size i := by
  constructor
  · rw [World.cell?_alloc_new]
    simp [hi]
  · have h : (w.alloc (.cells c T)).heap[w.heap.size]? = some (.cells c T) := heap_alloc_new w _
    unfold World.frozen?
    simp only [h]
    simp
theorem cells_new (w : World) (c : Array Value) (T : TypeId) {i : Nat} {v : Value} (hi : c[i]? = some v) : (w.alloc (.cells c T)).cell? ⟨w.heap.size, i, none⟩ = some v := by
  rw [World.cell?_alloc_new]
  exact hi
theorem cell_setCell_same {w : World} {b o : Nat} (v : Value) (h : (w.cell? ⟨b, o, none⟩).isSome = true) : (w.setCell ⟨b, o, none⟩ v).cell? ⟨b, o, none⟩ = some v := by
  obtain ⟨u, hu⟩ := Option.isSome_iff_exists.1 h
  exact World.cell?_setCell_same w _ _ hu
theorem cell_setCell_ne {w : World} {b o b' o' : Nat} (v : Value) (h : b ≠ b' ∨ o ≠ o') : (w.setCell ⟨b, o, none⟩ v).cell? ⟨b', o', none⟩ = w.cell? ⟨b', o', none⟩ := by
  apply World.cell?_setCell_other
  intro e
  injection e with e1 e2
  rcases h with h | h
  · exact h e1
  · exact h e2

/-- Cells in a row are written. -/
def setCells (w : World) (b o : Nat) : List Value → World
  | [] => w
  | v :: r => setCells (w.setCell ⟨b, o, none⟩ v) b (o + 1) r
theorem setCells_eff (b : Nat) : ∀ (vs : List Value) (w : World) (o : Nat), Eff (fun k i => k = b ∧ o ≤ i ∧ i < o + vs.length) w (setCells w b o vs)
  | [], w, _ => Eff.refl _ w
  | v :: r, w, o => by
    have h1 : Eff (fun k i => k = b ∧ o ≤ i ∧ i < o + (v :: r).length) w (w.setCell ⟨b, o, none⟩ v) := (Eff.refl _ w).setCell b o v (fun _ => ⟨rfl, Nat.le_refl _, by simp⟩)
    refine h1.trans' (setCells_eff b r _ (o + 1)) ?_
    rintro k i _ ⟨rfl, h2, h3⟩
    exact ⟨rfl, by omega, by simp only [List.length_cons]; omega⟩
theorem setCells_cell (b : Nat) : ∀ (vs : List Value) (w : World) (o : Nat), (∀ i, i < vs.length → (w.cell? ⟨b, o + i, none⟩).isSome = true) →
    ∀ i v, vs[i]? = some v → (setCells w b o vs).cell? ⟨b, o + i, none⟩ = some v
  | [], _, _, _, i, v, h => by simp at h
  | u :: r, w, o, ht, i, v, h => by
    have h0 := ht 0 (by simp)
    simp only [Nat.add_zero] at h0
    have he : Eff (fun k i => k = b ∧ i = o) w (w.setCell ⟨b, o, none⟩ u) := (Eff.refl _ w).setCell b o u (fun _ => ⟨rfl, rfl⟩)
    cases i with
    | zero =>
      simp only [List.getElem?_cons_zero, Option.some.injEq] at h
      subst h
      have h1 := cell_setCell_same u h0
      exact (setCells_eff b r _ (o + 1)).cellSome h1 (by rintro ⟨_, h, _⟩; omega)
    | succ i =>
      simp only [List.getElem?_cons_succ] at h
      have := setCells_cell b r (w.setCell ⟨b, o, none⟩ u) (o + 1) (fun j hj => he.there (by have := ht (j + 1) (by simp; omega); rwa [show o + (j + 1) = o + 1 + j by omega] at this)) i v h
      rwa [show o + 1 + i = o + (i + 1) by omega] at this

theorem run_storeCells {P : Program} (b : Nat) : ∀ (vs : List Value) (w : World) (o i : Nat), (∀ j, j < vs.length → Free w b (o + i + j)) → (∀ v ∈ vs, v.oneCell' = true) →
    (storeCells ⟨b, o, none⟩ vs i).run P w = .ok () (setCells w b (o + i) vs)
  | [], _, _, _, _, _ => rfl
  | v :: r, w, o, i, hf, h1 => by
    have h0 := hf 0 (by simp)
    simp only [Nat.add_zero] at h0
    obtain ⟨u, hu⟩ := Option.isSome_iff_exists.1 h0.1
    have he : Eff (fun k j => k = b ∧ j = o + i) w (w.setCell ⟨b, o + i, none⟩ v) := (Eff.refl _ w).setCell b (o + i) v (fun _ => ⟨rfl, rfl⟩)
    have ih := run_storeCells (P := P) b r (w.setCell ⟨b, o + i, none⟩ v) o (i + 1) (fun j hj => (by
      have := hf (j + 1) (by simp; omega)
      rw [show o + i + (j + 1) = o + (i + 1) + j by omega] at this
      exact this.eff he)) (fun x hx => h1 x (by simp [hx]))
    simp only [storeCells, Addr.add_lit, Sem.run_bind, run_store P w _ _ _ (h1 v (by simp)), hu, h0.2, Bool.false_eq_true, if_false, Result.andThen_ok]
    rw [ih]
    rfl

section
variable {P : Program} {a : Act} {w : World} {r : List Oper} {Q : Exit → Act → World → Prop}

theorem r_store {t x y ty p af g b o v} (hx : a.eval x = .pointer (some ⟨b, o, none⟩)) (hy : a.eval y = v) (h1 : v.oneCell' = true) (ht : oneT P t = true) (hf : Free w b o)
    (h : runOps P Q r a (w.setCell ⟨b, o, none⟩ v)) : runOps P Q (⟨none, .store t x y, ty, p, af, g⟩ :: r) a w := by
  refine st ?_
  have hv : v.cells = #[v] := by cases v <;> first | rfl | simp [Value.oneCell'] at h1
  have hr := run_storeCells (P := P) b [v] w o 0 (fun j hj => by simp at hj; subst hj; simpa using hf) (by simpa using h1)
  simp only [Oper.wp, execOp, hx, hy, Instr.storeAt, Instr.sureAddr, storeVar, Sem.run_bind, Sem.run_pure, run_sizeOf_oneT ht, Result.andThen_ok, hv]
  simp only [List.size_toArray, List.length_cons, List.length_nil, ne_eq, not_true_eq_false, if_false, Nat.zero_add]
  simp only [hr, setCells, Result.andThen_ok, Oper.upon_skip, Nat.add_zero]
  exact h

end
end Go.Km
