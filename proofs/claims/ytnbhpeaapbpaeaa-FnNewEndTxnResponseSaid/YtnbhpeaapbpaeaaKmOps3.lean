/- More rules: append of whatever, slices laid out, struct values; guarded regions; regions that draw their order. -/
import Derived.Test.YtnbhpeaapbpaeaaKmMac
import Derived.Deep.AppendSrc
import Derived.Great.FillDense
import Derived.OrdersHeld
set_option linter.unusedSimpArgs false
set_option linter.unusedVariables false
namespace Go.Km
open Go Go.RowKit

/-! ## append -/
/-- A slice type that may be appended to: its element's type, how many cells one has. -/
def rowB (P : Program) (t e : TypeId) (s : Nat) : Bool :=
  match P.underlying t, P.info? e with
  | some (.slice e'), some i => e' == e && i.size == s && decide (0 < s) && (match i.zero with | some z => z.cells.size == s | none => false) && decide (i.bytes ≤ 65536)
  | _, _ => false
theorem rowB_inv {P : Program} {t e : TypeId} {s : Nat} (h : rowB P t e s = true) :
    P.underlying t = some (.slice e) ∧ ∃ i z, P.info? e = some i ∧ i.size = s ∧ 0 < s ∧ i.zero = some z ∧ z.cells.size = s ∧ i.bytes ≤ 65536 := by
  unfold rowB at h
  split at h
  · rename_i e' i hu hi
    cases hz : i.zero with
    | none => simp [hz] at h
    | some z =>
      simp only [hz, Bool.and_eq_true, beq_iff_eq, decide_eq_true_eq] at h
      obtain ⟨⟨⟨⟨h1, h2⟩, h3⟩, h4⟩, h5⟩ := h
      subst h1
      exact ⟨hu, i, z, hi, h2, h3, hz, h4, h5⟩
  · cases h
theorem rowB_slice {P : Program} {t e : TypeId} {s : Nat} (h : rowB P t e s = true) : sliceT P t = some (e, s) := by
  obtain ⟨hu, i, z, hi, hs, _⟩ := rowB_inv h
  simp [sliceT, hu, hi, hs]

theorem run_append_src {P : Program} (w : World) (base : Nat) (t tx ty e : TypeId) (s : Nat) (hB : rowB P t e s = true)
    (v : Value) (n : Nat) (xs : List Value) (hown : w.ownsRow base e s v n xs) (x : Value) (m : Nat) (news : List Value) (hs : Src P s tx x m news w) (hb : n + m ≤ big) (hbase : base ≤ w.heap.size) :
    ∃ v' w', (Builtin.append_ #[t, tx] ty #[v, x]).run P w = .ok v' w' ∧ w'.ownsRow base e s v' (n + m) (xs ++ news) ∧ w.grownBy w' v.ownBlock ∧ (∀ g, v'.ownBlock = some g → v.ownBlock = some g ∨ w.heap.size ≤ g) := by
  obtain ⟨ht, i, z, hi, hsize, hsz, hz, hzs, hby⟩ := rowB_inv hB
  subst hsize
  have hl := hs.newsLen
  have hsmall : n + m ≤ 9223372036854775807 := by unfold big at hb; omega
  have h63 : n + m ≤ maxLen := by unfold big at hb; simp only [maxLen]; omega
  have hbytes : (n + m) * i.bytes ≤ 140737488355328 := by
    refine Nat.le_trans (Nat.mul_le_mul hb hby) ?_
    unfold big
    omega
  have hlen : (xs ++ news).length = (n + m) * i.size := by rw [List.length_append, hown.1, hl, Nat.add_mul]
  have grown : ∀ (old : Nat), old < n + m → ∀ (row : Option Nat),
      (w.drew.alloc (.cells ((xs ++ news).toArray ++ Builtin.zeroCells z.cells (grownCap w (n + m) old e - (n + m))) e)).ownsRow base e i.size
        (.slice (some ⟨w.heap.size, 0, none⟩) (n + m) (grownCap w (n + m) old e)) (n + m) (xs ++ news) ∧
      w.grownBy (w.drew.alloc (.cells ((xs ++ news).toArray ++ Builtin.zeroCells z.cells (grownCap w (n + m) old e - (n + m))) e)) row := by
    intro old ho row
    have hge := grownCap_ge w (n + m) old e
    have hcm : grownCap w (n + m) old e ≤ maxLen := grownCap_le_maxLen w (n + m) old e h63
    refine ⟨⟨hlen, .inr ⟨w.heap.size, _, _, rfl, hbase, heap_alloc_new w.drew _, hge, hcm, ?_, ?_⟩⟩, ⟨rfl, rfl, rfl, by simp, fun k hk _ => heap_alloc_old w.drew _ k hk⟩⟩
    · have hmul : (n + m) * i.size + (grownCap w (n + m) old e - (n + m)) * i.size = grownCap w (n + m) old e * i.size := by
        rw [← Nat.add_mul]
        congr 1
        omega
      rw [Array.size_append, List.size_toArray, size_zeroCells, hzs, hlen]
      exact hmul
    · rw [Array.toList_append, ← hlen]
      exact List.take_left
  rcases hown.2 with ⟨rfl, rfl⟩ | ⟨g, cap, cur, rfl, hbg, hg, hnc, hcm, hcs, htake⟩
  · have hx : xs = [] := List.eq_nil_of_length_eq_zero (by simpa using hown.1)
    subst hx
    by_cases hm : m = 0
    · subst hm
      have hn : news = [] := List.eq_nil_of_length_eq_zero (by simpa using hl)
      subst hn
      refine ⟨.slice none 0 0, w, ?_, World.ownsRow_nil w base e i.size, ⟨rfl, rfl, rfl, Nat.le_refl _, fun _ _ _ => rfl⟩, fun g h => by cases h⟩
      rcases hs.kind with ⟨e', hk⟩ | hk <;> simp [Builtin.append_, run_underlying ht, run_underlying hk, sizeOf, typeInfo, hi, hs.len, hs.cells, storeCells]
    · have hr := run_append_grow_src (P := P) w t tx ty e i z ht hi hz none 0 0 [] (by simp [Builtin.firstCells]) x m news hs (by omega) (by omega) (growslice_fits (by omega) (by simpa using hbytes))
      have hgr := grown 0 (by omega) (Value.ownBlock (.slice none 0 0))
      simp only [Nat.zero_add, List.nil_append] at hgr hr ⊢
      exact ⟨_, _, hr, hgr.1, hgr.2, fun g' h => .inr (by simp only [Value.ownBlock, Option.some.injEq] at h; omega)⟩
  · by_cases hroom : n + m ≤ cap
    · have hfit : n * i.size + news.length ≤ cur.size := by rw [hl, hcs, ← Nat.add_mul]; exact Nat.mul_le_mul_right _ hroom
      have hc : ∀ j, j < news.length → (w.cell? ⟨g, 0 + n * i.size + j, none⟩).isSome = true := by
        intro j hj
        have : 0 + n * i.size + j < cur.size := by omega
        simp [World.cell?, hg]
        omega
      have hf : ∀ j, j < news.length → w.frozen? ⟨g, 0 + n * i.size + j, none⟩ = false := by
        intro j hj
        simp [World.frozen?, hg]
      have hr := run_append_room_src (P := P) w t tx ty e i ht hi g 0 n cap x m news hs hroom hc hf
      have e1 := run_storeCells_cells (P := P) g (0 + n * i.size) news 0 w (by simpa using hc) (by simpa using hf) hs.one
      have e2 := run_storeCells_at P g (0 + n * i.size) e news 0 cur w hg (by simpa using hfit) hs.one
      have e3 := e1.symm.trans e2
      simp only [Nat.add_zero] at e3
      injection e3 with _ e3
      rw [e3] at hr
      refine ⟨_, _, hr, ⟨hlen, .inr ⟨g, cap, _, rfl, hbg, setRow_heap w g cur _ e _ hg, hroom, hcm, ?_, ?_⟩⟩, ⟨rfl, rfl, rfl, by simp, fun k _ hk => setRow_other w g k _ (fun e => hk (by simp [Value.ownBlock, e]))⟩, fun g' h => .inl h⟩
      · simp only [List.size_toArray, List.length_append, List.length_take, List.length_drop, Array.length_toList]
        omega
      · simp only [Nat.zero_add]
        rw [htake, ← hlen]
        exact List.take_left
    · have holds : ∀ j u, xs[j]? = some u → w.cell? ((⟨g, 0, none⟩ : Addr).add j) = some u := hown.cells (g := g) rfl
      have hr := run_append_grow_src (P := P) w t tx ty e i z ht hi hz (some ⟨g, 0, none⟩) n cap xs (run_firstCells_some w.drew i.size n _ n cap xs hown.1 (by simpa using holds)) x m news hs (by omega) (by omega) (growslice_fits (by omega) hbytes)
      have hgr := grown cap (by omega) (Value.ownBlock (.slice (some ⟨g, 0, none⟩) n cap))
      exact ⟨_, _, hr, hgr.1, hgr.2, fun g' h => .inr (by simp only [Value.ownBlock, Option.some.injEq] at h; omega)⟩

theorem below_grownBy {w w' : World} {base : Nat} {e : TypeId} {s : Nat} {v : Value} {n : Nat} {xs : List Value} (hown : w.ownsRow base e s v n xs) (hg : w.grownBy w' v.ownBlock) (hU : base ≤ w.heap.size) : Below base w w' :=
  ⟨hg.os, hg.tape, hg.output, hg.size, fun k hk => hg.block k (by omega) (fun he => by have := hown.lt k he.symm; omega)⟩

/-- What a slice of whole cells yields. -/
theorem src_cells {P : Program} {t e : TypeId} {s : Nat} {w : World} {q o n cap : Nat} {cs : List Value} (ht : sliceT P t = some (e, s)) (hc : Cells w q o cs) (hl : cs.length = n * s) (h1 : ∀ u ∈ cs, u.oneCell' = true) :
    Src P s t (.slice (some ⟨q, o, none⟩) n cap) n cs w :=
  Src.ofSlice w (sliceT_inv ht).1 _ n cap cs hl (fun j u hu => by rw [Addr.add_lit]; exact hc j u hu) h1
theorem bv_one (l : List UInt8) : ∀ u ∈ l.map bv, u.oneCell' = true := by
  intro u hu
  obtain ⟨b, _, rfl⟩ := List.mem_map.1 hu
  rfl
theorem src_nil {P : Program} {t e : TypeId} {s c : Nat} {w : World} (ht : sliceT P t = some (e, s)) : Src P s t (.slice none 0 c) 0 [] w := Src.ofNil w (sliceT_inv ht).1 c
theorem byteCells_bv (l : List UInt8) : byteCells ⟨l.toArray⟩ = l.map bv := by
  simp [byteCells, bv]
theorem src_str {P : Program} {t : TypeId} {w : World} (ht : P.underlying t = some .string) (l : List UInt8) : Src P 1 t (.string ⟨l.toArray⟩) l.length (l.map bv) w := by
  have := Src.ofString (P := P) w ht ⟨l.toArray⟩
  rw [byteCells_bv] at this
  exact this
/-- What an own row yields. -/
theorem src_own {P : Program} {t e : TypeId} {s : Nat} {w : World} {U n : Nat} {v : Value} {xs : List Value} (ht : sliceT P t = some (e, s)) (h : w.ownsRow U e s v n xs) (h1 : ∀ u ∈ xs, u.oneCell' = true) : Src P s t v n xs w := by
  rcases h.2 with ⟨rfl, rfl⟩ | ⟨g, cap, cur, rfl, hbg, hg, hnc, hcm, hcs, htake⟩
  · have : xs = [] := List.eq_nil_of_length_eq_zero (by simpa using h.1)
    subst this
    exact src_nil ht
  · refine src_cells ht ?_ h.1 h1
    intro j u hu
    have := h.cells (g := g) rfl j u hu
    rwa [Addr.add_lit] at this

section
variable {P : Program} {a : Act} {w : World} {r : List Oper} {Q : Exit → Act → World → Prop}

theorem r_append {d s x t tx ty p af g e sz U v n xs u m news} (hB : rowB P t e sz = true) (hs : a.eval s = v) (hx : a.eval x = u) (hown : w.ownsRow U e sz v n xs) (hU : U ≤ w.heap.size) (hsrc : Src P sz tx u m news w) (hb : n + m ≤ big)
    (h : ∀ v' w', w'.ownsRow U e sz v' (n + m) (xs ++ news) → Below U w w' → runOps P Q r (a.put (some d) v') w') :
    runOps P Q (⟨some d, .call { callee := .builtin .append, args := #[s, x], argTypes := #[t, tx] }, ty, p, af, g⟩ :: r) a w := by
  refine st ?_
  obtain ⟨v', w', hr, h1, h2, _⟩ := run_append_src w U t tx ty e sz hB v n xs hown u m news hsrc hb hU
  subst hs; subst hx
  simp only [Oper.wp, execOp, resolve, invoke, builtin, Sem.run_bind, Sem.run_pure, Result.andThen_ok, List.map_toArray, List.map_cons, List.map_nil, hr, Oper.upon_value]
  exact h v' w' h1 (below_grownBy hown h2 hU)

theorem r_pickT {d c x y ty p af g} (hc : a.eval c = .bool true) (h : runOps P Q r (a.put (some d) (a.eval x)) w) : runOps P Q (⟨some d, .pick c x y, ty, p, af, g⟩ :: r) a w := by
  refine st ?_
  simp only [Oper.wp, execOp, hc, asBool, Sem.run_bind, Sem.run_pure, Result.andThen_ok, Oper.upon_value, if_true]
  exact h
theorem r_pickF {d c x y ty p af g} (hc : a.eval c = .bool false) (h : runOps P Q r (a.put (some d) (a.eval y)) w) : runOps P Q (⟨some d, .pick c x y, ty, p, af, g⟩ :: r) a w := by
  refine st ?_
  simp only [Oper.wp, execOp, hc, asBool, Sem.run_bind, Sem.run_pure, Result.andThen_ok, Oper.upon_value, Bool.false_eq_true, if_false]
  exact h
theorem r_pick {d c x y ty p af g b} (hc : a.eval c = .bool b) (h : runOps P Q r (a.put (some d) (if b = true then a.eval x else a.eval y)) w) : runOps P Q (⟨some d, .pick c x y, ty, p, af, g⟩ :: r) a w := by
  refine st ?_
  simp only [Oper.wp, execOp, hc, asBool, Sem.run_bind, Sem.run_pure, Result.andThen_ok, Oper.upon_value]
  exact h

theorem run_newRow' (e : TypeId) (c : Array Value) (w : World) : (newRow e c).run P w = .ok ⟨w.heap.size, 0, none⟩ (w.alloc (.cells c e)) := by
  simp [newRow]

theorem r_buildSlice {d t n ps ty p af g e s} {vs : List Value} (hB : rowB P t e s = true) (hp : (ps.map fun (x : Nat × Operand) => (x.1, a.eval x.2)).toList = (vs.zipIdx 0).map fun x => (x.2, x.1)) (hn : vs.length = n) (hs : ∀ v ∈ vs, v.cells.size = s) (hlim : n * s ≤ 16777216) (hn0 : 0 < n)
    (h : runOps P Q r (a.put (some d) (.slice (some ⟨w.heap.size, 0, none⟩) n n)) (w.alloc (.cells (vs.flatMap fun v => v.cells.toList).toArray e))) :
    runOps P Q (⟨some d, .buildSlice t n ps, ty, p, af, g⟩ :: r) a w := by
  refine st ?_
  obtain ⟨hu, i, z, hi, hsz, hs0, hz, hzs, _⟩ := rowB_inv hB
  have hn' : n * s ≠ 0 := Nat.ne_of_gt (Nat.mul_pos hn0 hs0)
  have hf := Great.fill_whole hs0 vs ((Array.range (n * s)).map (z.cells[· % z.cells.size]!)) hs (by simp [hn])
  have hz' : (zeroValue e).run P w = .ok z w := by simp [zeroValue, typeInfo, hi, hz]
  have hr : (Instr.buildSlice t n (ps.map fun (i, x) => (i, a.eval x))).run P w = .ok (.slice (some ⟨w.heap.size, 0, none⟩) n n) (w.alloc (.cells (vs.flatMap fun v => v.cells.toList).toArray e)) := by
    have hp' : (ps.map fun (i, x) => (i, a.eval x)).toList = (vs.zipIdx 0).map fun x => (x.2, x.1) := hp
    have hlim' : ¬ (n * s > 2 ^ 24) := by simp only [Nat.reducePow]; omega
    simp only [Instr.buildSlice, Sem.run_bind, run_underlying hu, Result.andThen_ok, run_sizeOf_elem (rowB_slice hB), if_neg hlim', if_neg hn', hz', Sem.run_pure, hp', hf, run_newRow']
  simp only [Oper.wp, execOp, Sem.run_bind, hr, Sem.run_pure, Result.andThen_ok, Oper.upon_value]
  exact h
end

/-! ## guarded regions, regions that draw their order -/
/-- Is the operation wanted, by the frame? -/
def wants (ops : List Oper) (a : Act) (o : Oper) : Bool := Region.wanted o (yielded ops.toArray a.tmps)

/-- The operations of a region by their numbers, guards looked at. -/
def runS (P : Program) (ops : List Oper) (Q : Exit → Act → World → Prop) : List Nat → Act → World → Prop
  | [], a, w => Q .normal a w
  | i :: r, a, w => ∃ o, ops[i]? = some o ∧ (if wants ops a o = true then o.wp P a w (runS P ops Q r) Q else runS P ops Q r (a.put o.dst undef) w)

section
variable {P : Program} {a : Act} {w : World} {Q : Exit → Act → World → Prop} {ops : List Oper} {r : List Nat}

theorem vc_runS {id : Nat} (h : runS P ops Q (List.range ops.length) a w) : vc P (.region id ops.toArray false) Q a w := by
  refine vc_ops ?_
  have key : ∀ (l : List Nat) (a : Act) (w : World), runS P ops Q l a w → wpOps P ops.toArray Q l a w := by
    intro l
    induction l with
    | nil => exact fun a w h => h
    | cons i r ih =>
      rintro a w ⟨o, ho, h⟩
      have ho' : ops.toArray[i]? = some o := by simpa using ho
      simp only [wpOps, ho']
      by_cases hw : wants ops a o = true
      · rw [if_pos hw] at h
        have hw' : Region.wanted o (yielded ops.toArray a.tmps) = true := hw
        rw [if_pos hw']
        exact .inl (Oper.wp_mono (fun a w => ih a w) h)
      · rw [if_neg hw] at h
        have hw' : ¬ Region.wanted o (yielded ops.toArray a.tmps) = true := hw
        rw [if_neg hw']
        exact ih _ _ h
  have := key _ a w h
  simpa using this

theorem runS_nil (h : Q .normal a w) : runS P ops Q [] a w := h
/-- An operation that is carried out. -/
theorem runS_do {i : Nat} {o : Oper} (ho : ops[i]? = some o) (hw : wants ops a o = true) (h : runOps P (Exit.then (runS P ops Q r) Q) [o] a w) : runS P ops Q (i :: r) a w := by
  refine ⟨o, ho, ?_⟩
  rw [if_pos hw]
  have h' : o.wp P a w (runS P ops Q r) (Exit.then (runS P ops Q r) Q) := h
  unfold Oper.wp at h' ⊢
  revert h'
  generalize (execOp a.eval o).run P w = res
  intro h
  unfold Oper.upon at h ⊢
  split at h <;> first
    | exact h
    | (exact Calls.mono h (fun e w' hh => by cases e <;> exact hh))
    | (exact Rows.mono h (fun _ _ hh => hh))
theorem runS_then (h : runS P ops Q r a w) : Exit.then (runS P ops Q r) Q .normal a w := h
/-- An operation that is passed over. -/
theorem runS_no {i : Nat} {o : Oper} (ho : ops[i]? = some o) (hw : wants ops a o = false) (h : runS P ops Q r (a.put o.dst undef) w) : runS P ops Q (i :: r) a w := by
  refine ⟨o, ho, ?_⟩
  rw [if_neg (by rw [hw]; exact Bool.false_ne_true)]
  exact h
theorem wants_none {o : Oper} (h : o.guard = none) : wants ops a o = true := by simp [wants, Region.wanted, h]
theorem wants_some {o : Oper} {j : Nat} {dj : Tmp} {want b : Bool} (h : o.guard = some (j, want)) (hj : (ops[j]?).bind (·.dst) = some dj) (hb : a.eval (.tmp dj) = .bool b) : wants ops a o = (b == want) := by
  unfold wants Region.wanted
  rw [h]
  have hy : yielded ops.toArray a.tmps j = some b := by
    cases hoj : ops[j]? with
    | none => simp [hoj] at hj
    | some oj => exact yielded_of (by simpa using hoj) (by simpa [hoj] using hj) hb
  simp [hy]
theorem wants_undef {o : Oper} {j : Nat} {dj : Tmp} {want : Bool} (h : o.guard = some (j, want)) (hj : (ops[j]?).bind (·.dst) = some dj) (hb : a.eval (.tmp dj) = undef) (hd : dj < a.tmps.size) : wants ops a o = false := by
  unfold wants Region.wanted
  rw [h]
  have hy : yielded ops.toArray a.tmps j = none := by
    unfold yielded
    simp only [List.getElem?_toArray, hj, Option.bind_some]
    simp only [Act.eval, Array.getD_eq_getD_getElem?] at hb
    rw [Array.getElem?_eq_getElem hd] at hb ⊢
    simp only [Option.getD_some] at hb
    simp [hb, undef]
  simp [hy]
end

/-- An operation that yields a value, if anything. -/
def isPure : Op → Bool
  | .move _ | .assign _ | .load _ _ | .fieldAddr _ _ _ | .indexAddr _ _ _ | .binOp _ _ _ _ _ | .unOp _ _ _ | .convert _ _ _ | .pick _ _ _ | .slice _ _ _ _ _ => true
  | .call c => match c.callee with | .builtin .len => true | .builtin .min => true | .builtin .max => true | _ => false
  | _ => false

/-- A region that draws its order: the order in which it is walked: with each number: may it be taken first (it yields its value in every world that meets S)? -/
def runD (P : Program) (ops : List Oper) (Q : Exit → Act → World → Prop) (S : World → Prop) : List (Nat × Bool) → Act → World → Prop
  | [], a, w => Q .normal a w
  | (i, true) :: r, a, w => ∃ o v, ops[i]? = some o ∧ YieldsIf P ops.toArray S o v a ∧ S w ∧ runD P ops Q S r (a.put o.dst v) w
  | (i, false) :: r, a, w => wpOp P ops.toArray Q i (fun a' w' => S w' ∧ runD P ops Q S r a' w') a w
/-- May the region be walked in this order? -/
def ordB (ops : Array Oper) : List (Nat × Bool) → Array Bool → Bool
  | [], listed => (Region.ready .any ops listed).isEmpty
  | (i, true) :: r, listed => (Region.ready .any ops listed).contains i && Region.free .any ops listed i && ordB ops r (listed.setIfInBounds i true)
  | (i, false) :: r, listed => decide (Region.ready .any ops listed = [i]) && ordB ops r (listed.setIfInBounds i true)

section
variable {P : Program} {a : Act} {w : World} {Q : Exit → Act → World → Prop} {ops : List Oper} {S : World → Prop}

theorem wpAnyH_of_runD (hs : Region.noSelect ops.toArray = true) (hQ : ∀ c a a' w, Q (.panic c) a w → Q (.panic c) a' w) : ∀ (ord : List (Nat × Bool)) (listed : Array Bool) (a : Act) (w : World), ordB ops.toArray ord listed = true →
    runD P ops Q S ord a w → wpAnyH P .any ops.toArray Q S ord.length listed a w
  | [], listed, a, w, hB, h => by
    simp only [ordB, List.isEmpty_iff] at hB
    exact ⟨hB, h⟩
  | (i, true) :: r, listed, a, w, hB, ⟨o, v, ho, hy, hS, h⟩ => by
    simp only [ordB, Bool.and_eq_true] at hB
    have ho' : ops.toArray[i]? = some o := by simpa using ho
    exact wpAnyH_take ho' hs hB.1.2 hB.1.1 (fun c a w h => hQ c _ _ w h) hy hS (wpAnyH_of_runD hs hQ r _ _ w hB.2 h)
  | (i, false) :: r, listed, a, w, hB, h => by
    simp only [ordB, Bool.and_eq_true, decide_eq_true_eq] at hB
    refine wpAnyH_all (rs := [i]) hB.1 (by simp) ?_
    intro j hj
    simp only [List.mem_singleton] at hj
    subst hj
    exact wpOp_mono (fun a' w' h' => ⟨h'.1, wpAnyH_of_runD hs hQ r _ a' w' hB.2 h'.2⟩) h

theorem vc_runD (ord : List (Nat × Bool)) (S : World → Prop) {id : Nat} (hm : P.follows .mixedOrders = true) (hs : Region.noSelect ops.toArray = true) (hl : ord.length = ops.length) (hB : ordB ops.toArray ord (Array.replicate ops.length false) = true)
    (hQ : ∀ c a a' w, Q (.panic c) a w → Q (.panic c) a' w) (h : runD P ops Q S ord a { w with drawn := w.drawn + 1 }) : vc P (.region id ops.toArray true) Q a w := by
  refine vc_draw (fun t => ?_)
  simp only [Region.schedule, hm, Bool.true_or, if_true]
  refine wpAny_sound ops.toArray.size t _ a _ (wpAny_of_held (S := S) _ _ _ _ ?_)
  have := wpAnyH_of_runD hs hQ ord _ a _ hB h
  rw [hl] at this
  simpa using this

theorem d_nil (h : Q .normal a w) : runD P ops Q S [] a w := h
/-- What a run of the operation alone must come to. -/
def yq (a : Act) (d : Option Tmp) (v : Value) (w : World) : Exit → Act → World → Prop := fun e a' w' => e = .normal ∧ a' = a.put d v ∧ w' = w

theorem v_value {x : Sem Value} {w w' : World} {n : Next} (h : (do let y ← x; pure (Next.value y) : Sem Next).run P w = .ok n w') : ∃ v, n = .value v := by
  rw [Sem.run_bind] at h
  cases hx : x.run P w with
  | ok y w1 =>
    rw [hx, Result.andThen_ok, Sem.run_pure] at h
    injection h with h1 _
    exact ⟨_, h1.symm⟩
  | halt s w1 =>
    rw [hx] at h
    cases h
theorem pure_value {ρ : Operand → Value} {o : Oper} (hp : isPure o.op = true) {w w' : World} {n : Next} (h : (execOp ρ o).run P w = .ok n w') : ∃ v, n = .value v := by
  unfold isPure at hp
  unfold execOp at h
  split at hp <;> first | exact absurd hp Bool.false_ne_true | (rename_i heq; rw [heq] at h)
  all_goals first
    | exact v_value h
    | (rw [Sem.run_pure] at h; injection h with h1 _; exact ⟨_, h1.symm⟩)
    | (simp only [Sem.run_bind] at h
       revert h
       generalize Sem.run P (asBool _) w = res
       intro h
       cases res with
       | ok y w1 => rw [Result.andThen_ok, Sem.run_pure] at h; injection h with h1 _; exact ⟨_, h1.symm⟩
       | halt s w1 => cases h)
    | skip
  rename_i c
  split at hp <;> first | exact absurd hp Bool.false_ne_true | skip
  all_goals
    rename_i hc
    simp only [resolve, hc, Sem.run_bind, Sem.run_pure, Result.andThen_ok, invoke, builtin] at h
    refine v_value (x := ?_) (by rw [Sem.run_bind]; simp only [Sem.run_pure]; exact h)
theorem yields_run {o : Oper} {d : Nat} {v : Value} (hp : isPure o.op = true) (hd : o.dst = some d) (hsz : d < a.tmps.size) (h : runOps P (yq a (some d) v w) [o] a w) : (execOp a.eval o).run P w = .ok (.value v) w := by
  have h' : o.wp P a w (yq a (some d) v w .normal) (yq a (some d) v w) := h
  unfold Oper.wp at h'
  cases hr : (execOp a.eval o).run P w with
  | ok n w' =>
    obtain ⟨u, rfl⟩ := pure_value hp hr
    rw [hr] at h'
    simp only [Oper.upon, hd] at h'
    obtain ⟨_, h1, h2⟩ := h'
    subst h2
    have h3 : (a.put (some d) u).eval (.tmp d) = (a.put (some d) v).eval (.tmp d) := by rw [h1]
    rw [eval_put_same _ _ _ hsz, eval_put_same _ _ _ hsz] at h3
    rw [h3]
  | halt x w' =>
    rw [hr] at h'
    cases x <;> simp [Oper.upon, yq] at h'

/-- Take number i first. -/
theorem d_pure {i d : Nat} {o : Oper} {v : Value} {r : List (Nat × Bool)} (ho : ops[i]? = some o) (hp : isPure o.op = true) (hd : o.dst = some d) (hw : wants ops a o = true) (hsz : d < a.tmps.size) (hS : S w)
    (h : ∀ w', S w' → runOps P (yq a (some d) v w') [o] a w') (k : runD P ops Q S r (a.put (some d) v) w) : runD P ops Q S ((i, true) :: r) a w :=
  ⟨o, v, ho, .inl ⟨hw, fun w' hS' => yields_run hp hd hsz (h w' hS')⟩, hS, by rw [hd]; exact k⟩
/-- Number i is passed over. -/
theorem d_no {i d : Nat} {o : Oper} {r : List (Nat × Bool)} (ho : ops[i]? = some o) (hd : o.dst = some d) (hw : wants ops a o = false) (hS : S w) (k : runD P ops Q S r (a.put (some d) undef) w) : runD P ops Q S ((i, true) :: r) a w :=
  ⟨o, undef, ho, .inr ⟨hw, rfl⟩, hS, by rw [hd]; exact k⟩
/-- Number i comes up alone. -/
theorem d_sole {i : Nat} {o : Oper} {r : List (Nat × Bool)} (ho : ops[i]? = some o) (hw : wants ops a o = true) (h : runOps P (Exit.then (fun a w => S w ∧ runD P ops Q S r a w) Q) [o] a w) : runD P ops Q S ((i, false) :: r) a w := by
  have ho' : ops.toArray[i]? = some o := by simpa using ho
  show wpOp P ops.toArray Q i _ a w
  unfold wpOp
  have hw' : Region.wanted o (yielded ops.toArray a.tmps) = true := hw
  simp only [ho', hw', if_true]
  left
  have h' : o.wp P a w (fun a w => S w ∧ runD P ops Q S r a w) (Exit.then (fun a w => S w ∧ runD P ops Q S r a w) Q) := h
  unfold Oper.wp at h' ⊢
  revert h'
  generalize (execOp a.eval o).run P w = res
  intro h
  unfold Oper.upon at h ⊢
  split at h <;> first
    | exact h
    | (exact Calls.mono h (fun e w' hh => by cases e <;> exact hh))
    | (exact Rows.mono h (fun _ _ hh => hh))
theorem d_then {r : List (Nat × Bool)} (hS : S w) (h : runD P ops Q S r a w) : Exit.then (fun a w => S w ∧ runD P ops Q S r a w) Q .normal a w := ⟨hS, h⟩
end
end Go.Km
