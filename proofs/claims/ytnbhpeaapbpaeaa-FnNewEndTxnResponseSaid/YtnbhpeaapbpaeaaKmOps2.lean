/- More rules for single operations. -/
import Derived.Test.YtnbhpeaapbpaeaaKmMem
set_option linter.unusedSimpArgs false
set_option linter.unusedVariables false
namespace Go.Km
open Go Go.RowKit

/-- A struct or an array type: how many cells. -/
def aggT (P : Program) (t : TypeId) : Option Nat :=
  match P.underlying t, P.info? t with
  | some (.struct _), some i => some i.size
  | some (.array _ _), some i => some i.size
  | _, _ => none

/-- The cells from (b, o) on hold these values. -/
def Cells (w : World) (b o : Nat) (cs : List Value) : Prop := ∀ i v, cs[i]? = some v → w.cell? ⟨b, o + i, none⟩ = some v

theorem Cells.nil (w : World) (b o : Nat) : Cells w b o [] := fun i v h => by simp at h
theorem Cells.eff {M : Nat → Nat → Prop} {w w' : World} {b o : Nat} {cs : List Value} (h : Cells w b o cs) (he : Eff M w w') (hm : ∀ i, i < cs.length → ¬ M b (o + i)) : Cells w' b o cs :=
  fun i v hv => he.cellSome (h i v hv) (hm i (by rcases Nat.lt_or_ge i cs.length with h | h; exact h; simp [List.getElem?_eq_none h] at hv))
theorem Cells.get {w : World} {b o : Nat} {cs : List Value} (h : Cells w b o cs) {i : Nat} (hi : i < cs.length) : w.cell? ⟨b, o + i, none⟩ = some cs[i] := h i _ (List.getElem?_eq_getElem hi)

section
variable {P : Program} {a : Act} {w : World} {r : List Oper} {Q : Exit → Act → World → Prop}

theorem aggT_inv {t n} (ht : aggT P t = some n) : (∀ w, (isAgg t).run P w = .ok true w) ∧ (∀ w, (sizeOf t).run P w = .ok n w) := by
  unfold aggT at ht
  cases hu : P.underlying t with
  | none => simp [hu] at ht
  | some d =>
    cases hi : P.info? t with
    | none => cases d <;> simp [hu, hi] at ht
    | some i =>
      rw [hu, hi] at ht
      refine ⟨fun w => ?_, fun w => ?_⟩
      · simp only [isAgg, Sem.run_bind, run_underlying hu, Result.andThen_ok]
        cases d <;> simp_all
      · cases d <;> simp_all [sizeOf, typeInfo]

theorem run_loadCells {b o : Nat} {cs : List Value} (h : Cells w b o cs) : (loadCells ⟨b, o, none⟩ cs.length).run P w = .ok cs.toArray w := by
  have key : ∀ (n i : Nat) (acc : Array Value), i + n = cs.length → acc.toList = cs.take i → (loadCellsFrom ⟨b, o, none⟩ i n acc).run P w = .ok cs.toArray w := by
    intro n
    induction n with
    | zero =>
      intro i acc hi ha
      have : acc = cs.toArray := by
        apply Array.ext'
        rw [ha, List.take_of_length_le (by omega)]
      simp [loadCellsFrom, this]
    | succ n ih =>
      intro i acc hi ha
      have hlt : i < cs.length := by omega
      simp only [loadCellsFrom, Addr.add_lit, Sem.run_bind, run_load, h.get hlt, Result.andThen_ok]
      refine ih (i + 1) _ (by omega) ?_
      rw [Array.toList_push, ha, List.take_succ_eq_append_getElem hlt]
  exact key cs.length 0 #[] (by simp) (by simp)

theorem r_loadAgg {d t x ty p af g b o cs} (hx : a.eval x = .pointer (some ⟨b, o, none⟩)) (ht : aggT P t = some cs.length) (hc : Cells w b o cs) (h : runOps P Q r (a.put (some d) (.agg cs.toArray)) w) :
    runOps P Q (⟨some d, .load t x, ty, p, af, g⟩ :: r) a w := by
  refine st ?_
  obtain ⟨h1, h2⟩ := aggT_inv ht
  simp only [Oper.wp, execOp, hx, Instr.loadAt, Instr.sureAddr, loadVar, Sem.run_bind, Sem.run_pure, h1, Result.andThen_ok, if_true, h2, run_loadCells hc, Oper.upon_value]
  exact h

theorem r_storeAgg {t x y ty p af g b o} {cs : List Value} (hx : a.eval x = .pointer (some ⟨b, o, none⟩)) (hy : a.eval y = .agg cs.toArray) (h1 : ∀ v ∈ cs, v.oneCell' = true) (ht : aggT P t = some cs.length) (hf : ∀ i, i < cs.length → Free w b (o + i))
    (h : runOps P Q r a (setCells w b o cs)) : runOps P Q (⟨none, .store t x y, ty, p, af, g⟩ :: r) a w := by
  refine st ?_
  obtain ⟨_, h2⟩ := aggT_inv ht
  have hr := run_storeCells (P := P) b cs w o 0 (fun j hj => by simpa using hf j hj) h1
  simp only [Oper.wp, execOp, hx, hy, Instr.storeAt, Instr.sureAddr, storeVar, Sem.run_bind, Sem.run_pure, h2, Result.andThen_ok, Value.cells]
  simp only [List.size_toArray, ne_eq, not_true_eq_false, if_false, hr, Nat.add_zero, Result.andThen_ok, Oper.upon_skip]
  exact h

theorem r_call {d f xs ts ty p af g} {S : Value → World → Prop} (h : CallsV P f (xs.map a.eval) w S) (hn : ∀ v w', S v w' → runOps P Q r (a.put d v) w') :
    runOps P Q (⟨d, .call { callee := .value (.func f), args := xs, argTypes := ts }, ty, p, af, g⟩ :: r) a w := by
  refine st ?_
  obtain ⟨he, hc⟩ := h
  have := he (#[] ++ xs.map a.eval ++ #[]) w
  simp only [Array.empty_append, Array.append_empty] at this
  simp only [Oper.wp, execOp, resolve, Act.eval, Deferred.ofValue, Sem.run_bind, Sem.run_pure, Result.andThen_ok, invoke, Array.empty_append, Array.append_empty]
  have h2 : (callFunc f (xs.map a.eval)).run P w = .ok (.enter f (xs.map a.eval)) w := this
  have h3 : (callFunc f (xs.map (Act.eval a))).run P w = .ok (.enter f (xs.map a.eval)) w := this
  simp only [Oper.upon, h3]
  refine hc.mono ?_
  rintro e w' ⟨v, rfl, hs⟩
  exact hn v w' hs

theorem r_call' {d f xs ts ty p af g args} {S : Value → World → Prop} (hx : xs.map a.eval = args) (h : CallsV P f args w S) (hn : ∀ v w', S v w' → runOps P Q r (a.put d v) w') :
    runOps P Q (⟨d, .call { callee := .value (.func f), args := xs, argTypes := ts }, ty, p, af, g⟩ :: r) a w := r_call (hx ▸ h) hn

/-- The value in a test. -/
theorem r_cmp {d op xt x y yt ty p af g k m n} {res : Bool} (hx : a.eval x = .int k m) (hy : a.eval y = .int k n) (ho : Op.intCmp op m n = pure (.bool res)) (hop : op = .eql ∨ op = .neq ∨ op = .lss ∨ op = .leq ∨ op = .gtr ∨ op = .geq)
    (h : runOps P Q r (a.put (some d) (.bool res)) w) : runOps P Q (⟨some d, .binOp op xt x y yt, ty, p, af, g⟩ :: r) a w := by
  refine st ?_
  have hg : ∀ (x y : Operand), eqGuard op xt x y (.int k m) (.int k n) = pure () := fun x y => by cases op <;> rfl
  have hb : binOp op xt (.int k m) (.int k n) = Op.intCmp op m n := by rcases hop with h | h | h | h | h | h <;> subst h <;> simp [binOp]
  simp only [Oper.wp, execOp, hx, hy, hg, hb, ho, Sem.run_bind, Sem.run_pure, Result.andThen_ok, Oper.upon_value]
  exact h
theorem r_lss {d xt x y yt ty p af g k m n} (hx : a.eval x = .int k m) (hy : a.eval y = .int k n) (h : runOps P Q r (a.put (some d) (.bool (decide (m < n)))) w) : runOps P Q (⟨some d, .binOp .lss xt x y yt, ty, p, af, g⟩ :: r) a w :=
  r_cmp hx hy rfl (by simp) h
theorem r_leq {d xt x y yt ty p af g k m n} (hx : a.eval x = .int k m) (hy : a.eval y = .int k n) (h : runOps P Q r (a.put (some d) (.bool (decide (m ≤ n)))) w) : runOps P Q (⟨some d, .binOp .leq xt x y yt, ty, p, af, g⟩ :: r) a w :=
  r_cmp hx hy rfl (by simp) h
theorem r_gtr {d xt x y yt ty p af g k m n} (hx : a.eval x = .int k m) (hy : a.eval y = .int k n) (h : runOps P Q r (a.put (some d) (.bool (decide (m > n)))) w) : runOps P Q (⟨some d, .binOp .gtr xt x y yt, ty, p, af, g⟩ :: r) a w :=
  r_cmp hx hy rfl (by simp) h
theorem r_geq {d xt x y yt ty p af g k m n} (hx : a.eval x = .int k m) (hy : a.eval y = .int k n) (h : runOps P Q r (a.put (some d) (.bool (decide (m ≥ n)))) w) : runOps P Q (⟨some d, .binOp .geq xt x y yt, ty, p, af, g⟩ :: r) a w :=
  r_cmp hx hy rfl (by simp) h
theorem r_eql {d xt x y yt ty p af g k m n} (hx : a.eval x = .int k m) (hy : a.eval y = .int k n) (h : runOps P Q r (a.put (some d) (.bool (m == n))) w) : runOps P Q (⟨some d, .binOp .eql xt x y yt, ty, p, af, g⟩ :: r) a w :=
  r_cmp hx hy rfl (by simp) h
theorem r_neq {d xt x y yt ty p af g k m n} (hx : a.eval x = .int k m) (hy : a.eval y = .int k n) (h : runOps P Q r (a.put (some d) (.bool (m != n))) w) : runOps P Q (⟨some d, .binOp .neq xt x y yt, ty, p, af, g⟩ :: r) a w :=
  r_cmp hx hy rfl (by simp) h
theorem r_add {d xt x y yt ty p af g k m n} (hx : a.eval x = .int k m) (hy : a.eval y = .int k n) (h : runOps P Q r (a.put (some d) (.int k (k.wrap (m + n)))) w) : runOps P Q (⟨some d, .binOp .add xt x y yt, ty, p, af, g⟩ :: r) a w := by
  refine st ?_
  simp only [Oper.wp, execOp, hx, hy, eqGuard_at_int, binOp_add, Op.intArith, Sem.run_bind, Sem.run_pure, Result.andThen_ok, Oper.upon_value]
  exact h
theorem r_sub {d xt x y yt ty p af g k m n} (hx : a.eval x = .int k m) (hy : a.eval y = .int k n) (h : runOps P Q r (a.put (some d) (.int k (k.wrap (m - n)))) w) : runOps P Q (⟨some d, .binOp .sub xt x y yt, ty, p, af, g⟩ :: r) a w := by
  refine st ?_
  simp only [Oper.wp, execOp, hx, hy, eqGuard_at_int, binOp_sub, Op.intArith, Sem.run_bind, Sem.run_pure, Result.andThen_ok, Oper.upon_value]
  exact h
theorem r_mul {d xt x y yt ty p af g k m n} (hx : a.eval x = .int k m) (hy : a.eval y = .int k n) (h : runOps P Q r (a.put (some d) (.int k (k.wrap (m * n)))) w) : runOps P Q (⟨some d, .binOp .mul xt x y yt, ty, p, af, g⟩ :: r) a w := by
  refine st ?_
  simp only [Oper.wp, execOp, hx, hy, eqGuard_at_int, binOp_mul, Op.intArith, Sem.run_bind, Sem.run_pure, Result.andThen_ok, Oper.upon_value]
  exact h
theorem r_bits {d op xt x y yt ty p af g k m n v} (hx : a.eval x = .int k m) (hy : a.eval y = .int k n) (hop : op = .and ∨ op = .or ∨ op = .xor ∨ op = .andNot) (hv : Op.intBits op k m n = pure v) (h : runOps P Q r (a.put (some d) v) w) :
    runOps P Q (⟨some d, .binOp op xt x y yt, ty, p, af, g⟩ :: r) a w := by
  refine st ?_
  have hb : binOp op xt (.int k m) (.int k n) = Op.intBits op k m n := by rcases hop with h | h | h | h <;> subst h <;> simp [binOp]
  simp only [Oper.wp, execOp, hx, hy, eqGuard_at_int, hb, hv, Sem.run_bind, Sem.run_pure, Result.andThen_ok, Oper.upon_value]
  exact h
theorem r_shl {d xt x y yt ty p af g k m k' n} (hx : a.eval x = .int k m) (hy : a.eval y = .int k' n) (hn : 0 ≤ n) (h : runOps P Q r (a.put (some d) (.int k (k.wrap (m * 2 ^ (min n.toNat k.bits))))) w) :
    runOps P Q (⟨some d, .binOp .shl xt x y yt, ty, p, af, g⟩ :: r) a w := by
  refine st ?_
  simp only [Oper.wp, execOp, hx, hy, eqGuard_at_int, binOp_shl, Op.shift, if_neg (Int.not_lt.2 hn), Sem.run_bind, Sem.run_pure, Result.andThen_ok, Oper.upon_value]
  exact h
theorem r_shr {d xt x y yt ty p af g k m k' n} (hx : a.eval x = .int k m) (hy : a.eval y = .int k' n) (hn : 0 ≤ n) (h : runOps P Q r (a.put (some d) (.int k (m.fdiv (2 ^ (min n.toNat k.bits))))) w) :
    runOps P Q (⟨some d, .binOp .shr xt x y yt, ty, p, af, g⟩ :: r) a w := by
  refine st ?_
  simp only [Oper.wp, execOp, hx, hy, eqGuard_at_int, binOp_shr, Op.shift, if_neg (Int.not_lt.2 hn), Sem.run_bind, Sem.run_pure, Result.andThen_ok, Oper.upon_value]
  exact h
theorem r_not {d xt x ty p af g b} (hx : a.eval x = .bool b) (h : runOps P Q r (a.put (some d) (.bool (!b))) w) : runOps P Q (⟨some d, .unOp .not xt x, ty, p, af, g⟩ :: r) a w := by
  refine st ?_
  simp only [Oper.wp, execOp, hx, Op.unary, Sem.run_bind, Sem.run_pure, Result.andThen_ok, Oper.upon_value]
  exact h

/-- An integer type's kind. -/
def intT (P : Program) (t : TypeId) : Option IntKind :=
  match P.underlying t with
  | some (.int k) => some k
  | _ => none
theorem intT_inv {t k} (h : intT P t = some k) : P.underlying t = some (.int k) := by
  unfold intT at h
  split at h
  · rename_i k' hu; cases h; exact hu
  · cases h
theorem r_conv {d s t x ty p af g k k' m} (hs : intT P s = some k) (ht : intT P t = some k') (hx : a.eval x = .int k m) (h : runOps P Q r (a.put (some d) (.int k' (k'.wrap m))) w) :
    runOps P Q (⟨some d, .convert s t x, ty, p, af, g⟩ :: r) a w := by
  refine st ?_
  have : (convert s t (.int k m)).run P w = .ok (.int k' (k'.wrap m)) w := by
    simp [convert, run_underlying (intT_inv hs), run_underlying (intT_inv ht), Conv.intToInt]
  simp only [Oper.wp, execOp, hx, Sem.run_bind, this, Sem.run_pure, Result.andThen_ok, Oper.upon_value]
  exact h

/-- A slice type: its element's type and how many cells an element has. -/
def sliceT (P : Program) (t : TypeId) : Option (TypeId × Nat) :=
  match P.underlying t with
  | some (.slice e) => match P.info? e with
    | some i => some (e, i.size)
    | none => none
  | _ => none
theorem sliceT_inv {t e s} (h : sliceT P t = some (e, s)) : P.underlying t = some (.slice e) ∧ ∃ i, P.info? e = some i ∧ i.size = s := by
  unfold sliceT at h
  split at h
  · rename_i e' hu
    split at h
    · rename_i i hi
      cases h
      exact ⟨hu, i, hi, rfl⟩
    · cases h
  · cases h
theorem run_sizeOf_elem {t e s} (h : sliceT P t = some (e, s)) : (sizeOf e).run P w = .ok s w := by
  obtain ⟨_, i, hi, rfl⟩ := sliceT_inv h
  simp [sizeOf, typeInfo, hi]

theorem r_len {d x t ty p af g e s ad n c} (ht : sliceT P t = some (e, s)) (hx : a.eval x = .slice ad n c) (h : runOps P Q r (a.put (some d) (.int .i64 n)) w) :
    runOps P Q (⟨some d, .call { callee := .builtin .len, args := #[x], argTypes := #[t] }, ty, p, af, g⟩ :: r) a w := by
  refine st ?_
  obtain ⟨hu, _⟩ := sliceT_inv ht
  have : (Builtin.len_ #[t] ty #[a.eval x]).run P w = .ok (.int .i64 n) w := by simp [Builtin.len_, run_underlying hu, hx, goInt]
  simp only [Oper.wp, execOp, resolve, invoke, builtin, Sem.run_bind, Sem.run_pure, Result.andThen_ok, List.map_toArray, List.map_cons, List.map_nil, this, Oper.upon_value]
  exact h
theorem r_lenStr {d x t ty p af g s} (ht : P.underlying t = some .string) (hx : a.eval x = .string s) (h : runOps P Q r (a.put (some d) (.int .i64 s.size)) w) :
    runOps P Q (⟨some d, .call { callee := .builtin .len, args := #[x], argTypes := #[t] }, ty, p, af, g⟩ :: r) a w := by
  refine st ?_
  have : (Builtin.len_ #[t] ty #[a.eval x]).run P w = .ok (.int .i64 s.size) w := by simp [Builtin.len_, run_underlying ht, hx, goInt]
  simp only [Oper.wp, execOp, resolve, invoke, builtin, Sem.run_bind, Sem.run_pure, Result.andThen_ok, List.map_toArray, List.map_cons, List.map_nil, this, Oper.upon_value]
  exact h

theorem r_index {d t x i ty p af g e s b o len cap k} {j : Nat} (ht : sliceT P t = some (e, s)) (hx : a.eval x = .slice (some ⟨b, o, none⟩) len cap) (hi : a.eval i = .int k (j : Int)) (hj : j < len)
    (h : runOps P Q r (a.put (some d) (.pointer (some ⟨b, o + j * s, none⟩))) w) : runOps P Q (⟨some d, .indexAddr t x i, ty, p, af, g⟩ :: r) a w := by
  refine st ?_
  obtain ⟨hu, _⟩ := sliceT_inv ht
  have : (Instr.indexAt t (a.eval x) (a.eval i)).run P w = .ok (.pointer (some ⟨b, o + j * s, none⟩)) w := by
    have hj' : (0 : Int) ≤ j ∧ (j : Int) < len := ⟨by omega, by omega⟩
    simp [Instr.indexAt, run_underlying hu, hx, hi, asIntOf, hj', run_sizeOf_elem ht, Addr.add_lit, hj]
  simp only [Oper.wp, execOp, Sem.run_bind, this, Sem.run_pure, Result.andThen_ok, Oper.upon_value]
  exact h

theorem run_sliceBound {k : IntKind} {n y : Nat} {code : BoundsCode} (h : n ≤ y) : (Instr.sliceBound (.int k (n : Int)) y code).run P w = .ok n w := by
  have : (0 : Int) ≤ n ∧ (n : Int) ≤ y := ⟨by omega, by omega⟩
  simp [Instr.sliceBound, asIntOf, this]

theorem r_slice {d t x lo hi mx ty p af g e s ad len cap} (l h m : Nat) (ht : sliceT P t = some (e, s)) (hx : a.eval x = .slice ad len cap)
    (hl : match lo with | none => l = 0 | some y => ∃ k, a.eval y = .int k (l : Int)) (hh : match hi with | none => h = len ∧ mx = none | some y => ∃ k, a.eval y = .int k (h : Int))
    (hm : match mx with | none => m = cap | some y => ∃ k, a.eval y = .int k (m : Int)) (h1 : l ≤ h) (h2 : h ≤ m) (h3 : m ≤ cap)
    (hn : runOps P Q r (a.put (some d) (.slice (if m = l then ad else ad.map (·.add (l * s))) (h - l) (m - l))) w) : runOps P Q (⟨some d, .slice t x lo hi mx, ty, p, af, g⟩ :: r) a w := by
  refine st ?_
  obtain ⟨hu, _⟩ := sliceT_inv ht
  have hb : (Instr.sliceBounds true len cap (lo.map a.eval) (hi.map a.eval) (mx.map a.eval)).run P w = .ok (l, h, m) w := by
    cases lo with
    | none =>
      subst hl
      cases hi with
      | none => obtain ⟨rfl, rfl⟩ := hh; subst hm; simp [Instr.sliceBounds]
      | some y =>
        obtain ⟨k, hy⟩ := hh
        cases mx with
        | none => subst hm; simp [Instr.sliceBounds, hy, run_sliceBound h2]
        | some z => obtain ⟨k', hz⟩ := hm; simp [Instr.sliceBounds, hy, hz, run_sliceBound h2, run_sliceBound h3]
    | some u =>
      obtain ⟨ku, hu⟩ := hl
      cases hi with
      | none => obtain ⟨rfl, rfl⟩ := hh; subst hm; simp [Instr.sliceBounds, hu, run_sliceBound h1]
      | some y =>
        obtain ⟨k, hy⟩ := hh
        cases mx with
        | none => subst hm; simp [Instr.sliceBounds, hu, hy, run_sliceBound h2, run_sliceBound h1]
        | some z => obtain ⟨k', hz⟩ := hm; simp [Instr.sliceBounds, hu, hy, hz, run_sliceBound h2, run_sliceBound h3, run_sliceBound h1]
  have hr : (Instr.sliceAt t (a.eval x) (lo.map a.eval) (hi.map a.eval) (mx.map a.eval)).run P w = .ok (.slice (if m = l then ad else ad.map (·.add (l * s))) (h - l) (m - l)) w := by
    rw [hx]
    simp [Instr.sliceAt, Instr.slice, run_underlying hu, hb, run_sizeOf_elem ht]
  simp only [Oper.wp, execOp, Sem.run_bind, hr, Sem.run_pure, Result.andThen_ok, Oper.upon_value]
  exact hn

/-- 'x[:0]' of a slice. -/
theorem r_slice0 {d t x y ty p af g e s ad len cap k} (ht : sliceT P t = some (e, s)) (hx : a.eval x = .slice ad len cap) (hy : a.eval y = .int k 0)
    (hn : runOps P Q r (a.put (some d) (.slice ad 0 cap)) w) : runOps P Q (⟨some d, .slice t x none (some y) none, ty, p, af, g⟩ :: r) a w := by
  refine st ?_
  refine r_slice 0 0 cap ht hx rfl ⟨k, hy⟩ rfl (Nat.le_refl _) (Nat.zero_le _) (Nat.le_refl _) ?_
  have : (if cap = 0 then ad else ad.map (·.add (0 * s))) = ad := by cases ad <;> simp [Addr.add_zero']
  rw [this]
  exact hn

/-- The address of a slice that begins l elements later. -/
theorem map_add (b o n : Nat) : (some (⟨b, o, none⟩ : Addr)).map (·.add n) = some ⟨b, o + n, none⟩ := by simp [Addr.add_lit]

theorem run_newVar {t : TypeId} {v : Value} : (newVar t v).run P w = .ok ⟨w.heap.size, 0, none⟩ (w.alloc (.cells v.cells t)) := by
  simp [newVar, newRow]

/-- The zero value of a type. -/
def zeroT (P : Program) (t : TypeId) : Option Value := (P.info? t).bind (·.zero)
theorem run_zeroValue {t v} (h : zeroT P t = some v) : (zeroValue t).run P w = .ok v w := by
  unfold zeroT at h
  cases hi : P.info? t with
  | none => simp [hi] at h
  | some i =>
    simp only [hi, Option.bind_some] at h
    simp [zeroValue, typeInfo, hi, h]

theorem r_alloc {d t ty p af g v} (ht : zeroT P t = some v) (hn : runOps P Q r (a.put (some d) (.pointer (some ⟨w.heap.size, 0, none⟩))) (w.alloc (.cells v.cells t))) :
    runOps P Q (⟨some d, .alloc t, ty, p, af, g⟩ :: r) a w := by
  refine st ?_
  simp only [Oper.wp, execOp, Instr.alloc, Sem.run_bind, run_zeroValue ht, run_newVar, Sem.run_pure, Result.andThen_ok, Oper.upon_value]
  exact hn
theorem r_box {d t x ty p af g v} (hx : a.eval x = v) (hn : runOps P Q r (a.put (some d) (.pointer (some ⟨w.heap.size, 0, none⟩))) (w.alloc (.cells v.cells t))) :
    runOps P Q (⟨some d, .box t x, ty, p, af, g⟩ :: r) a w := by
  refine st ?_
  simp only [Oper.wp, execOp, hx, Instr.box, Sem.run_bind, run_newVar, Sem.run_pure, Result.andThen_ok, Oper.upon_value]
  exact hn

end

/-! ## the calculus by rules; behind this the texts of 'vc' and 'runOps' are shut -/
section
variable {P : Program} {a : Act} {w : World} {Q : Exit → Act → World → Prop}
theorem vc_skip (h : Q .normal a w) : vc P .skip Q a w := h
theorem vc_ret (h : Q .ret a w) : vc P .ret Q a w := h
theorem vc_exit {id : Nat} (h : Q (.exit id) a w) : vc P (.exit id) Q a w := h
theorem vc_skip_inv (h : vc P .skip Q a w) : Q .normal a w := h
theorem vc_seq_inv {x y : Code} (h : vc P (.seq x y) Q a w) : vc P x (Exit.then (vc P y Q) Q) a w := h
theorem vc_seq {x y : Code} (h : vc P x (Exit.then (vc P y Q) Q) a w) : vc P (.seq x y) Q a w := h
theorem vc_cond {c : Operand} {x y : Code} {t : Bool} (hc : a.eval c = .bool t) (ht : t = true → vc P x Q a w) (hf : t = false → vc P y Q a w) : vc P (.cond c x y) Q a w := ⟨t, hc, ht, hf⟩
theorem vc_block {id : Nat} {b : Code} (h : vc P b (Exit.inBlock id Q) a w) : vc P (.block id b) Q a w := h
theorem vc_loop {b : Code} (I : Act → World → Prop) (μ : Act → World → Nat) (h0 : I a w) (hr : ∀ a w, I a w → vc P b (Exit.then (fun a' w' => I a' w' ∧ μ a' w' < μ a w) Q) a w) : vc P (.loop b) Q a w := ⟨I, μ, h0, hr⟩
theorem vc_draw {id : Nat} {ops : Array Oper} (h : ∀ t, wpOps P ops Q (Region.schedule (P.follows .mixedOrders) ops t) a { w with drawn := w.drawn + 1 }) : vc P (.region id ops true) Q a w := h
theorem vc_ops {id : Nat} {ops : Array Oper} (h : wpOps P ops Q (List.range ops.size) a w) : vc P (.region id ops false) Q a w := h
end
end Go.Km
