/- Rules for single operations, over any program; frames by their slots. -/
import Derived.Test.YtnbhpeaapbpaeaaKmVc
set_option linter.unusedSimpArgs false
set_option linter.unusedVariables false
namespace Go.Km
open Go

/-! ## frames -/
theorem size_put (a : Act) (d : Option Tmp) (v : Value) : (a.put d v).tmps.size = a.tmps.size := by
  cases d <;> simp [Act.put]
theorem defers_put (a : Act) (d : Option Tmp) (v : Value) : (a.put d v).defers = a.defers := by
  cases d <;> rfl
theorem eval_put_same (a : Act) (d : Nat) (v : Value) (h : d < a.tmps.size) : (a.put (some d) v).eval (.tmp d) = v := by
  simp [Act.put, Act.eval, Array.getD_eq_getD_getElem?, h]
theorem eval_put_ne (a : Act) (d t : Nat) (v : Value) (h : d ≠ t) : (a.put (some d) v).eval (.tmp t) = a.eval (.tmp t) := by
  simp [Act.put, Act.eval, Array.getD_eq_getD_getElem?, h]
theorem eval_const (a : Act) (v : Value) : a.eval (.const v) = v := rfl
theorem eS (a : Act) (d : Nat) (v : Value) (h : d < a.tmps.size) : (a.put (some d) v).eval (.tmp d) = v := eval_put_same a d v h
theorem eN (a : Act) (d t : Nat) (v : Value) (h : d ≠ t) : (a.put (some d) v).eval (.tmp t) = a.eval (.tmp t) := eval_put_ne a d t v h
theorem eC (a : Act) (v : Value) : a.eval (.const v) = v := rfl
theorem sP (a : Act) (d : Option Tmp) (v : Value) : (a.put d v).tmps.size = a.tmps.size := size_put a d v
theorem eval_global (a : Act) (g : Nat) : a.eval (.global g) = .pointer (some ⟨g, 0, none⟩) := rfl
theorem eval_func (a : Act) (f : FuncId) : a.eval (.func f) = .func (.func f) #[] #[] := rfl
theorem put_none (a : Act) (v : Value) : a.put none v = a := rfl

/-- The frame is as it was at the slots of K. -/
structure Fr (K : Nat → Prop) (a a' : Act) : Prop where
  size : a'.tmps.size = a.tmps.size
  defers : a'.defers = a.defers
  slot : ∀ k, K k → a'.eval (.tmp k) = a.eval (.tmp k)
theorem Fr.refl (K : Nat → Prop) (a : Act) : Fr K a a := ⟨rfl, rfl, fun _ _ => rfl⟩
theorem Fr.trans {K : Nat → Prop} {a b c : Act} (h : Fr K a b) (h' : Fr K b c) : Fr K a c :=
  ⟨h'.size.trans h.size, h'.defers.trans h.defers, fun k hk => (h'.slot k hk).trans (h.slot k hk)⟩
theorem Fr.mono {K K' : Nat → Prop} {a b : Act} (h : Fr K a b) (hm : ∀ k, K' k → K k) : Fr K' a b := ⟨h.size, h.defers, fun k hk => h.slot k (hm k hk)⟩
theorem Fr.put {K : Nat → Prop} {a b : Act} (h : Fr K a b) {d : Nat} (v : Value) (hd : ¬ K d) : Fr K a (b.put (some d) v) :=
  ⟨(size_put _ _ _).trans h.size, (defers_put _ _ _).trans h.defers, fun k hk => (eval_put_ne _ d k _ (fun e => hd (by rw [e]; exact hk))).trans (h.slot k hk)⟩

/-! ## a region's operations in order -/
def runOps (P : Program) (Q : Exit → Act → World → Prop) : List Oper → Act → World → Prop
  | [], a, w => Q .normal a w
  | o :: r, a, w => o.wp P a w (runOps P Q r) Q

theorem st {P : Program} {Q : Exit → Act → World → Prop} {o : Oper} {r : List Oper} {a : Act} {w : World} (h : o.wp P a w (runOps P Q r) Q) : runOps P Q (o :: r) a w := h
theorem dn {P : Program} {Q : Exit → Act → World → Prop} {a : Act} {w : World} (h : Q .normal a w) : runOps P Q [] a w := h

theorem vc_run {P : Program} {Q : Exit → Act → World → Prop} {id : Nat} {l : List Oper} {a : Act} {w : World} (hg : ∀ o ∈ l, o.guard = none) (h : runOps P Q l a w) :
    vc P (.region id l.toArray false) Q a w := by
  simp only [vc, List.size_toArray]
  have key : ∀ (suf pre : List Oper) (a : Act) (w : World), l = pre ++ suf → runOps P Q suf a w → wpOps P l.toArray Q (List.range' pre.length suf.length) a w := by
    intro suf
    induction suf with
    | nil => exact fun pre a w _ h => h
    | cons o r ih =>
      intro pre a w hl h
      have hi : l.toArray[pre.length]? = some o := by simp [hl]
      simp only [List.length_cons, List.range'_succ, wpOps, hi]
      have ho : o.guard = none := hg o (by simp [hl])
      have hw : ∀ y, Region.wanted o y = true := fun y => by simp [Region.wanted, ho]
      rw [if_pos (hw _)]
      left
      have hn : ∀ a w, runOps P Q r a w → wpOps P l.toArray Q (List.range' (pre.length + 1) r.length) a w := by
        intro a w h
        have := ih (pre ++ [o]) a w (by simp [hl]) h
        simpa using this
      simp only [runOps] at h
      unfold Oper.wp at h ⊢
      revert h
      generalize (execOp a.eval o).run P w = res
      intro h
      unfold Oper.upon at h ⊢
      split at h <;> first
        | exact hn _ _ h
        | exact h
        | (exact Calls.mono h (fun e w' hh => by cases e <;> first | exact hn _ _ hh | exact hh))
        | (exact Rows.mono h (fun _ _ hh => hn _ _ hh))
  have := key l [] a w rfl h
  simpa [List.range_eq_range'] using this

/-! ## operations by name -/
abbrev oMove (d : Tmp) (x : Operand) (t : TypeId) : Oper := ⟨some d, .move x, t, "", #[], none⟩
abbrev oAssign (d : Tmp) (x : Operand) (t : TypeId) : Oper := ⟨some d, .assign x, t, "", #[], none⟩
abbrev oNil (d : Tmp) (x : Operand) : Oper := ⟨some d, .nilCheck x, 0, "", #[], none⟩
abbrev oField (d : Tmp) (s : TypeId) (x : Operand) (f : Nat) : Oper := ⟨some d, .fieldAddr s x f, 0, "", #[], none⟩
abbrev oLoad (d : Tmp) (t : TypeId) (x : Operand) : Oper := ⟨some d, .load t x, t, "", #[], none⟩
abbrev oStore (t : TypeId) (x y : Operand) : Oper := ⟨none, .store t x y, 0, "", #[], none⟩
abbrev oCall (d : Option Tmp) (f : FuncId) (xs : Array Operand) (ts : Array TypeId) (t : TypeId) : Oper :=
  ⟨d, .call { callee := .value (.func f), args := xs, argTypes := ts }, t, "", #[], none⟩
abbrev oBuiltin (d : Tmp) (b : Builtin) (xs : Array Operand) (ts : Array TypeId) (t : TypeId) : Oper :=
  ⟨some d, .call { callee := .builtin b, args := xs, argTypes := ts }, t, "", #[], none⟩
abbrev oBin (d : Tmp) (op : BinOp) (xt : TypeId) (x y : Operand) (yt t : TypeId) : Oper := ⟨some d, .binOp op xt x y yt, t, "", #[], none⟩
abbrev oUn (d : Tmp) (op : UnOp) (xt : TypeId) (x : Operand) (t : TypeId) : Oper := ⟨some d, .unOp op xt x, t, "", #[], none⟩
abbrev oConv (d : Tmp) (s t : TypeId) (x : Operand) : Oper := ⟨some d, .convert s t x, t, "", #[], none⟩
abbrev oAlloc (d : Tmp) (e : TypeId) : Oper := ⟨some d, .alloc e, 0, "", #[], none⟩
abbrev oBox (d : Tmp) (e : TypeId) (x : Operand) : Oper := ⟨some d, .box e x, 0, "", #[], none⟩
abbrev oIndexAddr (d : Tmp) (t : TypeId) (x i : Operand) : Oper := ⟨some d, .indexAddr t x i, 0, "", #[], none⟩
abbrev oSlice (d : Tmp) (t : TypeId) (x : Operand) (l h m : Option Operand) : Oper := ⟨some d, .slice t x l h m, t, "", #[], none⟩
abbrev oBuild (d : Tmp) (t : TypeId) (ps : Array (Nat × Operand)) : Oper := ⟨some d, .build t ps, t, "", #[], none⟩
abbrev oBuildSlice (d : Tmp) (t : TypeId) (n : Nat) (ps : Array (Nat × Operand)) : Oper := ⟨some d, .buildSlice t n ps, t, "", #[], none⟩
abbrev oMake (d : Tmp) (t : TypeId) (l c : Operand) : Oper := ⟨some d, .makeSlice t l c, t, "", #[], none⟩

section
variable {P : Program} {a : Act} {w : World} {r : List Oper} {Q : Exit → Act → World → Prop}

theorem r_move {d x t p af g} (h : runOps P Q r (a.put (some d) (a.eval x)) w) : runOps P Q (⟨some d, .move x, t, p, af, g⟩ :: r) a w := h
theorem r_assign {d x t p af g} (h : runOps P Q r (a.put (some d) (a.eval x)) w) : runOps P Q (⟨some d, .assign x, t, p, af, g⟩ :: r) a w := h
theorem r_nil {d x t p af g ad} (hx : a.eval x = .pointer (some ad)) (h : runOps P Q r (a.put (some d) (.pointer (some ad))) w) : runOps P Q (⟨some d, .nilCheck x, t, p, af, g⟩ :: r) a w := by
  refine st ?_
  simp only [Oper.wp, execOp, hx, Sem.run_pure, Oper.upon_value]
  exact h

/-- Where field f of the struct type s lies (a field of at least one cell). -/
def fieldOff (P : Program) (s : TypeId) (f : Nat) : Option Nat :=
  match P.underlying s with
  | some (.struct fs) => match fs[f]? with
    | some fd => match P.info? fd.type with
      | some i => if i.size = 0 then none else some fd.offset
      | none => none
    | none => none
  | _ => none

theorem run_fieldAt {s f off b o} (hf : fieldOff P s f = some off) : (Instr.fieldAt s (.pointer (some ⟨b, o, none⟩)) f).run P w = .ok (.pointer (some ⟨b, o + off, none⟩)) w := by
  unfold fieldOff at hf
  split at hf <;> try cases hf
  rename_i fs hu
  split at hf <;> try cases hf
  rename_i fd hfd
  split at hf <;> try cases hf
  rename_i i hi
  split at hf <;> try cases hf
  rename_i hz
  simp [Instr.fieldAt, run_underlying hu, hfd, Instr.sureAddr, fieldPlace, sizeOf, typeInfo, hi, hz, Addr.add_lit]

theorem r_field {d s x f t p af g b o off} (hx : a.eval x = .pointer (some ⟨b, o, none⟩)) (hf : fieldOff P s f = some off) (h : runOps P Q r (a.put (some d) (.pointer (some ⟨b, o + off, none⟩))) w) :
    runOps P Q (⟨some d, .fieldAddr s x f, t, p, af, g⟩ :: r) a w := by
  refine st ?_
  simp only [Oper.wp, execOp, hx, Sem.run_bind, run_fieldAt hf, Result.andThen_ok, Sem.run_pure, Oper.upon_value]
  exact h

/-- A type whose values are one cell each. -/
def oneT (P : Program) (t : TypeId) : Bool :=
  match P.underlying t, P.info? t with
  | some (.struct _), _ => false
  | some (.array _ _), _ => false
  | some _, some i => i.size == 1
  | _, _ => false

theorem oneT_inv {t : TypeId} (ht : oneT P t = true) : ∃ d i, P.underlying t = some d ∧ P.info? t = some i ∧ i.size = 1 ∧ (∀ fs, d ≠ .struct fs) ∧ (∀ n e, d ≠ .array n e) := by
  unfold oneT at ht
  cases hu : P.underlying t with
  | none => simp [hu] at ht
  | some d =>
    cases hi : P.info? t with
    | none => cases d <;> simp [hu, hi] at ht
    | some i =>
      rw [hu, hi] at ht
      refine ⟨d, i, rfl, rfl, ?_, ?_, ?_⟩ <;> cases d <;> simp_all
theorem run_isAgg_oneT {t : TypeId} (ht : oneT P t = true) : (isAgg t).run P w = .ok false w := by
  obtain ⟨d, i, hu, hi, hs, h1, h2⟩ := oneT_inv ht
  simp only [isAgg, Sem.run_bind, run_underlying hu, Result.andThen_ok]
  cases d <;> first | rfl | exact absurd rfl (h1 _) | exact absurd rfl (h2 _ _)
theorem run_sizeOf_oneT {t : TypeId} (ht : oneT P t = true) : (sizeOf t).run P w = .ok 1 w := by
  obtain ⟨d, i, hu, hi, hs, h1, h2⟩ := oneT_inv ht
  simp [sizeOf, typeInfo, hi, hs]

theorem r_load {d t x ty p af g b o v} (hx : a.eval x = .pointer (some ⟨b, o, none⟩)) (ht : oneT P t = true) (hc : w.cell? ⟨b, o, none⟩ = some v) (h : runOps P Q r (a.put (some d) v) w) :
    runOps P Q (⟨some d, .load t x, ty, p, af, g⟩ :: r) a w := by
  refine st ?_
  simp only [Oper.wp, execOp, hx, Instr.loadAt, Instr.sureAddr, loadVar, Sem.run_bind, Sem.run_pure, run_isAgg_oneT ht, Result.andThen_ok, run_load, hc, Oper.upon_value]
  simp
  simp only [hc, Result.andThen_ok, Oper.upon_value]
  exact h

end
end Go.Km
