/- A calculus of weakest preconditions over codes whose positions are struck, and rules for single operations, over any program. -/
import Derived.Calls
import Derived.Laws.AppendOwn
import Derived.Laws.MakeOwn
import Derived.ScopeJumps
import Derived.Below
import Derived.KernelRfl
namespace Go.Km
open Go

/-! ## codes without positions -/
def bareD (o : Oper) : Oper := { o with pos := "" }
def bareO (o : Oper) : Oper := { o with pos := "", after := #[] }
def bare : Code → Code
  | .region _ ops false => .region 0 (ops.toList.map bareO).toArray false
  | .region _ ops true => .region 0 (ops.toList.map bareD).toArray true
  | .seq a b => .seq (bare a) (bare b)
  | .cond c a b => .cond c (bare a) (bare b)
  | .block id b => .block id (bare b)
  | .loop b => .loop (bare b)
  | .scope b => .scope (bare b)
  | c => c

/-! ## the calculus -/
def vc (P : Program) : Code → (Exit → Act → World → Prop) → Act → World → Prop
  | .skip, Q, a, w => Q .normal a w
  | .region _ ops false, Q, a, w => wpOps P ops Q (List.range ops.size) a w
  | .region _ ops true, Q, a, w => ∀ t, wpOps P ops Q (Region.schedule (P.follows .mixedOrders) ops t) a { w with drawn := w.drawn + 1 }
  | .seq x y, Q, a, w => vc P x (Exit.then (vc P y Q) Q) a w
  | .cond c x y, Q, a, w => ∃ t, a.eval c = .bool t ∧ (t = true → vc P x Q a w) ∧ (t = false → vc P y Q a w)
  | .block id b, Q, a, w => vc P b (Exit.inBlock id Q) a w
  | .loop b, Q, a, w => ∃ (I : Act → World → Prop) (μ : Act → World → Nat), I a w ∧
      ∀ a w, I a w → vc P b (Exit.then (fun a' w' => I a' w' ∧ μ a' w' < μ a w) Q) a w
  | .exit id, Q, a, w => Q (.exit id) a w
  | .ret, Q, a, w => Q .ret a w
  | .label _, Q, a, w => Q .normal a w
  | .goto l, Q, a, w => Q (.goto l) a w
  | .scope b, Q, a, w => vc P b (Exit.noGoto Q) a w
  | _, _, _, _ => False

theorem vc_sound {P : Program} (c : Code) : ∀ {Q : Exit → Act → World → Prop} {a : Act} {w : World}, vc P c Q a w → c.wp P Q a w := by
  induction c with
  | skip => exact fun h => wp_skip h
  | region id ops d =>
    cases d
    · exact fun h => wp_region h
    · exact fun h => wp_region_draw h
  | seq x y ihx ihy =>
    intro Q a w h
    refine wp_seq (wp_mono (ihx h) ?_)
    intro e a w h
    cases e <;> first | exact ihy h | exact h
  | cond c x y ihx ihy =>
    rintro Q a w ⟨t, ht, h1, h2⟩
    exact wp_cond_split ht (fun h => ihx (h1 h)) (fun h => ihy (h2 h))
  | block id b ih => exact fun h => wp_block (ih h)
  | loop b ih =>
    rintro Q a w ⟨I, μ, h0, hr⟩
    exact wp_loop I μ h0 (fun a w h => ih (hr a w h))
  | exit id => exact fun h => wp_exit h
  | ret => exact fun h => wp_ret h
  | label l => exact fun h => wp_label h
  | goto l => exact fun h => wp_goto h
  | scope b ih => exact fun h => wp_scope_straight (ih h)
  | rangeFunc => exact fun h => h.elim
  | refuse => exact fun h => h.elim

/-- What `bare` keeps of an operation. -/
structure Alike (o o' : Oper) : Prop where
  dst : o'.dst = o.dst
  op : o'.op = o.op
  type : o'.type = o.type
  guard : o'.guard = o.guard

theorem alike_wp {P : Program} {o o' : Oper} (h : Alike o o') : Oper.wp P o' = Oper.wp P o := by
  obtain ⟨d, p, t, g⟩ := h
  cases o; cases o'
  simp only at d p t g
  subst d; subst p; subst t; subst g
  rfl
theorem alike_asks {P : Program} {o o' : Oper} (h : Alike o o') : Oper.asks P o' = Oper.asks P o := by
  obtain ⟨d, p, t, g⟩ := h
  cases o; cases o'
  simp only at d p t g
  subst d; subst p; subst t; subst g
  rfl

theorem wpOps_map {P : Program} {ops : Array Oper} {f : Oper → Oper} (hf : ∀ o, Alike o (f o)) {Q : Exit → Act → World → Prop} (l : List Nat) :
    ∀ {a : Act} {w : World}, wpOps P (ops.toList.map f).toArray Q l a w → wpOps P ops Q l a w := by
  have hy : ∀ tmps, yielded (ops.toList.map f).toArray tmps = yielded ops tmps := by
    intro tmps
    funext j
    unfold yielded
    simp only [List.getElem?_toArray, List.getElem?_map, Array.getElem?_toList]
    cases h : ops[j]? with
    | none => rfl
    | some o => simp [(hf o).dst]
  induction l with
  | nil => exact fun h => h
  | cons i r ih =>
    intro a w h
    simp only [wpOps, List.getElem?_toArray, List.getElem?_map, Array.getElem?_toList] at h ⊢
    cases ho : ops[i]? with
    | none => simp only [ho, Option.map_none] at h; exact ih h
    | some o =>
      simp only [ho, Option.map_some, hy] at h
      have hw : Region.wanted (f o) (yielded ops a.tmps) = Region.wanted o (yielded ops a.tmps) := by
        unfold Region.wanted; rw [(hf o).guard]
      rw [hw] at h
      simp only
      split
      · rename_i hc
        rw [if_pos hc, alike_wp (hf o), alike_asks (hf o)] at h
        rcases h with h | h
        · left
          unfold Oper.wp at h ⊢
          revert h
          generalize (execOp a.eval o).run P w = res
          intro h
          unfold Oper.upon at h ⊢
          split at h <;> first
            | exact ih h
            | exact h
            | (exact Calls.mono h (fun e w' hh => by cases e <;> first | exact ih hh | exact hh))
            | (exact Rows.mono h (fun _ _ hh => ih hh))
        · exact .inr h
      · rename_i hc
        rw [if_neg hc, (hf o).dst] at h
        exact ih h


theorem bareO_alike (o : Oper) : Alike o (bareO o) := ⟨rfl, rfl, rfl, rfl⟩
theorem bareD_alike (o : Oper) : Alike o (bareD o) := ⟨rfl, rfl, rfl, rfl⟩

theorem linearise_bareD (m : Region.Mode) (ops : Array Oper) (t : Nat) : Region.linearise m (ops.toList.map bareD).toArray t = Region.linearise m ops t := by
  unfold Region.linearise
  have hs : (ops.toList.map bareD).toArray.size = ops.size := by simp
  rw [hs]
  have key : ∀ (fuel t : Nat) (listed : Array Bool) (acc : List Nat), Region.linearise.go m (ops.toList.map bareD).toArray fuel t listed acc = Region.linearise.go m ops fuel t listed acc := by
    intro fuel
    induction fuel with
    | zero => intros; rfl
    | succ n ih =>
      intro t listed acc
      simp only [Region.linearise.go, hs]
      have : ∀ i : Nat, (((ops.toList.map bareD).toArray[i]?).map (fun o : Oper => o.after.all fun e => !Region.binds m e || listed.getD e.on false)).getD false = ((ops[i]?).map (fun o : Oper => o.after.all fun e => !Region.binds m e || listed.getD e.on false)).getD false := by
        intro i
        simp only [List.getElem?_toArray, List.getElem?_map, Array.getElem?_toList]
        cases ops[i]? <;> rfl
      simp only [this, ih]
  exact key _ _ _ _

theorem departs_bareD (ops : Array Oper) : Region.departs (ops.toList.map bareD).toArray = Region.departs ops := by
  unfold Region.departs
  simp only [List.any_map, ← Array.any_toList]
  rfl

theorem schedule_bareD (b : Bool) (ops : Array Oper) (t : Nat) : Region.schedule b (ops.toList.map bareD).toArray t = Region.schedule b ops t := by
  unfold Region.schedule
  simp only [linearise_bareD, departs_bareD]

theorem vc_mono {P : Program} (c : Code) : ∀ {Q Q' : Exit → Act → World → Prop} {a : Act} {w : World}, vc P c Q a w → (∀ e a w, Q e a w → Q' e a w) → vc P c Q' a w := by
  have ops_mono : ∀ (ops : Array Oper) (Q Q' : Exit → Act → World → Prop) (_ : ∀ e a w, Q e a w → Q' e a w) (l : List Nat) (a : Act) (w : World), wpOps P ops Q l a w → wpOps P ops Q' l a w := by
    intro ops Q Q' hq l
    have hout : LetsOut Q → LetsOut Q' := fun ⟨a, w, h⟩ => ⟨a, w, hq _ _ _ h⟩
    induction l with
    | nil => exact fun a w h => hq _ _ _ h
    | cons i r ih =>
      intro a w h
      simp only [wpOps] at h ⊢
      cases ho : ops[i]? with
      | none => simp only [ho] at h; exact ih _ _ h
      | some o =>
        simp only [ho] at h
        simp only
        split
        · rename_i hc
          rw [if_pos hc] at h
          rcases h with h | ⟨h1, h2⟩
          · left
            unfold Oper.wp at h ⊢
            revert h
            generalize (execOp a.eval o).run P w = res
            intro h
            unfold Oper.upon at h ⊢
            split at h <;> first
              | exact ih _ _ h
              | exact hq _ _ _ h
              | exact h
              | (exact Calls.mono h (fun e w' hh => by cases e <;> first | exact ih _ _ hh | exact hq _ _ _ hh | exact hout hh))
              | (exact Rows.mono h (fun _ _ hh => ih _ _ hh))
          · exact .inr ⟨h1, hout h2⟩
        · rename_i hc
          rw [if_neg hc] at h
          exact ih _ _ h
  have key : ∀ (c : Code) {Q Q' : Exit → Act → World → Prop} {a : Act} {w : World}, vc P c Q a w → (∀ e a w, Q e a w → Q' e a w) → vc P c Q' a w := by
    intro c
    induction c with
    | skip => exact fun h hq => hq _ _ _ h
    | region id ops d =>
      cases d
      · exact fun h hq => ops_mono ops _ _ hq _ _ _ h
      · exact fun h hq t => ops_mono ops _ _ hq _ _ _ (h t)
    | seq x y ihx ihy => exact fun h hq => ihx h (fun e a w h => by cases e <;> first | exact ihy h hq | exact hq _ _ _ h)
    | cond c x y ihx ihy => exact fun ⟨t, ht, h1, h2⟩ hq => ⟨t, ht, fun h => ihx (h1 h) hq, fun h => ihy (h2 h) hq⟩
    | block id b ih => exact fun h hq => ih h (fun e a w h => by
        cases e with
        | exit i => simp only [Exit.inBlock] at h ⊢; split <;> (rename_i hc; simp only [hc, if_true, if_false] at h; exact hq _ _ _ h)
        | _ => exact hq _ _ _ h)
    | loop b ih => exact fun ⟨I, μ, h0, hr⟩ hq => ⟨I, μ, h0, fun a w h => ih (hr a w h) (fun e a w h => by cases e <;> first | exact h | exact hq _ _ _ h)⟩
    | exit id => exact fun h hq => hq _ _ _ h
    | ret => exact fun h hq => hq _ _ _ h
    | label l => exact fun h hq => hq _ _ _ h
    | goto l => exact fun h hq => hq _ _ _ h
    | scope b ih => exact fun h hq => ih h (fun e a w h => by cases e <;> first | exact h | exact hq _ _ _ h)
    | rangeFunc => exact fun h => h.elim
    | refuse => exact fun h => h.elim
  exact @key c

theorem vc_bare {P : Program} (c : Code) : ∀ {Q : Exit → Act → World → Prop} {a : Act} {w : World}, vc P (bare c) Q a w → vc P c Q a w := by
  induction c with
  | region id ops d =>
    intro Q a w h
    cases d
    · simp only [bare, vc, List.size_toArray, List.length_map, Array.length_toList] at h ⊢
      exact wpOps_map bareO_alike _ h
    · simp only [bare, vc, schedule_bareD] at h ⊢
      exact fun t => wpOps_map bareD_alike _ (h t)
  | seq x y ihx ihy =>
    intro Q a w h
    simp only [bare, vc] at h ⊢
    exact vc_mono x (ihx h) (fun e a w h => by cases e <;> first | exact ihy h | exact h)
  | cond c x y ihx ihy =>
    intro Q a w h
    simp only [bare, vc] at h ⊢
    obtain ⟨t, ht, h1, h2⟩ := h
    exact ⟨t, ht, fun h => ihx (h1 h), fun h => ihy (h2 h)⟩
  | block id b ih => intro Q a w h; simp only [bare, vc] at h ⊢; exact ih h
  | loop b ih => intro Q a w h; simp only [bare, vc] at h ⊢; obtain ⟨I, μ, h0, hr⟩ := h; exact ⟨I, μ, h0, fun a w h => ih (hr a w h)⟩
  | scope b ih => intro Q a w h; simp only [bare, vc] at h ⊢; exact ih h
  | skip => exact fun h => h
  | exit id => exact fun h => h
  | ret => exact fun h => h
  | label l => exact fun h => h
  | goto l => exact fun h => h
  | rangeFunc => exact fun h => h
  | refuse => exact fun h => h

/-- Function f of the program has this (bare) text. -/
structure Text (P : Program) (f : FuncId) (nparams ntmps : Nat) (res : Array ResultVar) (c : Code) : Prop where
  text : ∃ fn, P.funcs[f]? = some fn ∧ fn.body.map bare = some c ∧ fn.ntmps = ntmps ∧ fn.results = res ∧ fn.name ≠ "runtime.NumGoroutine"

/-- A call of f enters its body. -/
def Enters (P : Program) (f : FuncId) : Prop := ∀ args w, (callFunc f args).run P w = .ok (.enter f args) w

theorem Text.enters {P : Program} {f : FuncId} {np nt : Nat} {res : Array ResultVar} {c : Code} (h : Text P f np nt res c) : Enters P f := by
  obtain ⟨fn, h1, h2, _, _, h5⟩ := h.text
  intro args w
  have hb : fn.body ≠ none := by intro hh; simp [hh] at h2
  simp [callFunc, h1, h5, hb]

/-- The call returns a value, of which S holds. -/
def CallsV (P : Program) (f : FuncId) (args : Array Value) (w : World) (S : Value → World → Prop) : Prop :=
  Enters P f ∧ Calls P f args w fun e w' => ∃ v, e = .returned v ∧ S v w'

theorem CallsV.mono {P : Program} {f : FuncId} {args : Array Value} {w : World} {S S' : Value → World → Prop} (h : CallsV P f args w S) (hs : ∀ v w', S v w' → S' v w') : CallsV P f args w S' :=
  ⟨h.1, h.2.mono fun _ _ ⟨v, e, s⟩ => ⟨v, e, hs _ _ s⟩⟩

/-- At the end of a body: the results. -/
def Ends (P : Program) (res : Array ResultVar) (S : Value → World → Prop) (a : Act) (w : World) : Prop :=
  a.defers = [] ∧ ∃ v, (results { (default : Func) with results := res } a.tmps).run P w = .ok v w ∧ S v w
/-- The exits of a body that returns. -/
def Out (P : Program) (res : Array ResultVar) (S : Value → World → Prop) : Exit → Act → World → Prop
  | .normal, a, w | .ret, a, w => Ends P res S a w
  | _, _, _ => False

theorem CallsV.of_vc {P : Program} {f : FuncId} {np nt : Nat} {res : Array ResultVar} {c : Code} (ht : Text P f np nt res c) {args : Array Value} {w : World} {S : Value → World → Prop}
    (h : vc P c (Out P res S) { tmps := args ++ Array.replicate (nt - args.size) undef, defers := [] } w) : CallsV P f args w S := by
  refine ⟨ht.enters, ?_⟩
  obtain ⟨fn, h1, h2, h3, h4, _⟩ := ht.text
  cases hb : fn.body with
  | none => simp [hb] at h2
  | some c0 =>
    simp only [hb, Option.map_some, Option.some.injEq] at h2
    subst h2; subst h3; subst h4
    refine calls_of_wp h1 hb (vc_sound _ (vc_bare _ (vc_mono _ h ?_)))
    intro e a w h
    have hres : ∀ t, results { (default : Func) with results := fn.results } t = results fn t := fun t => rfl
    cases e with
    | normal => exact ⟨h.1, let ⟨v, hv, hs⟩ := h.2; ⟨v, (hres _) ▸ hv, v, rfl, hs⟩⟩
    | ret => exact ⟨h.1, let ⟨v, hv, hs⟩ := h.2; ⟨v, (hres _) ▸ hv, v, rfl, hs⟩⟩
    | _ => exact h.elim

end Go.Km
