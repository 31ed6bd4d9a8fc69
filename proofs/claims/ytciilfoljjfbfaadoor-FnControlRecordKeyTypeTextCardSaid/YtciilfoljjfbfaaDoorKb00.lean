/- A calculus of weakest preconditions over codes whose positions are struck, and rules for single operations, over any program. Rules for single operations, over any program; frames by their slots. Memory: which cells a call may have written. More rules for single operations. The shapes of kmsg's messages, and the code that its generator writes for them. The texts of the functions of kbin that write (printed by a program from the translation). The texts of the functions of kbin that read (printed by a program from the translation). The texts of the functions of the spec (printed by a program from the translation). What kmsg's messages say, as data; what is written of data; how data lie in memory. No program in sight but for memory. The statements of AppendTo, one by one. More rules: append of whatever, slices laid out, struct values; guarded regions; regions that draw their order. The loop 'for i := range x' of AppendTo. What AppendTo writes: for every shape of a message. What AppendTo writes: tags, fields, lists, structs; every shape. What AppendTo writes: lists, structs; every shape; the whole function. What AppendTo writes: every shape; the whole function. What kbin's functions that write do. What kbin's functions that write do: texts, octets, counts. What kbin's AppendUvarint does. Tags: how many; the writing of none. All of kbin's writing together. What the small functions of the spec do. What the small functions of the spec do: Uvarint, width, counted, version. The trees and the fields of the spec in memory; has, null, whole, things, at, Same. whole, things, at, Same. Same. The reader: its state; what its methods have in common. binary.BigEndian. The reader's methods for numbers. Bodies that jump forward to a label. kbin.Uvarint, and the reader's Uvarint. The reader's Uvarint, Span, Int8, Bool, Int64, Ok. The reader's other methods. The reader's methods for texts, octets, counts. The reader's methods for octets and counts. What the spec's functions compute, in plain Lean. The reader: a list is made; what is read, as a plain function. kmsg's Default: what it does to the cells of a struct. kmsg's small functions: Default, NewPtr, MaxVersion, SetVersion. The reader's walk: what is asked of the shapes, the state, the leaves. All of kbin's reading together. The reader's walk: the leaves. The reader's walk: a leaf into memory; a struct. The reader's Uuid. The reader's walk: a list's head. The reader's walk: a list. The reader's walk: a list's head and loop. The reader's walk: lists. The reader's walk: a list as a whole. The reader's walk: the fields of a struct. readFrom, ReadFrom. ReadFrom; a message is read and written again. The plain law, first part: numbers are read as they were written; what is read stays so if more follows. The plain law, second part: what is written is read. The plain law, third part: what is read can be written, in no more octets. The laws 'what is read of any octets ..': over any program. Rows of laws: what the arguments give; how they are left; what a listed error gives. Over any program. -/
import Derived.Calls
import Derived.Laws.AppendOwn
import Derived.Laws.MakeOwn
import Derived.ScopeJumps
import Derived.Below
import Derived.KernelRfl
import Derived.Deep.AppendSrc
import Derived.Great.FillDense
import Derived.OrdersHeld
import Derived.IntWalk
import Derived.Laws.BitsAllLaws
import Derived.Laws.Tables
import Derived.Lib.BufferRead
import Derived.Laws.IdiomStrings
import Derived.Laws.IdiomCopy
import Derived.WalkKit
import Derived.ProofKit
import Derived.OpenShut
import Derived.ChangeSlices
import Derived.LaidLaws
import Derived.Carry
import Derived.MakeChecks
set_option linter.unusedSimpArgs false
set_option linter.unusedVariables false
namespace Go.Km
open Go
@[simp] abbrev oQ (d : Tmp) (x : Op) (t : TypeId) : Oper := ⟨some d, x, t, "", #[], none⟩
def bareD (o : Oper) : Oper := { o with pos := "" }
def bareO (o : Oper) : Oper := { o with pos := "", after := #[] }
def bare : Code → Code
 | .region _ ops false => .region 0 (ops.toList.map bareO).toArray false
 | .region _ ops true => .region 0 (ops.toList.map bareD).toArray true
 | .seq a b => .seq (bare a) (bare b)
 | .cond c a b => .cond c (bare a) (bare b)
 | .block id b => .block id (bare b)
 | .loop b => .loop (bare b)
 | .scope b => .scope (bare b)
 | c => c
def vc (P : Program) : Code → (Exit → Act → World → Prop) → Act → World → Prop
 | .skip, Q, a, w => Q .normal a w
 | .region _ ops false, Q, a, w => wpOps P ops Q (List.range ops.size) a w
 | .region _ ops true, Q, a, w => ∀ t, wpOps P ops Q (Region.schedule (P.follows .mixedOrders) ops t) a { w with drawn := w.drawn + 1 }
 | .seq x y, Q, a, w => vc P x (Exit.then (vc P y Q) Q) a w
 | .cond c x y, Q, a, w => ∃ t, a.eval c = .bool t ∧ (t = true → vc P x Q a w) ∧ (t = false → vc P y Q a w)
 | .block id b, Q, a, w => vc P b (Exit.inBlock id Q) a w
 | .loop b, Q, a, w => ∃ (I : Act → World → Prop) (μ : Act → World → Nat), I a w ∧
   ∀ a w, I a w → vc P b (Exit.then (fun a' w' => I a' w' ∧ μ a' w' < μ a w) Q) a w
 | .exit id, Q, a, w => Q (.exit id) a w
 | .ret, Q, a, w => Q .ret a w
 | .label _, Q, a, w => Q .normal a w
 | .goto l, Q, a, w => Q (.goto l) a w
 | .scope b, Q, a, w => vc P b (Exit.noGoto Q) a w
 | _, _, _, _ => False
theorem vc_sound {P : Program} (c : Code) : ∀ {Q : Exit → Act → World → Prop} {a : Act} {w : World}, vc P c Q a w → c.wp P Q a w := by
 induction c with
 | skip => exact fun h => wp_skip h
 | region id ops d =>
  cases d
  ·exact fun h => wp_region h
  ·exact fun h => wp_region_draw h
 | seq x y ihx ihy =>
  intro Q a w h
  refine wp_seq (wp_mono (ihx h) ?_)
  intro e a w h
  cases e <;> first | exact ihy h | exact h
 | cond c x y ihx ihy =>
  rintro Q a w ⟨t, ht, h1, h2⟩
  exact wp_cond_split ht (fun h => ihx (h1 h)) (fun h => ihy (h2 h))
 | block id b ih => exact fun h => wp_block (ih h)
 | loop b ih =>
  rintro Q a w ⟨I, μ, h0, hr⟩
  exact wp_loop I μ h0 (fun a w h => ih (hr a w h))
 | exit id => exact fun h => wp_exit h
 | ret => exact fun h => wp_ret h
 | label l => exact fun h => wp_label h
 | goto l => exact fun h => wp_goto h
 | scope b ih => exact fun h => wp_scope_straight (ih h)
 | rangeFunc => exact fun h => h.elim
 | refuse => exact fun h => h.elim
structure Alike (o o' : Oper) : Prop where
 dst : o'.dst = o.dst
 op : o'.op = o.op
 type : o'.type = o.type
 guard : o'.guard = o.guard
theorem alike_wp {P : Program} {o o' : Oper} (h : Alike o o') : Oper.wp P o' = Oper.wp P o := by
 obtain ⟨d, p, t, g⟩ := h
 cases o; cases o'
 simp only at d p t g
 subst d; subst p; subst t; subst g
 rfl
theorem alike_asks {P : Program} {o o' : Oper} (h : Alike o o') : Oper.asks P o' = Oper.asks P o := by
 obtain ⟨d, p, t, g⟩ := h
 cases o; cases o'
 simp only at d p t g
 subst d; subst p; subst t; subst g
 rfl
theorem wpOps_map {P : Program} {ops : Array Oper} {f : Oper → Oper} (hf : ∀ o, Alike o (f o)) {Q : Exit → Act → World → Prop} (l : List Nat) :
  ∀ {a : Act} {w : World}, wpOps P (ops.toList.map f).toArray Q l a w → wpOps P ops Q l a w := by
 have hy : ∀ tmps, yielded (ops.toList.map f).toArray tmps = yielded ops tmps := by
  intro tmps
  funext j
  unfold yielded
  simp only [List.getElem?_toArray, List.getElem?_map, Array.getElem?_toList]
  cases h : ops[j]? with
  | none => rfl
  | some o => simp [(hf o).dst]
 induction l with
 | nil => exact fun h => h
 | cons i r ih =>
  intro a w h
  simp only [wpOps, List.getElem?_toArray, List.getElem?_map, Array.getElem?_toList] at h ⊢
  cases ho : ops[i]? with
  | none => simp only [ho, Option.map_none] at h; exact ih h
  | some o =>
   simp only [ho, Option.map_some, hy] at h
   have hw : Region.wanted (f o) (yielded ops a.tmps) = Region.wanted o (yielded ops a.tmps) := by
    unfold Region.wanted; rw [(hf o).guard]
   rw [hw] at h
   simp only
   split
   ·rename_i hc
    rw [if_pos hc, alike_wp (hf o), alike_asks (hf o)] at h
    rcases h with h | h
    ·left
     unfold Oper.wp at h ⊢
     revert h
     generalize (execOp a.eval o).run P w = res
     intro h
     unfold Oper.upon at h ⊢
     split at h <;> first
      | exact ih h
      | exact h
      | (exact Calls.mono h (fun e w' hh => by cases e <;> first | exact ih hh | exact hh))
      | (exact Rows.mono h (fun _ _ hh => ih hh))
    ·exact .inr h
   ·rename_i hc
    rw [if_neg hc, (hf o).dst] at h
    exact ih h
theorem bareO_alike (o : Oper) : Alike o (bareO o) := ⟨rfl, rfl, rfl, rfl⟩
theorem bareD_alike (o : Oper) : Alike o (bareD o) := ⟨rfl, rfl, rfl, rfl⟩
theorem linearise_bareD (m : Region.Mode) (ops : Array Oper) (t : Nat) : Region.linearise m (ops.toList.map bareD).toArray t = Region.linearise m ops t := by
 unfold Region.linearise
 have hs : (ops.toList.map bareD).toArray.size = ops.size := by simp
 rw [hs]
 have key : ∀ (fuel t : Nat) (listed : Array Bool) (acc : List Nat), Region.linearise.go m (ops.toList.map bareD).toArray fuel t listed acc = Region.linearise.go m ops fuel t listed acc := by
  intro fuel
  induction fuel with
  | zero => intros; rfl
  | succ n ih =>
   intro t listed acc
   simp only [Region.linearise.go, hs]
   have : ∀ i : Nat, (((ops.toList.map bareD).toArray[i]?).map (fun o : Oper => o.after.all fun e => !Region.binds m e || listed.getD e.on false)).getD false = ((ops[i]?).map (fun o : Oper => o.after.all fun e => !Region.binds m e || listed.getD e.on false)).getD false := by
    intro i
    simp only [List.getElem?_toArray, List.getElem?_map, Array.getElem?_toList]
    cases ops[i]? <;> rfl
   simp only [this, ih]
 exact key _ _ _ _
theorem departs_bareD (ops : Array Oper) : Region.departs (ops.toList.map bareD).toArray = Region.departs ops := by
 unfold Region.departs
 simp only [List.any_map, ← Array.any_toList]
 rfl
theorem schedule_bareD (b : Bool) (ops : Array Oper) (t : Nat) : Region.schedule b (ops.toList.map bareD).toArray t = Region.schedule b ops t := by
 unfold Region.schedule
 simp only [linearise_bareD, departs_bareD]
theorem vc_mono {P : Program} (c : Code) : ∀ {Q Q' : Exit → Act → World → Prop} {a : Act} {w : World}, vc P c Q a w → (∀ e a w, Q e a w → Q' e a w) → vc P c Q' a w := by
 have ops_mono : ∀ (ops : Array Oper) (Q Q' : Exit → Act → World → Prop) (_ : ∀ e a w, Q e a w → Q' e a w) (l : List Nat) (a : Act) (w : World), wpOps P ops Q l a w → wpOps P ops Q' l a w := by
  intro ops Q Q' hq l
  have hout : LetsOut Q → LetsOut Q' := fun ⟨a, w, h⟩ => ⟨a, w, hq _ _ _ h⟩
  induction l with
  | nil => exact fun a w h => hq _ _ _ h
  | cons i r ih =>
   intro a w h
   simp only [wpOps] at h ⊢
   cases ho : ops[i]? with
   | none => simp only [ho] at h; exact ih _ _ h
   | some o =>
    simp only [ho] at h
    simp only
    split
    ·rename_i hc
     rw [if_pos hc] at h
     rcases h with h | ⟨h1, h2⟩
     ·left
      unfold Oper.wp at h ⊢
      revert h
      generalize (execOp a.eval o).run P w = res
      intro h
      unfold Oper.upon at h ⊢
      split at h <;> first
       | exact ih _ _ h
       | exact hq _ _ _ h
       | exact h
       | (exact Calls.mono h (fun e w' hh => by cases e <;> first | exact ih _ _ hh | exact hq _ _ _ hh | exact hout hh))
       | (exact Rows.mono h (fun _ _ hh => ih _ _ hh))
     ·exact .inr ⟨h1, hout h2⟩
    ·rename_i hc
     rw [if_neg hc] at h
     exact ih _ _ h
 have key : ∀ (c : Code) {Q Q' : Exit → Act → World → Prop} {a : Act} {w : World}, vc P c Q a w → (∀ e a w, Q e a w → Q' e a w) → vc P c Q' a w := by
  intro c
  induction c with
  | skip => exact fun h hq => hq _ _ _ h
  | region id ops d =>
   cases d
   ·exact fun h hq => ops_mono ops _ _ hq _ _ _ h
   ·exact fun h hq t => ops_mono ops _ _ hq _ _ _ (h t)
  | seq x y ihx ihy => exact fun h hq => ihx h (fun e a w h => by cases e <;> first | exact ihy h hq | exact hq _ _ _ h)
  | cond c x y ihx ihy => exact fun ⟨t, ht, h1, h2⟩ hq => ⟨t, ht, fun h => ihx (h1 h) hq, fun h => ihy (h2 h) hq⟩
  | block id b ih => exact fun h hq => ih h (fun e a w h => by
    cases e with
    | exit i => simp only [Exit.inBlock] at h ⊢; split <;> (rename_i hc; simp only [hc, if_true, if_false] at h; exact hq _ _ _ h)
    | _ => exact hq _ _ _ h)
  | loop b ih => exact fun ⟨I, μ, h0, hr⟩ hq => ⟨I, μ, h0, fun a w h => ih (hr a w h) (fun e a w h => by cases e <;> first | exact h | exact hq _ _ _ h)⟩
  | exit id => exact fun h hq => hq _ _ _ h
  | ret => exact fun h hq => hq _ _ _ h
  | label l => exact fun h hq => hq _ _ _ h
  | goto l => exact fun h hq => hq _ _ _ h
  | scope b ih => exact fun h hq => ih h (fun e a w h => by cases e <;> first | exact h | exact hq _ _ _ h)
  | rangeFunc => exact fun h => h.elim
  | refuse => exact fun h => h.elim
 exact @key c
theorem vc_bare {P : Program} (c : Code) : ∀ {Q : Exit → Act → World → Prop} {a : Act} {w : World}, vc P (bare c) Q a w → vc P c Q a w := by
 induction c with
 | region id ops d =>
  intro Q a w h
  cases d
  ·simp only [bare, vc, List.size_toArray, List.length_map, Array.length_toList] at h ⊢
   exact wpOps_map bareO_alike _ h
  ·simp only [bare, vc, schedule_bareD] at h ⊢
   exact fun t => wpOps_map bareD_alike _ (h t)
 | seq x y ihx ihy =>
  intro Q a w h
  simp only [bare, vc] at h ⊢
  exact vc_mono x (ihx h) (fun e a w h => by cases e <;> first | exact ihy h | exact h)
 | cond c x y ihx ihy =>
  intro Q a w h
  simp only [bare, vc] at h ⊢
  obtain ⟨t, ht, h1, h2⟩ := h
  exact ⟨t, ht, fun h => ihx (h1 h), fun h => ihy (h2 h)⟩
 | block id b ih => intro Q a w h; simp only [bare, vc] at h ⊢; exact ih h
 | loop b ih => intro Q a w h; simp only [bare, vc] at h ⊢; obtain ⟨I, μ, h0, hr⟩ := h; exact ⟨I, μ, h0, fun a w h => ih (hr a w h)⟩
 | scope b ih => intro Q a w h; simp only [bare, vc] at h ⊢; exact ih h
 | skip => exact fun h => h
 | exit id => exact fun h => h
 | ret => exact fun h => h
 | label l => exact fun h => h
 | goto l => exact fun h => h
 | rangeFunc => exact fun h => h
 | refuse => exact fun h => h
structure Text (P : Program) (f : FuncId) (nparams ntmps : Nat) (res : Array ResultVar) (c : Code) : Prop where
 text : ∃ fn, P.funcs[f]? = some fn ∧ fn.body.map bare = some c ∧ fn.ntmps = ntmps ∧ fn.results = res ∧ fn.name ≠ "runtime.NumGoroutine"
def Enters (P : Program) (f : FuncId) : Prop := ∀ args w, (callFunc f args).run P w = .ok (.enter f args) w
theorem Text.enters {P : Program} {f : FuncId} {np nt : Nat} {res : Array ResultVar} {c : Code} (h : Text P f np nt res c) : Enters P f := by
 obtain ⟨fn, h1, h2, _, _, h5⟩ := h.text
 intro args w
 have hb : fn.body ≠ none := by intro hh; simp [hh] at h2
 simp [callFunc, h1, h5, hb]
def CallsV (P : Program) (f : FuncId) (args : Array Value) (w : World) (S : Value → World → Prop) : Prop :=
 Enters P f ∧ Calls P f args w fun e w' => ∃ v, e = .returned v ∧ S v w'
theorem CallsV.mono {P : Program} {f : FuncId} {args : Array Value} {w : World} {S S' : Value → World → Prop} (h : CallsV P f args w S) (hs : ∀ v w', S v w' → S' v w') : CallsV P f args w S' :=
 ⟨h.1, h.2.mono fun _ _ ⟨v, e, s⟩ => ⟨v, e, hs _ _ s⟩⟩
def Ends (P : Program) (res : Array ResultVar) (S : Value → World → Prop) (a : Act) (w : World) : Prop :=
 a.defers = [] ∧ ∃ v, (results { (default : Func) with results := res } a.tmps).run P w = .ok v w ∧ S v w
def Out (P : Program) (res : Array ResultVar) (S : Value → World → Prop) : Exit → Act → World → Prop
 | .normal, a, w | .ret, a, w => Ends P res S a w
 | _, _, _ => False
theorem CallsV.of_vc {P : Program} {f : FuncId} {np nt : Nat} {res : Array ResultVar} {c : Code} (ht : Text P f np nt res c) {args : Array Value} {w : World} {S : Value → World → Prop}
  (h : vc P c (Out P res S) { tmps := args ++ Array.replicate (nt - args.size) undef, defers := [] } w) : CallsV P f args w S := by
 refine ⟨ht.enters, ?_⟩
 obtain ⟨fn, h1, h2, h3, h4, _⟩ := ht.text
 cases hb : fn.body with
 | none => simp [hb] at h2
 | some c0 =>
  simp only [hb, Option.map_some, Option.some.injEq] at h2
  subst h2; subst h3; subst h4
  refine calls_of_wp h1 hb (vc_sound _ (vc_bare _ (vc_mono _ h ?_)))
  intro e a w h
  have hres : ∀ t, results { (default : Func) with results := fn.results } t = results fn t := fun t => rfl
  cases e with
  | normal => exact ⟨h.1, let ⟨v, hv, hs⟩ := h.2; ⟨v, (hres _) ▸ hv, v, rfl, hs⟩⟩
  | ret => exact ⟨h.1, let ⟨v, hv, hs⟩ := h.2; ⟨v, (hres _) ▸ hv, v, rfl, hs⟩⟩
  | _ => exact h.elim
end Go.Km
namespace Go.Km
open Go
theorem zP (a : Act) (d : Option Tmp) (v : Value) : (a.put d v).tmps.size = a.tmps.size := by
 cases d <;> simp [Act.put]
theorem dF (a : Act) (d : Option Tmp) (v : Value) : (a.put d v).defers = a.defers := by
 cases d <;> rfl
theorem eval_put_same (a : Act) (d : Nat) (v : Value) (h : d < a.tmps.size) : (a.put (some d) v).eval (.tmp d) = v := by
 simp [Act.put, Act.eval, Array.getD_eq_getD_getElem?, h]
theorem eval_put_ne (a : Act) (d t : Nat) (v : Value) (h : d ≠ t) : (a.put (some d) v).eval (.tmp t) = a.eval (.tmp t) := by
 simp [Act.put, Act.eval, Array.getD_eq_getD_getElem?, h]
theorem eval_const (a : Act) (v : Value) : a.eval (.const v) = v := rfl
theorem eS (a : Act) (d : Nat) (v : Value) (h : d < a.tmps.size) : (a.put (some d) v).eval (.tmp d) = v := eval_put_same a d v h
theorem eN (a : Act) (d t : Nat) (v : Value) (h : d ≠ t) : (a.put (some d) v).eval (.tmp t) = a.eval (.tmp t) := eval_put_ne a d t v h
theorem eC (a : Act) (v : Value) : a.eval (.const v) = v := rfl
theorem sP (a : Act) (d : Option Tmp) (v : Value) : (a.put d v).tmps.size = a.tmps.size := zP a d v
theorem eV (a : Act) : (∀ (d : Nat) (v : Value), d < a.tmps.size → (a.put (some d) v).eval (.tmp d) = v) ∧ (∀ (d t : Nat) (v : Value), d ≠ t → (a.put (some d) v).eval (.tmp t) = a.eval (.tmp t)) ∧ ∀ v : Value, a.eval (.const v) = v := ⟨eS a, eN a, eC a⟩
theorem lM {α β : Type} (f : α → β) : (∀ l : List α, l.toArray.map f = (l.map f).toArray) ∧ (∀ a l, (a :: l).map f = f a :: l.map f) ∧ ([] : List α).map f = [] := ⟨fun _ => by simp, fun _ _ => rfl, rfl⟩
structure Fr (K : Nat → Prop) (a a' : Act) : Prop where
 size : a'.tmps.size = a.tmps.size
 defers : a'.defers = a.defers
 slot : ∀ k, K k → a'.eval (.tmp k) = a.eval (.tmp k)
theorem Fr.refl (K : Nat → Prop) (a : Act) : Fr K a a := ⟨rfl, rfl, fun _ _ => rfl⟩
theorem Fr.trans {K : Nat → Prop} {a b c : Act} (h : Fr K a b) (h' : Fr K b c) : Fr K a c :=
 ⟨h'.size.trans h.size, h'.defers.trans h.defers, fun k hk => (h'.slot k hk).trans (h.slot k hk)⟩
theorem Fr.mono {K K' : Nat → Prop} {a b : Act} (h : Fr K a b) (hm : ∀ k, K' k → K k) : Fr K' a b := ⟨h.size, h.defers, fun k hk => h.slot k (hm k hk)⟩
theorem Fr.put {K : Nat → Prop} {a b : Act} (h : Fr K a b) {d : Nat} (v : Value) (hd : ¬ K d) : Fr K a (b.put (some d) v) :=
 ⟨(zP _ _ _).trans h.size, (dF _ _ _).trans h.defers, fun k hk => (eval_put_ne _ d k _ (fun e => hd (by rw [e]; exact hk))).trans (h.slot k hk)⟩
def rO_ (P : Program) (Q : Exit → Act → World → Prop) : List Oper → Act → World → Prop
 | [], a, w => Q .normal a w
 | o :: r, a, w => o.wp P a w (rO_ P Q r) Q
theorem st {P : Program} {Q : Exit → Act → World → Prop} {o : Oper} {r : List Oper} {a : Act} {w : World} (h : o.wp P a w (rO_ P Q r) Q) : rO_ P Q (o :: r) a w := h
theorem dn {P : Program} {Q : Exit → Act → World → Prop} {a : Act} {w : World} (h : Q .normal a w) : rO_ P Q [] a w := h
theorem vc_run {P : Program} {Q : Exit → Act → World → Prop} {id : Nat} {l : List Oper} {a : Act} {w : World} (hg : ∀ o ∈ l, o.guard = none) (h : rO_ P Q l a w) :
  vc P (.region id l.toArray false) Q a w := by
 simp only [vc, List.size_toArray]
 have key : ∀ (suf pre : List Oper) (a : Act) (w : World), l = pre ++ suf → rO_ P Q suf a w → wpOps P l.toArray Q (List.range' pre.length suf.length) a w := by
  intro suf
  induction suf with
  | nil => exact fun pre a w _ h => h
  | cons o r ih =>
   intro pre a w hl h
   have hi : l.toArray[pre.length]? = some o := by simp [hl]
   simp only [List.length_cons, List.range'_succ, wpOps, hi]
   have ho : o.guard = none := hg o (by simp [hl])
   have hw : ∀ y, Region.wanted o y = true := fun y => by simp [Region.wanted, ho]
   rw [if_pos (hw _)]
   left
   have hn : ∀ a w, rO_ P Q r a w → wpOps P l.toArray Q (List.range' (pre.length + 1) r.length) a w := by
    intro a w h
    have := ih (pre ++ [o]) a w (by simp [hl]) h
    simpa using this
   simp only [rO_] at h
   unfold Oper.wp at h ⊢
   revert h
   generalize (execOp a.eval o).run P w = res
   intro h
   unfold Oper.upon at h ⊢
   split at h <;> first
    | exact hn _ _ h
    | exact h
    | (exact Calls.mono h (fun e w' hh => by cases e <;> first | exact hn _ _ hh | exact hh))
    | (exact Rows.mono h (fun _ _ hh => hn _ _ hh))
 have := key l [] a w rfl h
 simpa [List.range_eq_range'] using this
section
variable {P : Program} {a : Act} {w : World} {r : List Oper} {Q : Exit → Act → World → Prop}
theorem rM {d x t p af g} (h : rO_ P Q r (a.put (some d) (a.eval x)) w) : rO_ P Q (⟨some d, .move x, t, p, af, g⟩ :: r) a w := h
theorem rA {d x t p af g} (h : rO_ P Q r (a.put (some d) (a.eval x)) w) : rO_ P Q (⟨some d, .assign x, t, p, af, g⟩ :: r) a w := h
theorem r_nil {d x t p af g ad} (hx : a.eval x = .pointer (some ad)) (h : rO_ P Q r (a.put (some d) (.pointer (some ad))) w) : rO_ P Q (⟨some d, .nilCheck x, t, p, af, g⟩ :: r) a w := by
 refine st ?_
 simp only [Oper.wp, execOp, hx, Sem.run_pure, Oper.upon_value]
 exact h
def fieldOff (P : Program) (s : TypeId) (f : Nat) : Option Nat :=
 match P.underlying s with
 | some (.struct fs) => match fs[f]? with
  | some fd => match P.info? fd.type with
   | some i => if i.size = 0 then none else some fd.offset
   | none => none
  | none => none
 | _ => none
theorem run_fieldAt {s f off b o} (hf : fieldOff P s f = some off) : (Instr.fieldAt s (.pointer (some ⟨b, o, none⟩)) f).run P w = .ok (.pointer (some ⟨b, o + off, none⟩)) w := by
 unfold fieldOff at hf
 split at hf <;> try cases hf
 rename_i fs hu
 split at hf <;> try cases hf
 rename_i fd hfd
 split at hf <;> try cases hf
 rename_i i hi
 split at hf <;> try cases hf
 rename_i hz
 simp [Instr.fieldAt, run_underlying hu, hfd, Instr.sureAddr, fieldPlace, sizeOf, typeInfo, hi, hz, Addr.add_lit]
theorem rF {d s x f t p af g b o off} (hx : a.eval x = .pointer (some ⟨b, o, none⟩)) (hf : fieldOff P s f = some off) (h : rO_ P Q r (a.put (some d) (.pointer (some ⟨b, o + off, none⟩))) w) :
  rO_ P Q (⟨some d, .fieldAddr s x f, t, p, af, g⟩ :: r) a w := by
 refine st ?_
 simp only [Oper.wp, execOp, hx, Sem.run_bind, run_fieldAt hf, Result.andThen_ok, Sem.run_pure, Oper.upon_value]
 exact h
def oneT (P : Program) (t : TypeId) : Bool :=
 match P.underlying t, P.info? t with
 | some (.struct _), _ => false
 | some (.array _ _), _ => false
 | some _, some i => i.size == 1
 | _, _ => false
theorem oneT_inv {t : TypeId} (ht : oneT P t = true) : ∃ d i, P.underlying t = some d ∧ P.info? t = some i ∧ i.size = 1 ∧ (∀ fs, d ≠ .struct fs) ∧ (∀ n e, d ≠ .array n e) := by
 unfold oneT at ht
 cases hu : P.underlying t with
 | none => simp [hu] at ht
 | some d =>
  cases hi : P.info? t with
  | none => cases d <;> simp [hu, hi] at ht
  | some i =>
   rw [hu, hi] at ht
   refine ⟨d, i, rfl, rfl, ?_, ?_, ?_⟩ <;> cases d <;> simp_all
theorem run_isAgg_oneT {t : TypeId} (ht : oneT P t = true) : (isAgg t).run P w = .ok false w := by
 obtain ⟨d, i, hu, hi, hs, h1, h2⟩ := oneT_inv ht
 simp only [isAgg, Sem.run_bind, run_underlying hu, Result.andThen_ok]
 cases d <;> first | rfl | exact absurd rfl (h1 _) | exact absurd rfl (h2 _ _)
theorem run_sizeOf_oneT {t : TypeId} (ht : oneT P t = true) : (sizeOf t).run P w = .ok 1 w := by
 obtain ⟨d, i, hu, hi, hs, h1, h2⟩ := oneT_inv ht
 simp [sizeOf, typeInfo, hi, hs]
theorem rL {d t x ty p af g b o v} (hx : a.eval x = .pointer (some ⟨b, o, none⟩)) (ht : oneT P t = true) (hc : w.cell? ⟨b, o, none⟩ = some v) (h : rO_ P Q r (a.put (some d) v) w) :
  rO_ P Q (⟨some d, .load t x, ty, p, af, g⟩ :: r) a w := by
 refine st ?_
 simp only [Oper.wp, execOp, hx, Instr.loadAt, Instr.sureAddr, loadVar, Sem.run_bind, Sem.run_pure, run_isAgg_oneT ht, Result.andThen_ok, run_load, hc, Oper.upon_value]
 simp
 simp only [hc, Result.andThen_ok, Oper.upon_value]
 exact h
end
end Go.Km
namespace Go.Km
open Go Go.RowKit
def BlkKeep (m : Nat → Prop) : Option Obj → Option Obj → Prop
 | some (.cells c T f), o' => ∃ c', o' = some (.cells c' T f) ∧ c'.size = c.size ∧ ∀ i, ¬ m i → c'[i]? = c[i]?
 | o, o' => o' = o
theorem BlkKeep.refl (m : Nat → Prop) (o : Option Obj) : BlkKeep m o o := by
 unfold BlkKeep
 split
 ·exact ⟨_, rfl, rfl, fun _ _ => rfl⟩
 ·rfl
theorem BlkKeep.of_eq {m : Nat → Prop} {o o' : Option Obj} (h : o' = o) : BlkKeep m o o' := h ▸ BlkKeep.refl m o
theorem BlkKeep.trans {m : Nat → Prop} {a b c : Option Obj} (h : BlkKeep m a b) (h' : BlkKeep m b c) : BlkKeep m a c := by
 unfold BlkKeep at h
 split at h
 ·obtain ⟨c1, rfl, hs, hc⟩ := h
  simp only [BlkKeep] at h'
  obtain ⟨c2, rfl, hs', hc'⟩ := h'
  exact ⟨c2, rfl, hs'.trans hs, fun i hi => (hc' i hi).trans (hc i hi)⟩
 ·subst h; exact h'
theorem BlkKeep.mono {m m' : Nat → Prop} {a b : Option Obj} (h : BlkKeep m a b) (hm : ∀ i, m i → m' i) : BlkKeep m' a b := by
 unfold BlkKeep at h ⊢
 split at h
 ·obtain ⟨c1, rfl, hs, hc⟩ := h
  exact ⟨c1, rfl, hs, fun i hi => hc i (fun hh => hi (hm i hh))⟩
 ·exact h
theorem BlkKeep.eq {m : Nat → Prop} {a b : Option Obj} (h : BlkKeep m a b) (hm : ∀ i, ¬ m i) : b = a := by
 unfold BlkKeep at h
 split at h
 ·obtain ⟨c1, rfl, hs, hc⟩ := h
  congr 2
  apply Array.ext_getElem?
  exact fun i => hc i (hm i)
 ·exact h
structure Eff (M : Nat → Nat → Prop) (w w' : World) : Prop where
 os : w'.os = w.os
 tape : w'.tape = w.tape
 output : w'.output = w.output
 size : w.heap.size ≤ w'.heap.size
 block : ∀ k, k < w.heap.size → BlkKeep (M k) w.heap[k]? w'.heap[k]?
abbrev Grow (w w' : World) : Prop := Eff (fun _ _ => False) w w'
theorem Eff.refl (M : Nat → Nat → Prop) (w : World) : Eff M w w := ⟨rfl, rfl, rfl, Nat.le_refl _, fun _ _ => BlkKeep.refl _ _⟩
theorem Eff.trans {M : Nat → Nat → Prop} {a b c : World} (h : Eff M a b) (k : Eff M b c) : Eff M a c :=
 ⟨k.os.trans h.os, k.tape.trans h.tape, k.output.trans h.output, Nat.le_trans h.size k.size,
  fun i hi => (h.block i hi).trans (k.block i (Nat.lt_of_lt_of_le hi h.size))⟩
theorem Eff.mono {M M' : Nat → Nat → Prop} {a b : World} (h : Eff M a b) (hm : ∀ k i, k < a.heap.size → M k i → M' k i) : Eff M' a b :=
 ⟨h.os, h.tape, h.output, h.size, fun k hk => (h.block k hk).mono (fun i => hm k i hk)⟩
theorem Eff.trans' {M M' : Nat → Nat → Prop} {a b c : World} (h : Eff M a b) (k : Eff M' b c) (hm : ∀ k i, k < a.heap.size → M' k i → M k i) : Eff M a c :=
 ⟨k.os.trans h.os, k.tape.trans h.tape, k.output.trans h.output, Nat.le_trans h.size k.size,
  fun i hi => (h.block i hi).trans ((k.block i (Nat.lt_of_lt_of_le hi h.size)).mono (fun j => hm i j hi))⟩
theorem Eff.drew {M : Nat → Nat → Prop} {a w : World} (h : Eff M a w) : Eff M a w.drew := ⟨h.os, h.tape, h.output, h.size, h.block⟩
theorem Eff.drawn {M : Nat → Nat → Prop} {a w : World} (h : Eff M a w) (n : Nat) : Eff M a { w with drawn := n } := ⟨h.os, h.tape, h.output, h.size, h.block⟩
theorem Eff.alloc {M : Nat → Nat → Prop} {a w : World} (h : Eff M a w) (o : Obj) : Eff M a (w.alloc o) :=
 h.trans ⟨rfl, rfl, rfl, by simp, fun k hk => BlkKeep.of_eq (Below.heap_alloc w o k hk)⟩
theorem blk_setCell (w : World) (b o : Nat) (v : Value) (k : Nat) : BlkKeep (fun i => k = b ∧ i = o) w.heap[k]? (w.setCell ⟨b, o, none⟩ v).heap[k]? := by
 simp only [World.setCell, Array.getElem?_modify]
 by_cases hk : b = k
 ·subst hk
  simp only [if_true]
  cases hh : w.heap[b]? with
  | none => exact BlkKeep.refl _ _
  | some x =>
   cases x with
   | cells c T f =>
    refine ⟨_, rfl, by simp, fun i hi => ?_⟩
    have : o ≠ i := fun e => hi (by first | exact ⟨trivial, e.symm⟩ | exact ⟨rfl, e.symm⟩)
    simp [this]
   | _ => exact BlkKeep.refl _ _
 ·simp only [if_neg hk]
  exact BlkKeep.refl _ _
theorem Eff.setCell {M : Nat → Nat → Prop} {a w : World} (h : Eff M a w) (b o : Nat) (v : Value) (hb : b < a.heap.size → M b o) : Eff M a (w.setCell ⟨b, o, none⟩ v) := by
 refine h.trans' (M' := fun k i => k = b ∧ i = o) ⟨rfl, rfl, rfl, by simp, fun k _ => blk_setCell w b o v k⟩ ?_
 rintro k i hk ⟨rfl, rfl⟩
 exact hb hk
theorem Eff.blockEq {M : Nat → Nat → Prop} {w w' : World} (h : Eff M w w') {k : Nat} (hk : k < w.heap.size) (hm : ∀ i, ¬ M k i) : w'.heap[k]? = w.heap[k]? := (h.block k hk).eq hm
theorem Eff.below {M : Nat → Nat → Prop} {w w' : World} (h : Eff M w w') {B : Nat} (hB : B ≤ w.heap.size) (hm : ∀ k i, k < B → ¬ M k i) : Below B w w' :=
 ⟨h.os, h.tape, h.output, h.size, fun k hk => h.blockEq (Nat.lt_of_lt_of_le hk hB) (fun i => hm k i hk)⟩
theorem Grow.below {w w' : World} (h : Grow w w') : Below w.heap.size w w' := Eff.below h (Nat.le_refl _) (fun _ _ _ h => h)
theorem Grow.eff {M : Nat → Nat → Prop} {w w' : World} (h : Grow w w') : Eff M w w' := Eff.mono h (fun _ _ _ h => h.elim)
theorem lt_of_cell {w : World} {b o : Nat} {v : Value} (h : w.cell? ⟨b, o, none⟩ = some v) : b < w.heap.size := World.block_lt_of_cell? w _ h
theorem BlkKeep.cell {m : Nat → Prop} {w w' : World} {b : Nat} (h : BlkKeep m w.heap[b]? w'.heap[b]?) {o : Nat} (hm : ¬ m o) : w'.cell? ⟨b, o, none⟩ = w.cell? ⟨b, o, none⟩ := by
 unfold BlkKeep at h
 split at h
 ·rename_i c T f hc
  obtain ⟨c', hc', hs, hi⟩ := h
  simp [World.cell?, hc, hc', hi o hm]
 ·simp [World.cell?, h]
theorem Eff.cell {M : Nat → Nat → Prop} {w w' : World} (h : Eff M w w') {b o : Nat} (hb : b < w.heap.size) (hm : ¬ M b o) : w'.cell? ⟨b, o, none⟩ = w.cell? ⟨b, o, none⟩ :=
 (h.block b hb).cell hm
theorem Eff.cellSome {M : Nat → Nat → Prop} {w w' : World} (h : Eff M w w') {b o : Nat} {v : Value} (hc : w.cell? ⟨b, o, none⟩ = some v) (hm : ¬ M b o) : w'.cell? ⟨b, o, none⟩ = some v :=
 (h.cell (lt_of_cell hc) hm).trans hc
theorem Eff.there {M : Nat → Nat → Prop} {w w' : World} (h : Eff M w w') {b o : Nat} (hc : (w.cell? ⟨b, o, none⟩).isSome = true) : (w'.cell? ⟨b, o, none⟩).isSome = true := by
 obtain ⟨v, hv⟩ := Option.isSome_iff_exists.1 hc
 have hk := h.block b (lt_of_cell hv)
 unfold World.cell? at hv ⊢
 simp only at hv ⊢
 split at hv
 ·rename_i c T f hh
  rw [hh] at hk
  obtain ⟨c', hc', hs, _⟩ := hk
  simp only [hc'] 
  simp only [Option.isSome_none, Bool.false_eq_true, if_false] at hv ⊢
  have : o < c.size := by
   rcases Nat.lt_or_ge o c.size with h | h
   ·exact h
   ·simp [Array.getElem?_eq_none h] at hv
  simp [hs, this]
 ·cases hv
theorem Eff.frozen {M : Nat → Nat → Prop} {w w' : World} (h : Eff M w w') {b o : Nat} (hb : b < w.heap.size) : w'.frozen? ⟨b, o, none⟩ = w.frozen? ⟨b, o, none⟩ := by
 have hk := h.block b hb
 unfold BlkKeep at hk
 split at hk
 ·rename_i c T f hc
  obtain ⟨c', hc', _, _⟩ := hk
  simp [World.frozen?, hc, hc']
 ·simp [World.frozen?, hk]
def Free (w : World) (b o : Nat) : Prop := (w.cell? ⟨b, o, none⟩).isSome = true ∧ w.frozen? ⟨b, o, none⟩ = false
theorem Free.lt {w : World} {b o : Nat} (h : Free w b o) : b < w.heap.size := by
 obtain ⟨v, hv⟩ := Option.isSome_iff_exists.1 h.1
 exact lt_of_cell hv
theorem Free.eff {M : Nat → Nat → Prop} {w w' : World} {b o : Nat} (h : Free w b o) (he : Eff M w w') : Free w' b o := ⟨he.there h.1, (he.frozen h.lt).trans h.2⟩
theorem free_new (w : World) (c : Array Value) (T : TypeId) {i : Nat} (hi : i < c.size) : Free (w.alloc (.cells c T)) w.heap.size i := by
 constructor
 ·rw [World.cell?_alloc_new]
  simp [hi]
 ·have h : (w.alloc (.cells c T)).heap[w.heap.size]? = some (.cells c T) := heap_alloc_new w _
  unfold World.frozen?
  simp only [h]
  simp
theorem cells_new (w : World) (c : Array Value) (T : TypeId) {i : Nat} {v : Value} (hi : c[i]? = some v) : (w.alloc (.cells c T)).cell? ⟨w.heap.size, i, none⟩ = some v := by
 rw [World.cell?_alloc_new]
 exact hi
theorem cell_setCell_same {w : World} {b o : Nat} (v : Value) (h : (w.cell? ⟨b, o, none⟩).isSome = true) : (w.setCell ⟨b, o, none⟩ v).cell? ⟨b, o, none⟩ = some v := by
 obtain ⟨u, hu⟩ := Option.isSome_iff_exists.1 h
 exact World.cell?_setCell_same w _ _ hu
def setCells (w : World) (b o : Nat) : List Value → World
 | [] => w
 | v :: r => setCells (w.setCell ⟨b, o, none⟩ v) b (o + 1) r
theorem setCells_eff (b : Nat) : ∀ (vs : List Value) (w : World) (o : Nat), Eff (fun k i => k = b ∧ o ≤ i ∧ i < o + vs.length) w (setCells w b o vs)
 | [], w, _ => Eff.refl _ w
 | v :: r, w, o => by
  have h1 : Eff (fun k i => k = b ∧ o ≤ i ∧ i < o + (v :: r).length) w (w.setCell ⟨b, o, none⟩ v) := (Eff.refl _ w).setCell b o v (fun _ => ⟨rfl, Nat.le_refl _, by simp⟩)
  refine h1.trans' (setCells_eff b r _ (o + 1)) ?_
  rintro k i _ ⟨rfl, h2, h3⟩
  exact ⟨rfl, by omega, by simp only [List.length_cons]; omega⟩
theorem setCells_cell (b : Nat) : ∀ (vs : List Value) (w : World) (o : Nat), (∀ i, i < vs.length → (w.cell? ⟨b, o + i, none⟩).isSome = true) →
  ∀ i v, vs[i]? = some v → (setCells w b o vs).cell? ⟨b, o + i, none⟩ = some v
 | [], _, _, _, i, v, h => by simp at h
 | u :: r, w, o, ht, i, v, h => by
  have h0 := ht 0 (by simp)
  simp only [Nat.add_zero] at h0
  have he : Eff (fun k i => k = b ∧ i = o) w (w.setCell ⟨b, o, none⟩ u) := (Eff.refl _ w).setCell b o u (fun _ => ⟨rfl, rfl⟩)
  cases i with
  | zero =>
   simp only [List.getElem?_cons_zero, Option.some.injEq] at h
   subst h
   have h1 := cell_setCell_same u h0
   exact (setCells_eff b r _ (o + 1)).cellSome h1 (by rintro ⟨_, h, _⟩; omega)
  | succ i =>
   simp only [List.getElem?_cons_succ] at h
   have := setCells_cell b r (w.setCell ⟨b, o, none⟩ u) (o + 1) (fun j hj => he.there (by have := ht (j + 1) (by simp; omega); rwa [show o + (j + 1) = o + 1 + j by omega] at this)) i v h
   rwa [show o + 1 + i = o + (i + 1) by omega] at this
theorem run_storeCells {P : Program} (b : Nat) : ∀ (vs : List Value) (w : World) (o i : Nat), (∀ j, j < vs.length → Free w b (o + i + j)) → (∀ v ∈ vs, v.oneCell' = true) →
  (storeCells ⟨b, o, none⟩ vs i).run P w = .ok () (setCells w b (o + i) vs)
 | [], _, _, _, _, _ => rfl
 | v :: r, w, o, i, hf, h1 => by
  have h0 := hf 0 (by simp)
  simp only [Nat.add_zero] at h0
  obtain ⟨u, hu⟩ := Option.isSome_iff_exists.1 h0.1
  have he : Eff (fun k j => k = b ∧ j = o + i) w (w.setCell ⟨b, o + i, none⟩ v) := (Eff.refl _ w).setCell b (o + i) v (fun _ => ⟨rfl, rfl⟩)
  have ih := run_storeCells (P := P) b r (w.setCell ⟨b, o + i, none⟩ v) o (i + 1) (fun j hj => (by
   have := hf (j + 1) (by simp; omega)
   rw [show o + i + (j + 1) = o + (i + 1) + j by omega] at this
   exact this.eff he)) (fun x hx => h1 x (by simp [hx]))
  simp only [storeCells, Addr.add_lit, Sem.run_bind, run_store P w _ _ _ (h1 v (by simp)), hu, h0.2, Bool.false_eq_true, if_false, Result.andThen_ok]
  rw [ih]
  rfl
section
variable {P : Program} {a : Act} {w : World} {r : List Oper} {Q : Exit → Act → World → Prop}
theorem r_store {t x y ty p af g b o v} (hx : a.eval x = .pointer (some ⟨b, o, none⟩)) (hy : a.eval y = v) (h1 : v.oneCell' = true) (ht : oneT P t = true) (hf : Free w b o)
  (h : rO_ P Q r a (w.setCell ⟨b, o, none⟩ v)) : rO_ P Q (⟨none, .store t x y, ty, p, af, g⟩ :: r) a w := by
 refine st ?_
 have hv : v.cells = #[v] := by cases v <;> first | rfl | simp [Value.oneCell'] at h1
 have hr := run_storeCells (P := P) b [v] w o 0 (fun j hj => by simp at hj; subst hj; simpa using hf) (by simpa using h1)
 simp only [Oper.wp, execOp, hx, hy, Instr.storeAt, Instr.sureAddr, storeVar, Sem.run_bind, Sem.run_pure, run_sizeOf_oneT ht, Result.andThen_ok, hv]
 simp only [List.size_toArray, List.length_cons, List.length_nil, ne_eq, not_true_eq_false, if_false, Nat.zero_add]
 simp only [hr, setCells, Result.andThen_ok, Oper.upon_skip, Nat.add_zero]
 exact h
end
end Go.Km
namespace Go.Km
open Go Go.RowKit
def aggT (P : Program) (t : TypeId) : Option Nat :=
 match P.underlying t, P.info? t with
 | some (.struct _), some i => some i.size
 | some (.array _ _), some i => some i.size
 | _, _ => none
def Cells (w : World) (b o : Nat) (cs : List Value) : Prop := ∀ i v, cs[i]? = some v → w.cell? ⟨b, o + i, none⟩ = some v
theorem Cells.nil (w : World) (b o : Nat) : Cells w b o [] := fun i v h => by simp at h
theorem Cells.eff {M : Nat → Nat → Prop} {w w' : World} {b o : Nat} {cs : List Value} (h : Cells w b o cs) (he : Eff M w w') (hm : ∀ i, i < cs.length → ¬ M b (o + i)) : Cells w' b o cs :=
 fun i v hv => he.cellSome (h i v hv) (hm i (by rcases Nat.lt_or_ge i cs.length with h | h; exact h; simp [List.getElem?_eq_none h] at hv))
theorem Cells.get {w : World} {b o : Nat} {cs : List Value} (h : Cells w b o cs) {i : Nat} (hi : i < cs.length) : w.cell? ⟨b, o + i, none⟩ = some cs[i] := h i _ (List.getElem?_eq_getElem hi)
section
variable {P : Program} {a : Act} {w : World} {r : List Oper} {Q : Exit → Act → World → Prop}
theorem aggT_inv {t n} (ht : aggT P t = some n) : (∀ w, (isAgg t).run P w = .ok true w) ∧ (∀ w, (sizeOf t).run P w = .ok n w) := by
 unfold aggT at ht
 cases hu : P.underlying t with
 | none => simp [hu] at ht
 | some d =>
  cases hi : P.info? t with
  | none => cases d <;> simp [hu, hi] at ht
  | some i =>
   rw [hu, hi] at ht
   refine ⟨fun w => ?_, fun w => ?_⟩
   ·simp only [isAgg, Sem.run_bind, run_underlying hu, Result.andThen_ok]
    cases d <;> simp_all
   ·cases d <;> simp_all [sizeOf, typeInfo]
theorem run_loadCells {b o : Nat} {cs : List Value} (h : Cells w b o cs) : (loadCells ⟨b, o, none⟩ cs.length).run P w = .ok cs.toArray w := by
 have key : ∀ (n i : Nat) (acc : Array Value), i + n = cs.length → acc.toList = cs.take i → (loadCellsFrom ⟨b, o, none⟩ i n acc).run P w = .ok cs.toArray w := by
  intro n
  induction n with
  | zero =>
   intro i acc hi ha
   have : acc = cs.toArray := by
    apply Array.ext'
    rw [ha, List.take_of_length_le (by omega)]
   simp [loadCellsFrom, this]
  | succ n ih =>
   intro i acc hi ha
   have hlt : i < cs.length := by omega
   simp only [loadCellsFrom, Addr.add_lit, Sem.run_bind, run_load, h.get hlt, Result.andThen_ok]
   refine ih (i + 1) _ (by omega) ?_
   rw [Array.toList_push, ha, List.take_succ_eq_append_getElem hlt]
 exact key cs.length 0 #[] (by simp) (by simp)
theorem r_loadAgg {d t x ty p af g b o cs} (hx : a.eval x = .pointer (some ⟨b, o, none⟩)) (ht : aggT P t = some cs.length) (hc : Cells w b o cs) (h : rO_ P Q r (a.put (some d) (.agg cs.toArray)) w) :
  rO_ P Q (⟨some d, .load t x, ty, p, af, g⟩ :: r) a w := by
 refine st ?_
 obtain ⟨h1, h2⟩ := aggT_inv ht
 simp only [Oper.wp, execOp, hx, Instr.loadAt, Instr.sureAddr, loadVar, Sem.run_bind, Sem.run_pure, h1, Result.andThen_ok, if_true, h2, run_loadCells hc, Oper.upon_value]
 exact h
theorem r_storeAgg {t x y ty p af g b o} {cs : List Value} (hx : a.eval x = .pointer (some ⟨b, o, none⟩)) (hy : a.eval y = .agg cs.toArray) (h1 : ∀ v ∈ cs, v.oneCell' = true) (ht : aggT P t = some cs.length) (hf : ∀ i, i < cs.length → Free w b (o + i))
  (h : rO_ P Q r a (setCells w b o cs)) : rO_ P Q (⟨none, .store t x y, ty, p, af, g⟩ :: r) a w := by
 refine st ?_
 obtain ⟨_, h2⟩ := aggT_inv ht
 have hr := run_storeCells (P := P) b cs w o 0 (fun j hj => by simpa using hf j hj) h1
 simp only [Oper.wp, execOp, hx, hy, Instr.storeAt, Instr.sureAddr, storeVar, Sem.run_bind, Sem.run_pure, h2, Result.andThen_ok, Value.cells]
 simp only [List.size_toArray, ne_eq, not_true_eq_false, if_false, hr, Nat.add_zero, Result.andThen_ok, Oper.upon_skip]
 exact h
theorem r_call {d f xs ts ty p af g} {S : Value → World → Prop} (h : CallsV P f (xs.map a.eval) w S) (hn : ∀ v w', S v w' → rO_ P Q r (a.put d v) w') :
  rO_ P Q (⟨d, .call { callee := .value (.func f), args := xs, argTypes := ts }, ty, p, af, g⟩ :: r) a w := by
 refine st ?_
 obtain ⟨he, hc⟩ := h
 have := he (#[] ++ xs.map a.eval ++ #[]) w
 simp only [Array.empty_append, Array.append_empty] at this
 simp only [Oper.wp, execOp, resolve, Act.eval, Deferred.ofValue, Sem.run_bind, Sem.run_pure, Result.andThen_ok, invoke, Array.empty_append, Array.append_empty]
 have h2 : (callFunc f (xs.map a.eval)).run P w = .ok (.enter f (xs.map a.eval)) w := this
 have h3 : (callFunc f (xs.map (Act.eval a))).run P w = .ok (.enter f (xs.map a.eval)) w := this
 simp only [Oper.upon, h3]
 refine hc.mono ?_
 rintro e w' ⟨v, rfl, hs⟩
 exact hn v w' hs
theorem r_call' {d f xs ts ty p af g args} {S : Value → World → Prop} (hx : xs.map a.eval = args) (h : CallsV P f args w S) (hn : ∀ v w', S v w' → rO_ P Q r (a.put d v) w') :
  rO_ P Q (⟨d, .call { callee := .value (.func f), args := xs, argTypes := ts }, ty, p, af, g⟩ :: r) a w := r_call (hx ▸ h) hn
theorem r_cmp {d op xt x y yt ty p af g k m n} {res : Bool} (hx : a.eval x = .int k m) (hy : a.eval y = .int k n) (ho : Op.intCmp op m n = pure (.bool res)) (hop : op = .eql ∨ op = .neq ∨ op = .lss ∨ op = .leq ∨ op = .gtr ∨ op = .geq)
  (h : rO_ P Q r (a.put (some d) (.bool res)) w) : rO_ P Q (⟨some d, .binOp op xt x y yt, ty, p, af, g⟩ :: r) a w := by
 refine st ?_
 have hg : ∀ (x y : Operand), eqGuard op xt x y (.int k m) (.int k n) = pure () := fun x y => by cases op <;> rfl
 have hb : binOp op xt (.int k m) (.int k n) = Op.intCmp op m n := by rcases hop with h | h | h | h | h | h <;> subst h <;> simp [binOp]
 simp only [Oper.wp, execOp, hx, hy, hg, hb, ho, Sem.run_bind, Sem.run_pure, Result.andThen_ok, Oper.upon_value]
 exact h
theorem r_lss {d xt x y yt ty p af g k m n} (hx : a.eval x = .int k m) (hy : a.eval y = .int k n) (h : rO_ P Q r (a.put (some d) (.bool (decide (m < n)))) w) : rO_ P Q (⟨some d, .binOp .lss xt x y yt, ty, p, af, g⟩ :: r) a w :=
 r_cmp hx hy rfl (by simp) h
theorem r_leq {d xt x y yt ty p af g k m n} (hx : a.eval x = .int k m) (hy : a.eval y = .int k n) (h : rO_ P Q r (a.put (some d) (.bool (decide (m ≤ n)))) w) : rO_ P Q (⟨some d, .binOp .leq xt x y yt, ty, p, af, g⟩ :: r) a w :=
 r_cmp hx hy rfl (by simp) h
theorem r_gtr {d xt x y yt ty p af g k m n} (hx : a.eval x = .int k m) (hy : a.eval y = .int k n) (h : rO_ P Q r (a.put (some d) (.bool (decide (m > n)))) w) : rO_ P Q (⟨some d, .binOp .gtr xt x y yt, ty, p, af, g⟩ :: r) a w :=
 r_cmp hx hy rfl (by simp) h
theorem r_geq {d xt x y yt ty p af g k m n} (hx : a.eval x = .int k m) (hy : a.eval y = .int k n) (h : rO_ P Q r (a.put (some d) (.bool (decide (m ≥ n)))) w) : rO_ P Q (⟨some d, .binOp .geq xt x y yt, ty, p, af, g⟩ :: r) a w :=
 r_cmp hx hy rfl (by simp) h
theorem r_eql {d xt x y yt ty p af g k m n} (hx : a.eval x = .int k m) (hy : a.eval y = .int k n) (h : rO_ P Q r (a.put (some d) (.bool (m == n))) w) : rO_ P Q (⟨some d, .binOp .eql xt x y yt, ty, p, af, g⟩ :: r) a w :=
 r_cmp hx hy rfl (by simp) h
theorem r_neq {d xt x y yt ty p af g k m n} (hx : a.eval x = .int k m) (hy : a.eval y = .int k n) (h : rO_ P Q r (a.put (some d) (.bool (m != n))) w) : rO_ P Q (⟨some d, .binOp .neq xt x y yt, ty, p, af, g⟩ :: r) a w :=
 r_cmp hx hy rfl (by simp) h
theorem r_add {d xt x y yt ty p af g k m n} (hx : a.eval x = .int k m) (hy : a.eval y = .int k n) (h : rO_ P Q r (a.put (some d) (.int k (k.wrap (m + n)))) w) : rO_ P Q (⟨some d, .binOp .add xt x y yt, ty, p, af, g⟩ :: r) a w := by
 refine st ?_
 simp only [Oper.wp, execOp, hx, hy, eqGuard_at_int, binOp_add, Op.intArith, Sem.run_bind, Sem.run_pure, Result.andThen_ok, Oper.upon_value]
 exact h
theorem r_sub {d xt x y yt ty p af g k m n} (hx : a.eval x = .int k m) (hy : a.eval y = .int k n) (h : rO_ P Q r (a.put (some d) (.int k (k.wrap (m - n)))) w) : rO_ P Q (⟨some d, .binOp .sub xt x y yt, ty, p, af, g⟩ :: r) a w := by
 refine st ?_
 simp only [Oper.wp, execOp, hx, hy, eqGuard_at_int, binOp_sub, Op.intArith, Sem.run_bind, Sem.run_pure, Result.andThen_ok, Oper.upon_value]
 exact h
theorem r_not {d xt x ty p af g b} (hx : a.eval x = .bool b) (h : rO_ P Q r (a.put (some d) (.bool (!b))) w) : rO_ P Q (⟨some d, .unOp .not xt x, ty, p, af, g⟩ :: r) a w := by
 refine st ?_
 simp only [Oper.wp, execOp, hx, Op.unary, Sem.run_bind, Sem.run_pure, Result.andThen_ok, Oper.upon_value]
 exact h
def intT (P : Program) (t : TypeId) : Option IntKind :=
 match P.underlying t with
 | some (.int k) => some k
 | _ => none
theorem intT_inv {t k} (h : intT P t = some k) : P.underlying t = some (.int k) := by
 unfold intT at h
 split at h
 ·rename_i k' hu; cases h; exact hu
 ·cases h
theorem r_conv {d s t x ty p af g k k' m} (hs : intT P s = some k) (ht : intT P t = some k') (hx : a.eval x = .int k m) (h : rO_ P Q r (a.put (some d) (.int k' (k'.wrap m))) w) :
  rO_ P Q (⟨some d, .convert s t x, ty, p, af, g⟩ :: r) a w := by
 refine st ?_
 have : (convert s t (.int k m)).run P w = .ok (.int k' (k'.wrap m)) w := by
  simp [convert, run_underlying (intT_inv hs), run_underlying (intT_inv ht), Conv.intToInt]
 simp only [Oper.wp, execOp, hx, Sem.run_bind, this, Sem.run_pure, Result.andThen_ok, Oper.upon_value]
 exact h
def sliceT (P : Program) (t : TypeId) : Option (TypeId × Nat) :=
 match P.underlying t with
 | some (.slice e) => match P.info? e with
  | some i => some (e, i.size)
  | none => none
 | _ => none
theorem sliceT_inv {t e s} (h : sliceT P t = some (e, s)) : P.underlying t = some (.slice e) ∧ ∃ i, P.info? e = some i ∧ i.size = s := by
 unfold sliceT at h
 split at h
 ·rename_i e' hu
  split at h
  ·rename_i i hi
   cases h
   exact ⟨hu, i, hi, rfl⟩
  ·cases h
 ·cases h
theorem run_sizeOf_elem {t e s} (h : sliceT P t = some (e, s)) : (sizeOf e).run P w = .ok s w := by
 obtain ⟨_, i, hi, rfl⟩ := sliceT_inv h
 simp [sizeOf, typeInfo, hi]
theorem r_len {d x t ty p af g e s ad n c} (ht : sliceT P t = some (e, s)) (hx : a.eval x = .slice ad n c) (h : rO_ P Q r (a.put (some d) (.int .i64 n)) w) :
  rO_ P Q (⟨some d, .call { callee := .builtin .len, args := #[x], argTypes := #[t] }, ty, p, af, g⟩ :: r) a w := by
 refine st ?_
 obtain ⟨hu, _⟩ := sliceT_inv ht
 have : (Builtin.len_ #[t] ty #[a.eval x]).run P w = .ok (.int .i64 n) w := by simp [Builtin.len_, run_underlying hu, hx, goInt]
 simp only [Oper.wp, execOp, resolve, invoke, builtin, Sem.run_bind, Sem.run_pure, Result.andThen_ok, List.map_toArray, List.map_cons, List.map_nil, this, Oper.upon_value]
 exact h
theorem r_lenStr {d x t ty p af g s} (ht : P.underlying t = some .string) (hx : a.eval x = .string s) (h : rO_ P Q r (a.put (some d) (.int .i64 s.size)) w) :
  rO_ P Q (⟨some d, .call { callee := .builtin .len, args := #[x], argTypes := #[t] }, ty, p, af, g⟩ :: r) a w := by
 refine st ?_
 have : (Builtin.len_ #[t] ty #[a.eval x]).run P w = .ok (.int .i64 s.size) w := by simp [Builtin.len_, run_underlying ht, hx, goInt]
 simp only [Oper.wp, execOp, resolve, invoke, builtin, Sem.run_bind, Sem.run_pure, Result.andThen_ok, List.map_toArray, List.map_cons, List.map_nil, this, Oper.upon_value]
 exact h
theorem r_index {d t x i ty p af g e s b o len cap k} {j : Nat} (ht : sliceT P t = some (e, s)) (hx : a.eval x = .slice (some ⟨b, o, none⟩) len cap) (hi : a.eval i = .int k (j : Int)) (hj : j < len)
  (h : rO_ P Q r (a.put (some d) (.pointer (some ⟨b, o + j * s, none⟩))) w) : rO_ P Q (⟨some d, .indexAddr t x i, ty, p, af, g⟩ :: r) a w := by
 refine st ?_
 obtain ⟨hu, _⟩ := sliceT_inv ht
 have : (Instr.indexAt t (a.eval x) (a.eval i)).run P w = .ok (.pointer (some ⟨b, o + j * s, none⟩)) w := by
  have hj' : (0 : Int) ≤ j ∧ (j : Int) < len := ⟨by omega, by omega⟩
  simp [Instr.indexAt, run_underlying hu, hx, hi, asIntOf, hj', run_sizeOf_elem ht, Addr.add_lit, hj]
 simp only [Oper.wp, execOp, Sem.run_bind, this, Sem.run_pure, Result.andThen_ok, Oper.upon_value]
 exact h
theorem run_sliceBound {k : IntKind} {n y : Nat} {code : BoundsCode} (h : n ≤ y) : (Instr.sliceBound (.int k (n : Int)) y code).run P w = .ok n w := by
 have : (0 : Int) ≤ n ∧ (n : Int) ≤ y := ⟨by omega, by omega⟩
 simp [Instr.sliceBound, asIntOf, this]
theorem r_slice {d t x lo hi mx ty p af g e s ad len cap} (l h m : Nat) (ht : sliceT P t = some (e, s)) (hx : a.eval x = .slice ad len cap)
  (hl : match lo with | none => l = 0 | some y => ∃ k, a.eval y = .int k (l : Int)) (hh : match hi with | none => h = len ∧ mx = none | some y => ∃ k, a.eval y = .int k (h : Int))
  (hm : match mx with | none => m = cap | some y => ∃ k, a.eval y = .int k (m : Int)) (h1 : l ≤ h) (h2 : h ≤ m) (h3 : m ≤ cap)
  (hn : rO_ P Q r (a.put (some d) (.slice (if m = l then ad else ad.map (·.add (l * s))) (h - l) (m - l))) w) : rO_ P Q (⟨some d, .slice t x lo hi mx, ty, p, af, g⟩ :: r) a w := by
 refine st ?_
 obtain ⟨hu, _⟩ := sliceT_inv ht
 have hb : (Instr.sliceBounds true len cap (lo.map a.eval) (hi.map a.eval) (mx.map a.eval)).run P w = .ok (l, h, m) w := by
  cases lo with
  | none =>
   subst hl
   cases hi with
   | none => obtain ⟨rfl, rfl⟩ := hh; subst hm; simp [Instr.sliceBounds]
   | some y =>
    obtain ⟨k, hy⟩ := hh
    cases mx with
    | none => subst hm; simp [Instr.sliceBounds, hy, run_sliceBound h2]
    | some z => obtain ⟨k', hz⟩ := hm; simp [Instr.sliceBounds, hy, hz, run_sliceBound h2, run_sliceBound h3]
  | some u =>
   obtain ⟨ku, hu⟩ := hl
   cases hi with
   | none => obtain ⟨rfl, rfl⟩ := hh; subst hm; simp [Instr.sliceBounds, hu, run_sliceBound h1]
   | some y =>
    obtain ⟨k, hy⟩ := hh
    cases mx with
    | none => subst hm; simp [Instr.sliceBounds, hu, hy, run_sliceBound h2, run_sliceBound h1]
    | some z => obtain ⟨k', hz⟩ := hm; simp [Instr.sliceBounds, hu, hy, hz, run_sliceBound h2, run_sliceBound h3, run_sliceBound h1]
 have hr : (Instr.sliceAt t (a.eval x) (lo.map a.eval) (hi.map a.eval) (mx.map a.eval)).run P w = .ok (.slice (if m = l then ad else ad.map (·.add (l * s))) (h - l) (m - l)) w := by
  rw [hx]
  simp [Instr.sliceAt, Instr.slice, run_underlying hu, hb, run_sizeOf_elem ht]
 simp only [Oper.wp, execOp, Sem.run_bind, hr, Sem.run_pure, Result.andThen_ok, Oper.upon_value]
 exact hn
theorem map_add (b o n : Nat) : (some (⟨b, o, none⟩ : Addr)).map (·.add n) = some ⟨b, o + n, none⟩ := by simp [Addr.add_lit]
theorem run_newVar {t : TypeId} {v : Value} : (newVar t v).run P w = .ok ⟨w.heap.size, 0, none⟩ (w.alloc (.cells v.cells t)) := by
 simp [newVar, newRow]
def zeroT (P : Program) (t : TypeId) : Option Value := (P.info? t).bind (·.zero)
theorem run_zeroValue {t v} (h : zeroT P t = some v) : (zeroValue t).run P w = .ok v w := by
 unfold zeroT at h
 cases hi : P.info? t with
 | none => simp [hi] at h
 | some i =>
  simp only [hi, Option.bind_some] at h
  simp [zeroValue, typeInfo, hi, h]
theorem r_alloc {d t ty p af g v} (ht : zeroT P t = some v) (hn : rO_ P Q r (a.put (some d) (.pointer (some ⟨w.heap.size, 0, none⟩))) (w.alloc (.cells v.cells t))) :
  rO_ P Q (⟨some d, .alloc t, ty, p, af, g⟩ :: r) a w := by
 refine st ?_
 simp only [Oper.wp, execOp, Instr.alloc, Sem.run_bind, run_zeroValue ht, run_newVar, Sem.run_pure, Result.andThen_ok, Oper.upon_value]
 exact hn
theorem r_box {d t x ty p af g v} (hx : a.eval x = v) (hn : rO_ P Q r (a.put (some d) (.pointer (some ⟨w.heap.size, 0, none⟩))) (w.alloc (.cells v.cells t))) :
  rO_ P Q (⟨some d, .box t x, ty, p, af, g⟩ :: r) a w := by
 refine st ?_
 simp only [Oper.wp, execOp, hx, Instr.box, Sem.run_bind, run_newVar, Sem.run_pure, Result.andThen_ok, Oper.upon_value]
 exact hn
end
section
variable {P : Program} {a : Act} {w : World} {Q : Exit → Act → World → Prop}
theorem vK (h : Q .normal a w) : vc P .skip Q a w := h
theorem vT (h : Q .ret a w) : vc P .ret Q a w := h
theorem vc_exit {id : Nat} (h : Q (.exit id) a w) : vc P (.exit id) Q a w := h
theorem vc_skip_inv (h : vc P .skip Q a w) : Q .normal a w := h
theorem vc_seq {x y : Code} (h : vc P x (Exit.then (vc P y Q) Q) a w) : vc P (.seq x y) Q a w := h
theorem vC {c : Operand} {x y : Code} {t : Bool} (hc : a.eval c = .bool t) (ht : t = true → vc P x Q a w) (hf : t = false → vc P y Q a w) : vc P (.cond c x y) Q a w := ⟨t, hc, ht, hf⟩
theorem vc_block {id : Nat} {b : Code} (h : vc P b (Exit.inBlock id Q) a w) : vc P (.block id b) Q a w := h
theorem vc_loop {b : Code} (I : Act → World → Prop) (μ : Act → World → Nat) (h0 : I a w) (hr : ∀ a w, I a w → vc P b (Exit.then (fun a' w' => I a' w' ∧ μ a' w' < μ a w) Q) a w) : vc P (.loop b) Q a w := ⟨I, μ, h0, hr⟩
theorem vc_draw {id : Nat} {ops : Array Oper} (h : ∀ t, wpOps P ops Q (Region.schedule (P.follows .mixedOrders) ops t) a { w with drawn := w.drawn + 1 }) : vc P (.region id ops true) Q a w := h
theorem vc_ops {id : Nat} {ops : Array Oper} (h : wpOps P ops Q (List.range ops.size) a w) : vc P (.region id ops false) Q a w := h
end
end Go.Km
namespace Go.Km
open Go
inductive Scal where
 | bool | i8 | i16 | i32 | i64 | u16 | f64
 deriving DecidableEq, Repr
inductive Ver where
 | all | ge (n : Nat) | btw (n m : Nat)
 deriving DecidableEq, Repr
mutual
inductive Ty where
 | scal (s : Scal) (df : Int)
 | named (s : Scal) (T : TypeId) (df : Int)
 | uuid
 | text
 | ntext
 | ntextFrom (N : Nat)
 | bytes
 | nbytes
 | list (TS : TypeId) (null : Option Nat) (e : Ty)
 | struct (TP TU : TypeId) (FD : FuncId) (fs : Flds)
inductive Flds where
 | nil (tags : Bool)
 | cons (v : Ver) (t : Ty) (r : Flds)
end
structure Env where
 tErr : TypeId := 0
 tI8 : TypeId := 0
 tI16 : TypeId := 0
 tI32 : TypeId := 0
 tI64 : TypeId := 0
 tU8 : TypeId := 0
 tU16 : TypeId := 0
 tW : TypeId := 0
 tU64 : TypeId := 0
 tO : TypeId := 0
 tF64 : TypeId := 0
 tI : TypeId := 0
 tStr : TypeId := 0
 tPStr : TypeId := 0
 tB : TypeId := 0
 tUuid : TypeId := 0
 tTags : TypeId := 0
 tPTags : TypeId := 0
 tRd : TypeId := 0
 tPRd : TypeId := 0
 rI8 : FuncId := 0
 rI16 : FuncId := 0
 rI32 : FuncId := 0
 rI64 : FuncId := 0
 rU16 : FuncId := 0
 rBool : FuncId := 0
 rF64 : FuncId := 0
 rUuid : FuncId := 0
 rStr : FuncId := 0
 rUStr : FuncId := 0
 rCStr : FuncId := 0
 rUCStr : FuncId := 0
 rNStr : FuncId := 0
 rUNStr : FuncId := 0
 rCNStr : FuncId := 0
 rUCNStr : FuncId := 0
 rBytes : FuncId := 0
 rCBytes : FuncId := 0
 rNBytes : FuncId := 0
 rCNBytes : FuncId := 0
 rLen : FuncId := 0
 rCLen : FuncId := 0
 rOk : FuncId := 0
 rComplete : FuncId := 0
 rTags : FuncId := 0
 wI8 : FuncId := 0
 wI16 : FuncId := 0
 wI32 : FuncId := 0
 wI64 : FuncId := 0
 wU16 : FuncId := 0
 wBool : FuncId := 0
 wF64 : FuncId := 0
 wUuid : FuncId := 0
 wStr : FuncId := 0
 wCStr : FuncId := 0
 wNStr : FuncId := 0
 wCNStr : FuncId := 0
 wBytes : FuncId := 0
 wCBytes : FuncId := 0
 wNBytes : FuncId := 0
 wCNBytes : FuncId := 0
 wLen : FuncId := 0
 wCLen : FuncId := 0
 wNLen : FuncId := 0
 wCNLen : FuncId := 0
 wUvarint : FuncId := 0
 tLen : FuncId := 0
 tEach : FuncId := 0
 tUint : TypeId := 0
 tFld : TypeId := 0
 tFlds : TypeId := 0
 tT : TypeId := 0
 tS : TypeId := 0
 tUnk : TypeId := 0
 tK : TypeId := 0
 tMsg : TypeId := 0
 wU32 : FuncId := 0
 wU64 : FuncId := 0
 uvLen : FuncId := 0
 len32 : FuncId := 0
 sHas : FuncId := 0
 sNull : FuncId := 0
 sWhole : FuncId := 0
 sThings : FuncId := 0
 sAt : FuncId := 0
 sUvar : FuncId := 0
 sFixed : FuncId := 0
 sWidth : FuncId := 0
 sCounted : FuncId := 0
 sValue : FuncId := 0
 sField : FuncId := 0
 sUsual : FuncId := 0
 sKnown : FuncId := 0
 sUnknown : FuncId := 0
 sPart : FuncId := 0
 sDefault : FuncId := 0
 sWrite : FuncId := 0
 sKept : FuncId := 0
 sSame : FuncId := 0
 lVersion : FuncId := 0
 tTagMap : TypeId := 0
 tU32s : TypeId := 0
 tFnTag : TypeId := 0
 tFnLess : TypeId := 0
 tAny : TypeId := 0
 gAll : FuncId := 0
 gEach1 : FuncId := 0
 gAll1 : FuncId := 0
 gSet : FuncId := 0
 sortSlice : FuncId := 0
 rUvar : FuncId := 0
 rSpan : FuncId := 0
 rU64 : FuncId := 0
 kUv : FuncId := 0
 kUs : FuncId := 0
 bU16 : FuncId := 0
 bU32 : FuncId := 0
 bU64 : FuncId := 0
 f64b : FuncId := 0
 f64f : FuncId := 0
 tBE : TypeId := 0
 tUvR : TypeId := 0
 vErr : Nat := 0
 vBE : Nat := 0
def Env.tScal (E : Env) : Scal → TypeId
 | .bool => E.tO | .i8 => E.tI8 | .i16 => E.tI16 | .i32 => E.tI32 | .i64 => E.tI64 | .u16 => E.tU16 | .f64 => E.tF64
def Ty.T (E : Env) : Ty → TypeId
 | .scal s _ => E.tScal s
 | .named _ T _ => T
 | .uuid => E.tUuid
 | .text => E.tStr
 | .ntext | .ntextFrom _ => E.tPStr
 | .bytes | .nbytes => E.tB
 | .list TS _ _ => TS
 | .struct TP _ _ _ => TP
def sq : List Code → Code
 | [] => .skip
 | [c] => c
 | c :: d :: r => .seq c (sq (d :: r))
def rg (l : List Oper) : Code := .region 0 l.toArray false
def i16 (n : Nat) : Operand := .const (.int .i16 n)
def i32 (n : Int) : Operand := .const (.int .i32 n)
def i64 (n : Int) : Operand := .const (.int .i64 n)
structure Cx where
 vs : Nat
 fl : Option Nat
def Ver.nt : Ver → Nat
 | .all => 0 | .ge _ => 2 | .btw _ _ => 6
def Cx.nt (x : Cx) (n : Nat) : Nat := match x.fl with | none => n | some _ => 1 + n + n
def Ty.tp : Ty → Option TypeId
 | .struct TP _ _ _ => some TP
 | _ => none
def Ty.h (t : Ty) : Nat := match t.tp with | some _ => 3 | none => 4
structure Msg where
 TP : TypeId
 TU : TypeId
 FD : FuncId
 flex : Option Nat
 kept : Bool
 fs : Flds
def Scal.kind : Scal → IntKind
 | .i8 => .i8 | .i16 => .i16 | .i32 => .i32 | .i64 => .i64 | .u16 => .u16 | .bool => .u8 | .f64 => .u64
def Scal.val : Scal → Int → Value
 | .bool, n => .bool (n != 0)
 | .f64, n => .float .f64 n.toNat
 | s, n => .int s.kind n
mutual
def Ty.dn : Ty → Nat
 | .struct _ _ _ fs => 1 + fs.dn
 | _ => 0
def Flds.dn : Flds → Nat
 | .nil _ => 0
 | .cons _ t r => t.dn + r.dn
def Ty.dt : Ty → Nat
 | .scal _ df | .named _ _ df => if df = 0 then 0 else 3
 | .struct _ _ _ fs => 4 + fs.dt
 | _ => 0
def Flds.dt : Flds → Nat
 | .nil _ => 0
 | .cons _ t r => t.dt + r.dt
end
def Msg.rs (m : Msg) : Nat := match m.flex with | none => 9 | some _ => 10
end Go.Km
namespace Go.Km
open Go
def rgd (l : List Oper) : Code := .region 0 l.toArray true
end Go.Km
namespace Go.Km
open Go
end Go.Km
namespace Go.Km
open Go
end Go.Km
namespace Go.Km
open Go Go.RowKit
inductive D where
 | int (n : Int)
 | bytes (o : Option (List UInt8))
 | list (o : Option (List D))
 | obj (l : List D) (tags : List (Nat × List UInt8))
 deriving Inhabited
def bv (b : UInt8) : Value := .int .u8 b.toNat
def big : Nat := 2147483000
def Scal.ok : Scal → Int → Prop
 | .bool, n => n = 0 ∨ n = 1
 | .i8, n => -128 ≤ n ∧ n ≤ 127
 | .i16, n => -32768 ≤ n ∧ n ≤ 32767
 | .u16, n => 0 ≤ n ∧ n ≤ 65535
 | .i32, n => -2147483648 ≤ n ∧ n ≤ 2147483647
 | .i64, n => -9223372036854775808 ≤ n ∧ n ≤ 9223372036854775807
 | .f64, n => 0 ≤ n ∧ n < 18446744073709551616
def TagsOk (tags : List (Nat × List UInt8)) : Prop := tags.Pairwise (fun x y => x.1 < y.1) ∧ ∀ x ∈ tags, x.1 < 4294967296
def Ver.has (ver : Nat) : Ver → Bool
 | .all => true
 | .ge n => decide (n ≤ ver)
 | .btw n m => decide (n ≤ ver) && decide (ver ≤ m)
mutual
def Ty.size : Ty → Nat
 | .uuid => 16
 | .struct _ _ _ fs => fs.size
 | _ => 1
def Flds.size : Flds → Nat
 | .nil tags => if tags then 1 else 0
 | .cons _ t r => t.size + r.size
end
structure Sb where
 b : Nat
 T : List (Nat × List UInt8) → Prop
def OctRep (w : World) (sb : Sb) (B : Nat) (v : Value) (l : List UInt8) : Prop :=
 (v = .slice none 0 0 ∧ l = []) ∨ ∃ c o cap, v = .slice (some ⟨c, o, none⟩) l.length cap ∧ (c = sb.b ∨ B ≤ c) ∧ c < w.heap.size ∧ Cells w c o (l.map bv)
def TagsRep (w : World) (sb : Sb) (B : Nat) (v : Value) (tags : List (Nat × List UInt8)) : Prop :=
 TagsOk tags ∧ sb.T tags ∧ ((v = .map none ∧ tags = []) ∨
 ∃ q es clock, v = .map (some q) ∧ B ≤ q ∧ q < w.heap.size ∧ w.heap[q]? = some (.map es clock) ∧ (∀ e ∈ es.toList, e.born < clock) ∧ (es.toList.map (·.born)).Nodup ∧
  ∃ l : List (Nat × List UInt8), l.Perm tags ∧ l.length = es.size ∧
   ∀ (i : Nat) (x : Nat × List UInt8), l[i]? = some x → ∃ e : MapEntry, es[i]? = some e ∧ e.key = .int .u32 x.1 ∧ OctRep w sb B e.val x.2)
mutual
def Ty.Rep (w : World) (sb : Sb) : Nat → Ty → List Value → D → Prop
 | _, .scal s _, cs, .int n => cs = [s.val n] ∧ s.ok n
 | _, .named s _ _, cs, .int n => cs = [s.val n] ∧ s.ok n
 | _, .uuid, cs, .bytes (some l) => l.length = 16 ∧ cs = l.map bv
 | _, .text, cs, .bytes (some l) => cs = [.string ⟨l.toArray⟩]
 | _, .ntext, cs, .bytes none | _, .ntextFrom _, cs, .bytes none => cs = [.pointer none]
 | B, .ntext, cs, .bytes (some l) | B, .ntextFrom _, cs, .bytes (some l) => ∃ q, cs = [.pointer (some ⟨q, 0, none⟩)] ∧ B ≤ q ∧ w.cell? ⟨q, 0, none⟩ = some (.string ⟨l.toArray⟩)
 | _, .bytes, cs, .bytes none | _, .nbytes, cs, .bytes none => cs = [.slice none 0 0]
 | B, .bytes, cs, .bytes (some l) | B, .nbytes, cs, .bytes (some l) => ∃ q o cap, cs = [.slice (some ⟨q, o, none⟩) l.length cap] ∧ (q = sb.b ∨ B ≤ q) ∧ Cells w q o (l.map bv) ∧ q < w.heap.size
 | _, .list _ _ _, cs, .list none => cs = [.slice none 0 0]
 | B, .list _ _ e, cs, .list (some l) => ∃ q cap, cs = [.slice (some ⟨q, 0, none⟩) l.length cap] ∧ B ≤ q ∧ q < w.heap.size ∧ l.length ≤ big ∧
   ∀ (i : Nat) (d : D), l[i]? = some d → ∃ c : List Value, c.length = e.size ∧ Cells w q (i * e.size) c ∧ e.Rep w sb (q + 1) c d
 | B, .struct _ _ _ fs, cs, .obj l tags => fs.Rep w sb B cs l tags
 | _, _, _, _ => False
def Flds.Rep (w : World) (sb : Sb) : Nat → Flds → List Value → List D → List (Nat × List UInt8) → Prop
 | B, .nil t, cs, [], tags => if t then ∃ v, cs = [v] ∧ TagsRep w sb B v tags else cs = [] ∧ tags = []
 | B, .cons _ t r, cs, d :: l, tags => t.Rep w sb B (cs.take t.size) d ∧ r.Rep w sb B (cs.drop t.size) l tags
 | _, _, _, _, _ => False
end
end Go.Km
namespace Go.Km
open Go Go.RowKit
attribute [local irreducible] vc rO_
section
variable {P : Program} {Q : Exit → Act → World → Prop} {a : Act} {w : World} {K : Nat → Prop}
theorem vS {c : Code} {r : List Code} (h : vc P c (Exit.then (vc P (sq r) Q) Q) a w) : vc P (sq (c :: r)) Q a w := by
 cases r with
 | nil =>
  refine vc_mono _ h ?_
  intro e a w h
  cases e <;> first | exact vc_skip_inv h | exact h
 | cons d r => exact vc_seq h
theorem vN (h : Q .normal a w) : vc P (sq []) Q a w := vK h
theorem vR {l : List Oper} (hg : ∀ o ∈ l, o.guard = none) (h : rO_ P Q l a w) : vc P (rg l) Q a w := vc_run hg h
theorem vX {l : List Oper} {r : List Code} (h : rO_ P (Exit.then (vc P (sq r) Q) Q) l a w) (hg : (l.all fun o => o.guard.isNone) = true := by rfl) : vc P (sq (rg l :: r)) Q a w := vS (vR (fun o ho => Option.isNone_iff_eq_none.1 (List.all_eq_true.1 hg o ho)) h)
def runG (P : Program) (dj : Nat) (Q : Exit → Act → World → Prop) : List Oper → Act → World → Prop
 | [], a, w => Q .normal a w
 | o :: r, a, w => match o.guard with
  | none => o.wp P a w (runG P dj Q r) Q
  | some (_, want) => ∃ b, a.eval (.tmp dj) = .bool b ∧ (if b = want then o.wp P a w (runG P dj Q r) Q else runG P dj Q r (a.put o.dst undef) w)
theorem yielded_of {ops : Array Oper} {j dj : Nat} {o : Oper} {b : Bool} (hj : ops[j]? = some o) (hd : o.dst = some dj) (h : a.eval (.tmp dj) = .bool b) : yielded ops a.tmps j = some b := by
 unfold yielded
 simp only [hj, Option.bind_some, hd]
 simp only [Act.eval, Array.getD_eq_getD_getElem?] at h
 cases ht : a.tmps[dj]? with
 | none => simp [ht, undef] at h
 | some v => simp only [ht, Option.getD_some] at h; subst h; rfl
section
variable {dj : Nat} {r : List Oper}
end
attribute [local irreducible] runG
end
end Go.Km
namespace Go.Km
open Go Go.RowKit
def rowB (P : Program) (t e : TypeId) (s : Nat) : Bool :=
 match P.underlying t, P.info? e with
 | some (.slice e'), some i => e' == e && i.size == s && decide (0 < s) && (match i.zero with | some z => z.cells.size == s | none => false) && decide (i.bytes ≤ 65536)
 | _, _ => false
theorem rowB_inv {P : Program} {t e : TypeId} {s : Nat} (h : rowB P t e s = true) :
  P.underlying t = some (.slice e) ∧ ∃ i z, P.info? e = some i ∧ i.size = s ∧ 0 < s ∧ i.zero = some z ∧ z.cells.size = s ∧ i.bytes ≤ 65536 := by
 unfold rowB at h
 split at h
 ·rename_i e' i hu hi
  cases hz : i.zero with
  | none => simp [hz] at h
  | some z =>
   simp only [hz, Bool.and_eq_true, beq_iff_eq, decide_eq_true_eq] at h
   obtain ⟨⟨⟨⟨h1, h2⟩, h3⟩, h4⟩, h5⟩ := h
   subst h1
   exact ⟨hu, i, z, hi, h2, h3, hz, h4, h5⟩
 ·cases h
theorem rB {P : Program} {t e : TypeId} {s : Nat} (h : rowB P t e s = true) : sliceT P t = some (e, s) := by
 obtain ⟨hu, i, z, hi, hs, _⟩ := rowB_inv h
 simp [sliceT, hu, hi, hs]
theorem run_append_src {P : Program} (w : World) (base : Nat) (t tx ty e : TypeId) (s : Nat) (hB : rowB P t e s = true)
  (v : Value) (n : Nat) (xs : List Value) (hown : w.ownsRow base e s v n xs) (x : Value) (m : Nat) (news : List Value) (hs : Src P s tx x m news w) (hb : n + m ≤ big) (hbase : base ≤ w.heap.size) :
  ∃ v' w', (Builtin.append_ #[t, tx] ty #[v, x]).run P w = .ok v' w' ∧ w'.ownsRow base e s v' (n + m) (xs ++ news) ∧ w.grownBy w' v.ownBlock ∧ (∀ g, v'.ownBlock = some g → v.ownBlock = some g ∨ w.heap.size ≤ g) := by
 obtain ⟨ht, i, z, hi, hsize, hsz, hz, hzs, hby⟩ := rowB_inv hB
 subst hsize
 have hl := hs.newsLen
 have hsmall : n + m ≤ 9223372036854775807 := by unfold big at hb; omega
 have h63 : n + m ≤ maxLen := by unfold big at hb; simp only [maxLen]; omega
 have hbytes : (n + m) * i.bytes ≤ 140737488355328 := by
  refine Nat.le_trans (Nat.mul_le_mul hb hby) ?_
  unfold big
  omega
 have hlen : (xs ++ news).length = (n + m) * i.size := by rw [List.length_append, hown.1, hl, Nat.add_mul]
 have grown : ∀ (old : Nat), old < n + m → ∀ (row : Option Nat),
   (w.drew.alloc (.cells ((xs ++ news).toArray ++ Builtin.zeroCells z.cells (grownCap w (n + m) old e - (n + m))) e)).ownsRow base e i.size
    (.slice (some ⟨w.heap.size, 0, none⟩) (n + m) (grownCap w (n + m) old e)) (n + m) (xs ++ news) ∧
   w.grownBy (w.drew.alloc (.cells ((xs ++ news).toArray ++ Builtin.zeroCells z.cells (grownCap w (n + m) old e - (n + m))) e)) row := by
  intro old ho row
  have hge := grownCap_ge w (n + m) old e
  have hcm : grownCap w (n + m) old e ≤ maxLen := grownCap_le_maxLen w (n + m) old e h63
  refine ⟨⟨hlen, .inr ⟨w.heap.size, _, _, rfl, hbase, heap_alloc_new w.drew _, hge, hcm, ?_, ?_⟩⟩, ⟨rfl, rfl, rfl, by simp, fun k hk _ => by first | exact heap_alloc_old w.drew _ k hk | exact heap_alloc_old w.drew _ hk⟩⟩
  ·have hmul : (n + m) * i.size + (grownCap w (n + m) old e - (n + m)) * i.size = grownCap w (n + m) old e * i.size := by
    rw [← Nat.add_mul]
    congr 1
    omega
   rw [Array.size_append, List.size_toArray, size_zeroCells, hzs, hlen]
   exact hmul
  ·rw [Array.toList_append, ← hlen]
   exact List.take_left
 rcases hown.2 with ⟨rfl, rfl⟩ | ⟨g, cap, cur, rfl, hbg, hg, hnc, hcm, hcs, htake⟩
 ·have hx : xs = [] := List.eq_nil_of_length_eq_zero (by simpa using hown.1)
  subst hx
  by_cases hm : m = 0
  ·subst hm
   have hn : news = [] := List.eq_nil_of_length_eq_zero (by simpa using hl)
   subst hn
   refine ⟨.slice none 0 0, w, ?_, World.ownsRow_nil w base e i.size, ⟨rfl, rfl, rfl, Nat.le_refl _, fun _ _ _ => rfl⟩, fun g h => by cases h⟩
   rcases hs.kind with ⟨e', hk⟩ | hk <;> simp [Builtin.append_, run_underlying ht, run_underlying hk, sizeOf, typeInfo, hi, hs.len, hs.cells, storeCells]
  ·have hr := run_append_grow_src (P := P) w t tx ty e i z ht hi hz none 0 0 [] (by simp [Builtin.firstCells]) x m news hs (by omega) (by omega) (growslice_fits (by omega) (by simpa using hbytes))
   have hgr := grown 0 (by omega) (Value.ownBlock (.slice none 0 0))
   simp only [Nat.zero_add, List.nil_append] at hgr hr ⊢
   exact ⟨_, _, hr, hgr.1, hgr.2, fun g' h => .inr (by simp only [Value.ownBlock, Option.some.injEq] at h; omega)⟩
 ·by_cases hroom : n + m ≤ cap
  ·have hfit : n * i.size + news.length ≤ cur.size := by rw [hl, hcs, ← Nat.add_mul]; exact Nat.mul_le_mul_right _ hroom
   have hc : ∀ j, j < news.length → (w.cell? ⟨g, 0 + n * i.size + j, none⟩).isSome = true := by
    intro j hj
    have : 0 + n * i.size + j < cur.size := by omega
    simp [World.cell?, hg]
    omega
   have hf : ∀ j, j < news.length → w.frozen? ⟨g, 0 + n * i.size + j, none⟩ = false := by
    intro j hj
    simp [World.frozen?, hg]
   have hr := run_append_room_src (P := P) w t tx ty e i ht hi g 0 n cap x m news hs hroom hc hf
   have e1 := run_storeCells_cells (P := P) g (0 + n * i.size) news 0 w (by simpa using hc) (by simpa using hf) hs.one
   have e2 := run_storeCells_at P g (0 + n * i.size) e news 0 cur w hg (by simpa using hfit) hs.one
   have e3 := e1.symm.trans e2
   simp only [Nat.add_zero] at e3
   injection e3 with _ e3
   rw [e3] at hr
   refine ⟨_, _, hr, ⟨hlen, .inr ⟨g, cap, _, rfl, hbg, setRow_heap w g cur _ e _ hg, hroom, hcm, ?_, ?_⟩⟩, ⟨rfl, rfl, rfl, by simp, fun k _ hk => setRow_other w g k _ (fun e => hk (by simp [Value.ownBlock, e]))⟩, fun g' h => .inl h⟩
   ·simp only [List.size_toArray, List.length_append, List.length_take, List.length_drop, Array.length_toList]
    omega
   ·simp only [Nat.zero_add]
    rw [htake, ← hlen]
    exact List.take_left
  ·have holds : ∀ j u, xs[j]? = some u → w.cell? ((⟨g, 0, none⟩ : Addr).add j) = some u := hown.cells (g := g) rfl
   have hr := run_append_grow_src (P := P) w t tx ty e i z ht hi hz (some ⟨g, 0, none⟩) n cap xs (run_firstCells_some w.drew i.size n _ n cap xs hown.1 (by simpa using holds)) x m news hs (by omega) (by omega) (growslice_fits (by omega) hbytes)
   have hgr := grown cap (by omega) (Value.ownBlock (.slice (some ⟨g, 0, none⟩) n cap))
   exact ⟨_, _, hr, hgr.1, hgr.2, fun g' h => .inr (by simp only [Value.ownBlock, Option.some.injEq] at h; omega)⟩
theorem below_grownBy {w w' : World} {base : Nat} {e : TypeId} {s : Nat} {v : Value} {n : Nat} {xs : List Value} (hown : w.ownsRow base e s v n xs) (hg : w.grownBy w' v.ownBlock) (hU : base ≤ w.heap.size) : Below base w w' :=
 ⟨hg.os, hg.tape, hg.output, hg.size, fun k hk => hg.block k (by omega) (fun he => by have := hown.lt k he.symm; omega)⟩
theorem src_cells {P : Program} {t e : TypeId} {s : Nat} {w : World} {q o n cap : Nat} {cs : List Value} (ht : sliceT P t = some (e, s)) (hc : Cells w q o cs) (hl : cs.length = n * s) (h1 : ∀ u ∈ cs, u.oneCell' = true) :
  Src P s t (.slice (some ⟨q, o, none⟩) n cap) n cs w :=
 Src.ofSlice w (sliceT_inv ht).1 _ n cap cs hl (fun j u hu => by rw [Addr.add_lit]; exact hc j u hu) h1
theorem bv_one (l : List UInt8) : ∀ u ∈ l.map bv, u.oneCell' = true := by
 intro u hu
 obtain ⟨b, _, rfl⟩ := List.mem_map.1 hu
 rfl
theorem src_nil {P : Program} {t e : TypeId} {s c : Nat} {w : World} (ht : sliceT P t = some (e, s)) : Src P s t (.slice none 0 c) 0 [] w := Src.ofNil w (sliceT_inv ht).1 c
theorem byteCells_bv (l : List UInt8) : byteCells ⟨l.toArray⟩ = l.map bv := by
 simp [byteCells, bv]
theorem src_str {P : Program} {t : TypeId} {w : World} (ht : P.underlying t = some .string) (l : List UInt8) : Src P 1 t (.string ⟨l.toArray⟩) l.length (l.map bv) w := by
 have := Src.ofString (P := P) w ht ⟨l.toArray⟩
 rw [byteCells_bv] at this
 exact this
section
variable {P : Program} {a : Act} {w : World} {r : List Oper} {Q : Exit → Act → World → Prop}
theorem r_append {d s x t tx ty p af g e sz U v n xs u m news} (hB : rowB P t e sz = true) (hs : a.eval s = v) (hx : a.eval x = u) (hown : w.ownsRow U e sz v n xs) (hU : U ≤ w.heap.size) (hsrc : Src P sz tx u m news w) (hb : n + m ≤ big)
  (h : ∀ v' w', w'.ownsRow U e sz v' (n + m) (xs ++ news) → Below U w w' → rO_ P Q r (a.put (some d) v') w') :
  rO_ P Q (⟨some d, .call { callee := .builtin .append, args := #[s, x], argTypes := #[t, tx] }, ty, p, af, g⟩ :: r) a w := by
 refine st ?_
 obtain ⟨v', w', hr, h1, h2, _⟩ := run_append_src w U t tx ty e sz hB v n xs hown u m news hsrc hb hU
 subst hs; subst hx
 simp only [Oper.wp, execOp, resolve, invoke, builtin, Sem.run_bind, Sem.run_pure, Result.andThen_ok, List.map_toArray, List.map_cons, List.map_nil, hr, Oper.upon_value]
 exact h v' w' h1 (below_grownBy hown h2 hU)
theorem r_pickT {d c x y ty p af g} (hc : a.eval c = .bool true) (h : rO_ P Q r (a.put (some d) (a.eval x)) w) : rO_ P Q (⟨some d, .pick c x y, ty, p, af, g⟩ :: r) a w := by
 refine st ?_
 simp only [Oper.wp, execOp, hc, asBool, Sem.run_bind, Sem.run_pure, Result.andThen_ok, Oper.upon_value, if_true]
 exact h
theorem r_pickF {d c x y ty p af g} (hc : a.eval c = .bool false) (h : rO_ P Q r (a.put (some d) (a.eval y)) w) : rO_ P Q (⟨some d, .pick c x y, ty, p, af, g⟩ :: r) a w := by
 refine st ?_
 simp only [Oper.wp, execOp, hc, asBool, Sem.run_bind, Sem.run_pure, Result.andThen_ok, Oper.upon_value, Bool.false_eq_true, if_false]
 exact h
theorem run_newRow' (e : TypeId) (c : Array Value) (w : World) : (newRow e c).run P w = .ok ⟨w.heap.size, 0, none⟩ (w.alloc (.cells c e)) := by
 simp [newRow]
theorem r_buildSlice {d t n ps ty p af g e s} {vs : List Value} (hB : rowB P t e s = true) (hp : (ps.map fun (x : Nat × Operand) => (x.1, a.eval x.2)).toList = (vs.zipIdx 0).map fun x => (x.2, x.1)) (hn : vs.length = n) (hs : ∀ v ∈ vs, v.cells.size = s) (hlim : n * s ≤ 16777216) (hn0 : 0 < n)
  (h : rO_ P Q r (a.put (some d) (.slice (some ⟨w.heap.size, 0, none⟩) n n)) (w.alloc (.cells (vs.flatMap fun v => v.cells.toList).toArray e))) :
  rO_ P Q (⟨some d, .buildSlice t n ps, ty, p, af, g⟩ :: r) a w := by
 refine st ?_
 obtain ⟨hu, i, z, hi, hsz, hs0, hz, hzs, _⟩ := rowB_inv hB
 have hn' : n * s ≠ 0 := Nat.ne_of_gt (Nat.mul_pos hn0 hs0)
 have hf := Great.fill_whole hs0 vs ((Array.range (n * s)).map (z.cells[· % z.cells.size]!)) hs (by simp [hn])
 have hz' : (zeroValue e).run P w = .ok z w := by simp [zeroValue, typeInfo, hi, hz]
 have hr : (Instr.buildSlice t n (ps.map fun (i, x) => (i, a.eval x))).run P w = .ok (.slice (some ⟨w.heap.size, 0, none⟩) n n) (w.alloc (.cells (vs.flatMap fun v => v.cells.toList).toArray e)) := by
  have hp' : (ps.map fun (i, x) => (i, a.eval x)).toList = (vs.zipIdx 0).map fun x => (x.2, x.1) := hp
  have hlim' : ¬ (n * s > 2 ^ 24) := by simp only [Nat.reducePow]; omega
  simp only [Instr.buildSlice, Sem.run_bind, run_underlying hu, Result.andThen_ok, run_sizeOf_elem (rB hB), if_neg hlim', if_neg hn', hz', Sem.run_pure, hp', hf, run_newRow']
 simp only [Oper.wp, execOp, Sem.run_bind, hr, Sem.run_pure, Result.andThen_ok, Oper.upon_value]
 exact h
end
def wants (ops : List Oper) (a : Act) (o : Oper) : Bool := Region.wanted o (yielded ops.toArray a.tmps)
def runS (P : Program) (ops : List Oper) (Q : Exit → Act → World → Prop) : List Nat → Act → World → Prop
 | [], a, w => Q .normal a w
 | i :: r, a, w => ∃ o, ops[i]? = some o ∧ (if wants ops a o = true then o.wp P a w (runS P ops Q r) Q else runS P ops Q r (a.put o.dst undef) w)
section
variable {P : Program} {a : Act} {w : World} {Q : Exit → Act → World → Prop} {ops : List Oper} {r : List Nat}
theorem vc_runS {id : Nat} (h : runS P ops Q (List.range ops.length) a w) : vc P (.region id ops.toArray false) Q a w := by
 refine vc_ops ?_
 have key : ∀ (l : List Nat) (a : Act) (w : World), runS P ops Q l a w → wpOps P ops.toArray Q l a w := by
  intro l
  induction l with
  | nil => exact fun a w h => h
  | cons i r ih =>
   rintro a w ⟨o, ho, h⟩
   have ho' : ops.toArray[i]? = some o := by simpa using ho
   simp only [wpOps, ho']
   by_cases hw : wants ops a o = true
   ·rw [if_pos hw] at h
    have hw' : Region.wanted o (yielded ops.toArray a.tmps) = true := hw
    rw [if_pos hw']
    exact .inl (Oper.wp_mono (fun a w => ih a w) h)
   ·rw [if_neg hw] at h
    have hw' : ¬ Region.wanted o (yielded ops.toArray a.tmps) = true := hw
    rw [if_neg hw']
    exact ih _ _ h
 have := key _ a w h
 simpa using this
theorem runS_nil (h : Q .normal a w) : runS P ops Q [] a w := h
theorem rD {i : Nat} {o : Oper} (ho : ops[i]? = some o) (hw : wants ops a o = true) (h : rO_ P (Exit.then (runS P ops Q r) Q) [o] a w) : runS P ops Q (i :: r) a w := by
 refine ⟨o, ho, ?_⟩
 rw [if_pos hw]
 have h' : o.wp P a w (runS P ops Q r) (Exit.then (runS P ops Q r) Q) := h
 unfold Oper.wp at h' ⊢
 revert h'
 generalize (execOp a.eval o).run P w = res
 intro h
 unfold Oper.upon at h ⊢
 split at h <;> first
  | exact h
  | (exact Calls.mono h (fun e w' hh => by cases e <;> exact hh))
  | (exact Rows.mono h (fun _ _ hh => hh))
theorem rT (h : runS P ops Q r a w) : Exit.then (runS P ops Q r) Q .normal a w := h
theorem runS_no {i : Nat} {o : Oper} (ho : ops[i]? = some o) (hw : wants ops a o = false) (h : runS P ops Q r (a.put o.dst undef) w) : runS P ops Q (i :: r) a w := by
 refine ⟨o, ho, ?_⟩
 rw [if_neg (by rw [hw]; exact Bool.false_ne_true)]
 exact h
theorem wN {o : Oper} (h : o.guard = none) : wants ops a o = true := by simp [wants, Region.wanted, h]
theorem wS {o : Oper} {j : Nat} {dj : Tmp} {want b : Bool} (h : o.guard = some (j, want)) (hj : (ops[j]?).bind (·.dst) = some dj) (hb : a.eval (.tmp dj) = .bool b) : wants ops a o = (b == want) := by
 unfold wants Region.wanted
 rw [h]
 have hy : yielded ops.toArray a.tmps j = some b := by
  cases hoj : ops[j]? with
  | none => simp [hoj] at hj
  | some oj => exact yielded_of (by simpa using hoj) (by simpa [hoj] using hj) hb
 simp [hy]
theorem wants_undef {o : Oper} {j : Nat} {dj : Tmp} {want : Bool} (h : o.guard = some (j, want)) (hj : (ops[j]?).bind (·.dst) = some dj) (hb : a.eval (.tmp dj) = undef) (hd : dj < a.tmps.size) : wants ops a o = false := by
 unfold wants Region.wanted
 rw [h]
 have hy : yielded ops.toArray a.tmps j = none := by
  unfold yielded
  simp only [List.getElem?_toArray, hj, Option.bind_some]
  simp only [Act.eval, Array.getD_eq_getD_getElem?] at hb
  rw [Array.getElem?_eq_getElem hd] at hb ⊢
  simp only [Option.getD_some] at hb
  simp [hb, undef]
 simp [hy]
end
def isPure : Op → Bool
 | .move _ | .assign _ | .load _ _ | .fieldAddr _ _ _ | .indexAddr _ _ _ | .binOp _ _ _ _ _ | .unOp _ _ _ | .convert _ _ _ | .pick _ _ _ | .slice _ _ _ _ _ => true
 | .call c => match c.callee with | .builtin .len => true | .builtin .min => true | .builtin .max => true | _ => false
 | _ => false
def runD (P : Program) (ops : List Oper) (Q : Exit → Act → World → Prop) (S : World → Prop) : List (Nat × Bool) → Act → World → Prop
 | [], a, w => Q .normal a w
 | (i, true) :: r, a, w => ∃ o v, ops[i]? = some o ∧ YieldsIf P ops.toArray S o v a ∧ S w ∧ runD P ops Q S r (a.put o.dst v) w
 | (i, false) :: r, a, w => wpOp P ops.toArray Q i (fun a' w' => S w' ∧ runD P ops Q S r a' w') a w
def ordB (ops : Array Oper) : List (Nat × Bool) → Array Bool → Bool
 | [], listed => (Region.ready .any ops listed).isEmpty
 | (i, true) :: r, listed => (Region.ready .any ops listed).contains i && Region.free .any ops listed i && ordB ops r (listed.setIfInBounds i true)
 | (i, false) :: r, listed => decide (Region.ready .any ops listed = [i]) && ordB ops r (listed.setIfInBounds i true)
section
variable {P : Program} {a : Act} {w : World} {Q : Exit → Act → World → Prop} {ops : List Oper} {S : World → Prop}
theorem wpAnyH_of_runD (hs : Region.noSelect ops.toArray = true) (hQ : ∀ c a a' w, Q (.panic c) a w → Q (.panic c) a' w) : ∀ (ord : List (Nat × Bool)) (listed : Array Bool) (a : Act) (w : World), ordB ops.toArray ord listed = true →
  runD P ops Q S ord a w → wpAnyH P .any ops.toArray Q S ord.length listed a w
 | [], listed, a, w, hB, h => by
  simp only [ordB, List.isEmpty_iff] at hB
  exact ⟨hB, h⟩
 | (i, true) :: r, listed, a, w, hB, ⟨o, v, ho, hy, hS, h⟩ => by
  simp only [ordB, Bool.and_eq_true] at hB
  have ho' : ops.toArray[i]? = some o := by simpa using ho
  exact wpAnyH_take ho' hs hB.1.2 hB.1.1 (fun c a w h => hQ c _ _ w h) hy hS (wpAnyH_of_runD hs hQ r _ _ w hB.2 h)
 | (i, false) :: r, listed, a, w, hB, h => by
  simp only [ordB, Bool.and_eq_true, decide_eq_true_eq] at hB
  refine wpAnyH_all (rs := [i]) hB.1 (by simp) ?_
  intro j hj
  simp only [List.mem_singleton] at hj
  subst hj
  exact wpOp_mono (fun a' w' h' => ⟨h'.1, wpAnyH_of_runD hs hQ r _ a' w' hB.2 h'.2⟩) h
theorem vc_runD (ord : List (Nat × Bool)) (S : World → Prop) {id : Nat} (hm : P.follows .mixedOrders = true) (hs : Region.noSelect ops.toArray = true) (hl : ord.length = ops.length) (hB : ordB ops.toArray ord (Array.replicate ops.length false) = true)
  (hQ : ∀ c a a' w, Q (.panic c) a w → Q (.panic c) a' w) (h : runD P ops Q S ord a { w with drawn := w.drawn + 1 }) : vc P (.region id ops.toArray true) Q a w := by
 refine vc_draw (fun t => ?_)
 simp only [Region.schedule, hm, Bool.true_or, if_true]
 refine wpAny_sound ops.toArray.size t _ a _ (wpAny_of_held (S := S) _ _ _ _ ?_)
 have := wpAnyH_of_runD hs hQ ord _ a _ hB h
 rw [hl] at this
 simpa using this
theorem d_nil (h : Q .normal a w) : runD P ops Q S [] a w := h
def yq (a : Act) (d : Option Tmp) (v : Value) (w : World) : Exit → Act → World → Prop := fun e a' w' => e = .normal ∧ a' = a.put d v ∧ w' = w
theorem v_value {x : Sem Value} {w w' : World} {n : Next} (h : (do let y ← x; pure (Next.value y) : Sem Next).run P w = .ok n w') : ∃ v, n = .value v := by
 rw [Sem.run_bind] at h
 cases hx : x.run P w with
 | ok y w1 =>
  rw [hx, Result.andThen_ok, Sem.run_pure] at h
  injection h with h1 _
  exact ⟨_, h1.symm⟩
 | halt s w1 =>
  rw [hx] at h
  cases h
theorem pure_value {ρ : Operand → Value} {o : Oper} (hp : isPure o.op = true) {w w' : World} {n : Next} (h : (execOp ρ o).run P w = .ok n w') : ∃ v, n = .value v := by
  unfold isPure at hp
  unfold execOp at h
  split at hp <;> first | exact absurd hp Bool.false_ne_true | (rename_i heq; rw [heq] at h)
  all_goals first
    | exact v_value h
    | (rw [Sem.run_pure] at h; injection h with h1 _; exact ⟨_, h1.symm⟩)
    | (simp only [Sem.run_bind] at h
       revert h
       generalize Sem.run P (asBool _) w = res
       intro h
       cases res with
       | ok y w1 => rw [Result.andThen_ok, Sem.run_pure] at h; injection h with h1 _; exact ⟨_, h1.symm⟩
       | halt s w1 => cases h)
    | skip
  rename_i c
  split at hp <;> first | exact absurd hp Bool.false_ne_true | skip
  all_goals
    rename_i hc
    simp only [resolve, hc, Sem.run_bind, Sem.run_pure, Result.andThen_ok, invoke, builtin] at h
    refine v_value (x := ?_) (by rw [Sem.run_bind]; simp only [Sem.run_pure]; exact h)
theorem yields_run {o : Oper} {d : Nat} {v : Value} (hp : isPure o.op = true) (hd : o.dst = some d) (hsz : d < a.tmps.size) (h : rO_ P (yq a (some d) v w) [o] a w) : (execOp a.eval o).run P w = .ok (.value v) w := by
 have h' : o.wp P a w (yq a (some d) v w .normal) (yq a (some d) v w) := h
 unfold Oper.wp at h'
 cases hr : (execOp a.eval o).run P w with
 | ok n w' =>
  obtain ⟨u, rfl⟩ := pure_value hp hr
  rw [hr] at h'
  simp only [Oper.upon, hd] at h'
  obtain ⟨_, h1, h2⟩ := h'
  subst h2
  have h3 : (a.put (some d) u).eval (.tmp d) = (a.put (some d) v).eval (.tmp d) := by rw [h1]
  rw [eval_put_same _ _ _ hsz, eval_put_same _ _ _ hsz] at h3
  rw [h3]
 | halt x w' =>
  rw [hr] at h'
  cases x <;> simp [Oper.upon, yq] at h'
theorem dP {i d : Nat} {o : Oper} {v : Value} {r : List (Nat × Bool)} (ho : ops[i]? = some o) (hp : isPure o.op = true) (hd : o.dst = some d) (hw : wants ops a o = true) (hsz : d < a.tmps.size) (hS : S w)
  (h : ∀ w', S w' → rO_ P (yq a (some d) v w') [o] a w') (k : runD P ops Q S r (a.put (some d) v) w) : runD P ops Q S ((i, true) :: r) a w :=
 ⟨o, v, ho, .inl ⟨hw, fun w' hS' => yields_run hp hd hsz (h w' hS')⟩, hS, by rw [hd]; exact k⟩
theorem d_sole {i : Nat} {o : Oper} {r : List (Nat × Bool)} (ho : ops[i]? = some o) (hw : wants ops a o = true) (h : rO_ P (Exit.then (fun a w => S w ∧ runD P ops Q S r a w) Q) [o] a w) : runD P ops Q S ((i, false) :: r) a w := by
 have ho' : ops.toArray[i]? = some o := by simpa using ho
 show wpOp P ops.toArray Q i _ a w
 unfold wpOp
 have hw' : Region.wanted o (yielded ops.toArray a.tmps) = true := hw
 simp only [ho', hw', if_true]
 left
 have h' : o.wp P a w (fun a w => S w ∧ runD P ops Q S r a w) (Exit.then (fun a w => S w ∧ runD P ops Q S r a w) Q) := h
 unfold Oper.wp at h' ⊢
 revert h'
 generalize (execOp a.eval o).run P w = res
 intro h
 unfold Oper.upon at h ⊢
 split at h <;> first
  | exact h
  | (exact Calls.mono h (fun e w' hh => by cases e <;> exact hh))
  | (exact Rows.mono h (fun _ _ hh => hh))
theorem d_then {r : List (Nat × Bool)} (hS : S w) (h : runD P ops Q S r a w) : Exit.then (fun a w => S w ∧ runD P ops Q S r a w) Q .normal a w := ⟨hS, h⟩
end
end Go.Km
namespace Go.Km
open Go Go.RowKit
attribute [local irreducible] vc rO_ runG
theorem wrap_i64 {n : Int} (h0 : -9223372036854775808 ≤ n) (h1 : n ≤ 9223372036854775807) : IntKind.i64.wrap n = n := IntWalk.i64_in n ⟨h0, h1⟩
section
variable {P : Program} {Q : Exit → Act → World → Prop} {a : Act} {w : World}
end
end Go.Km
namespace Go.Km
open Go Go.RowKit
attribute [local irreducible] vc rO_ runG
def Wr1 (P : Program) (E : Env) (F : FuncId) (U : Nat) (args : List Value) (bs : List UInt8) (w : World) : Prop :=
 ∀ dv (xs : List UInt8), w.ownsRow U E.tU8 1 dv xs.length (xs.map bv) → U ≤ w.heap.size → xs.length + bs.length ≤ big →
  CallsV P F (#[dv] ++ args.toArray) w fun v' w' => w'.ownsRow U E.tU8 1 v' (xs ++ bs).length ((xs ++ bs).map bv) ∧ Below U w w'
def Cx.ok (x : Cx) (F G : FuncId) : Bool := (G != 0) && (x.fl.isNone || F != 0)
structure WSt (P : Program) (E : Env) (W0 : World) (x : Cx) (ver : Nat) (fx : Bool) (a : Act) (w : World) (xs : List UInt8) : Prop where
 below : Below W0.heap.size W0 w
 own : w.ownsRow W0.heap.size E.tU8 1 (a.eval (.tmp 1)) xs.length (xs.map bv)
 ver : a.eval (.tmp x.vs) = .int .i16 (ver : Int)
 fl : ∀ f, x.fl = some f → a.eval (.tmp f) = .bool fx
def KW (L n t : Nat) (k : Nat) : Prop := k ≠ 1 ∧ (k < n ∨ (L ≤ k ∧ k < t))
theorem KW.mono {L n n' t t' : Nat} (hn : n ≤ n') (ht : t ≤ t') : ∀ k, KW L n t k → KW L n' t' k := fun k ⟨h1, h2⟩ => ⟨h1, by omega⟩
structure WSl (x : Cx) (L n t : Nat) (fx : Bool) : Prop where
 one : 1 < n
 vs : x.vs < n ∧ x.vs ≠ 1
 fl : ∀ f, x.fl = some f → f < n ∧ f ≠ 1
 no : x.fl = none → fx = false
 nL : n ≤ L
 Lt : L ≤ t
theorem WSl.kt {x : Cx} {L n t : Nat} {fx : Bool} (h : WSl x L n t fx) : ∀ d, t ≤ d → ¬ KW L n t d := by
 rintro d hd ⟨_, h2⟩
 have := h.nL; have := h.Lt
 omega
theorem WSl.k1 {x : Cx} {L n t : Nat} {fx : Bool} (h : WSl x L n t fx) : ¬ KW L n t 1 := fun h => h.1 rfl
section
variable {P : Program} {E : Env} {W0 : World} {sb : Sb}
theorem WSt.fr {x : Cx} {ver : Nat} {fx : Bool} {a a' : Act} {w : World} {xs : List UInt8} {L n t : Nat} (h : WSt P E W0 x ver fx a w xs) (hs : WSl x L n t fx) (hf : Fr (KW L n t) a a') (h1 : a'.eval (.tmp 1) = a.eval (.tmp 1)) :
  WSt P E W0 x ver fx a' w xs :=
 ⟨h.below, by rw [h1]; exact h.own, by rw [hf.slot _ ⟨hs.vs.2, .inl hs.vs.1⟩]; exact h.ver, fun f hh => by rw [hf.slot _ ⟨(hs.fl f hh).2, .inl (hs.fl f hh).1⟩]; exact h.fl f hh⟩
theorem WSt.step {x : Cx} {ver : Nat} {fx : Bool} {a a' : Act} {w w' : World} {xs bs : List UInt8} {v' : Value} {L n t : Nat} (h : WSt P E W0 x ver fx a w xs) (hs : WSl x L n t fx) (hf : Fr (KW L n t) a a') (h1 : a'.eval (.tmp 1) = v')
  (hc : w'.ownsRow W0.heap.size E.tU8 1 v' (xs ++ bs).length ((xs ++ bs).map bv) ∧ Below W0.heap.size w w') : WSt P E W0 x ver fx a' w' (xs ++ bs) :=
 ⟨h.below.trans hc.2, by rw [h1]; exact hc.1, by rw [hf.slot _ ⟨hs.vs.2, .inl hs.vs.1⟩]; exact h.ver, fun f hh => by rw [hf.slot _ ⟨(hs.fl f hh).2, .inl (hs.fl f hh).1⟩]; exact h.fl f hh⟩
theorem WSt.size {x : Cx} {ver : Nat} {fx : Bool} {a : Act} {w : World} {xs : List UInt8} (h : WSt P E W0 x ver fx a w xs) : W0.heap.size ≤ w.heap.size := h.below.size
theorem Cells.below {w w' : World} {B b o : Nat} {cs : List Value} (h : Cells w b o cs) (hw : Below B w w') (hb : b < B) : Cells w' b o cs :=
 fun i v hv => by rw [hw.cell (p := ⟨b, o + i, none⟩) hb]; exact h i v hv
end
end Go.Km
namespace Go.Km
open Go Go.RowKit
attribute [local irreducible] vc rO_ runG
section
variable {P : Program} {E : Env} {W0 : World} {sb : Sb}
theorem OctRep.mono {w : World} {B B' : Nat} {v : Value} {l : List UInt8} (h : OctRep w sb B v l) (hB : B' ≤ B) : OctRep w sb B' v l := by
 rcases h with h | ⟨c, o, cap, hv, hc, h⟩
 ·exact .inl h
 ·exact .inr ⟨c, o, cap, hv, hc.imp id (fun h => by omega), h⟩
theorem TagsRep.mono {w : World} {B B' : Nat} {v : Value} {tags : List (Nat × List UInt8)} (h : TagsRep w sb B v tags) (hB : B' ≤ B) : TagsRep w sb B' v tags := by
 obtain ⟨h1, h0, h2⟩ := h
 refine ⟨h1, h0, ?_⟩
 rcases h2 with h2 | ⟨q, es, clock, hv, hq, hs, hm, hb, hn, l, hl, hsz, he⟩
 ·exact .inl h2
 ·refine .inr ⟨q, es, clock, hv, by omega, hs, hm, hb, hn, l, hl, hsz, fun i x hx => ?_⟩
  obtain ⟨e, h1, h2, h3⟩ := he i x hx
  exact ⟨e, h1, h2, h3.mono hB⟩
section
variable {Q : Exit → Act → World → Prop} {a : Act} {w : World} {K : Nat → Prop}
end
theorem Cells.take {w : World} {b o : Nat} {cs : List Value} (h : Cells w b o cs) (n : Nat) : Cells w b o (cs.take n) := fun i v hv => h i v (by
 rw [List.getElem?_take] at hv
 split at hv
 ·exact hv
 ·cases hv)
theorem Cells.drop {w : World} {b o : Nat} {cs : List Value} (h : Cells w b o cs) (n : Nat) : Cells w b (o + n) (cs.drop n) := fun i v hv => by
 rw [List.getElem?_drop] at hv
 have := h (n + i) v hv
 rwa [show o + n + i = o + (n + i) by omega]
end
end Go.Km
namespace Go.Km
open Go Go.RowKit
attribute [local irreducible] vc rO_ runG
section
variable {P : Program} {E : Env} {W0 : World} {sb : Sb}
end
end Go.Km
namespace Go.Km
open Go Go.RowKit
attribute [local irreducible] vc rO_ runG
section
variable {P : Program} {E : Env} {W0 : World} {sb : Sb}
theorem rO {P : Program} {w : World} {a : Act} {t : Nat} {v : Value} (h : a.eval (.tmp t) = v) : (results { (default : Func) with results := #[.tmp t] } a.tmps).run P w = .ok v w := by
 subst h
 simp [results, Act.eval]
theorem CallsV.enter {P : Program} {f : FuncId} {np nt : Nat} {res : Array ResultVar} {c : Code} (ht : Text P f np nt res c) {args : Array Value} {w : World} {S : Value → World → Prop} (hn : args.size ≤ nt)
  (h : ∀ a, a.tmps.size = nt → a.defers = [] → (∀ i v, args[i]? = some v → a.eval (.tmp i) = v) → vc P c (Out P res S) a w) : CallsV P f args w S := by
 refine CallsV.of_vc ht (h _ (by simp; omega) rfl ?_)
 intro i v hv
 have hi : i < args.size := by
  rcases Nat.lt_or_ge i args.size with h | h
  ·exact h
  ·simp [Array.getElem?_eq_none h] at hv
 simp [Act.eval, Array.getElem?_append_left hi, hv]
end
end Go.Km
namespace Go.Km
open Go Go.RowKit
attribute [local irreducible] vc rO_ runG runS runD
def o8 (z : Int) : UInt8 := UInt8.ofNat z.toNat
theorem bv_o8 {z : Int} (h0 : 0 ≤ z) (h1 : z < 256) : bv (o8 z) = .int .u8 z := by
 unfold bv o8
 have : z.toNat < 256 := by omega
 rw [UInt8.toNat_ofNat']
 congr 1
 omega
theorem map_o8 {zs : List Int} (h : ∀ z ∈ zs, 0 ≤ z ∧ z < 256) : (zs.map o8).map bv = zs.map fun z => .int .u8 z := by
 rw [List.map_map]
 apply List.map_congr_left
 intro z hz
 exact bv_o8 (h z hz).1 (h z hz).2
theorem flat_u8 : ∀ zs : List Int, ((zs.map fun z => Value.int .u8 z).flatMap fun v => v.cells.toList) = zs.map fun z => Value.int .u8 z
 | [] => rfl
 | z :: r => by simp only [List.map_cons, List.flatMap_cons, flat_u8 r]; rfl
section
variable {P : Program} {a : Act} {w : World} {r : List Oper} {Q : Exit → Act → World → Prop}
theorem r_litApp {d d2 s : Nat} {t n ps ty p af g ty2 p2 af2 g2 e U v} {xs : List UInt8} {zs : List Int} (hB : rowB P t e 1 = true) (hp : (ps.map fun (x : Nat × Operand) => (x.1, a.eval x.2)).toList = ((zs.map fun z => Value.int .u8 z).zipIdx 0).map fun x => (x.2, x.1)) (h8 : ∀ z ∈ zs, 0 ≤ z ∧ z < 256) (hn : zs.length = n)
  (hlim : n ≤ 1000) (hn0 : 0 < n) (hs : a.eval (.tmp s) = v) (hsd : d ≠ s) (hd : d < a.tmps.size) (hown : w.ownsRow U e 1 v xs.length (xs.map bv)) (hU : U ≤ w.heap.size) (hb : xs.length + n ≤ big)
  (h : ∀ v' w', w'.ownsRow U e 1 v' (xs ++ zs.map o8).length ((xs ++ zs.map o8).map bv) → Below U w w' → rO_ P Q r ((a.put (some d) (.slice (some ⟨w.heap.size, 0, none⟩) n n)).put (some d2) v') w') :
  rO_ P Q (⟨some d, .buildSlice t n ps, ty, p, af, g⟩ :: ⟨some d2, .call { callee := .builtin .append, args := #[.tmp s, .tmp d], argTypes := #[t, t] }, ty2, p2, af2, g2⟩ :: r) a w := by
 refine r_buildSlice (s := 1) (vs := zs.map fun z => .int .u8 z) hB hp (by simpa using hn) (by intro v hv; obtain ⟨z, _, rfl⟩ := List.mem_map.1 hv; rfl) (by omega) hn0 ?_
 have hcs : ((zs.map fun z => Value.int .u8 z).flatMap fun v => v.cells.toList) = (zs.map o8).map bv := by
  rw [map_o8 h8, flat_u8]
 rw [hcs]
 have hlen : (zs.map o8).length = n := by simpa using hn
 refine r_append (sz := 1) (m := n) (U := U) (v := v) (n := xs.length) (xs := xs.map bv) (news := (zs.map o8).map bv) hB (by rw [eval_put_ne _ _ _ _ hsd]; exact hs) (eval_put_same _ _ _ hd) (hown.alloc _) (by simp; omega) ?_ hb ?_
 ·refine src_cells (rB hB) ?_ (by simp [hn]) (bv_one _)
  intro j u hu
  rw [Nat.zero_add]
  exact cells_new w _ e (by simpa using hu)
 ·intro v' w' h1 h2
  refine h v' w' (by simpa [hn] using h1) ?_
  exact ((Below.refl U w).alloc (o := .cells _ e) hU).trans h2
end
section
variable {P : Program} {E : Env} {w : World} {U : Nat}
end
end Go.Km
namespace Go.Km
open Go Go.RowKit
attribute [local irreducible] vc rO_ runG runS runD
section
variable {P : Program} {a : Act} {w : World} {r : List Oper} {Q : Exit → Act → World → Prop}
theorem r_indexStr {d t x i ty p af g k} {s : ByteArray} {j : Nat} {b : UInt8} (ht : P.underlying t = some .string) (hx : a.eval x = .string s) (hi : a.eval i = .int k (j : Int)) (hb : s[j]? = some b)
  (h : rO_ P Q r (a.put (some d) (.int .u8 b.toNat)) w) : rO_ P Q (⟨some d, .index t x i, ty, p, af, g⟩ :: r) a w := by
 refine st ?_
 have hr : (Instr.index t (a.eval x) (a.eval i)).run P w = .ok (.int .u8 b.toNat) w := by
  rw [hx, hi]
  simp [Instr.index, asIntOf, run_underlying ht, hb]
 simp only [Oper.wp, execOp, Sem.run_bind, hr, Sem.run_pure, Result.andThen_ok, Oper.upon_value]
 exact h
end
section
variable {P : Program} {E : Env} {w : World} {U : Nat}
theorem size_ba (l : List UInt8) : (⟨l.toArray⟩ : ByteArray).size = l.length := by simp [ByteArray.size]
end
end Go.Km
namespace Go.Km
open Go Go.RowKit
attribute [local irreducible] vc rO_ runG runS runD
section
variable {P : Program} {a : Act} {w : World} {r : List Oper} {Q : Exit → Act → World → Prop}
end
section
variable {P : Program} {E : Env} {w : World} {U : Nat}
def Keep (w : World) (v v' : Value) (w' : World) : Prop := (∀ k, k < w.heap.size → v.ownBlock ≠ some k → w'.heap[k]? = w.heap[k]?) ∧ ∀ g, v'.ownBlock = some g → v.ownBlock = some g ∨ w.heap.size ≤ g
def Wr1K (P : Program) (E : Env) (F : FuncId) (U : Nat) (args : List Value) (bs : List UInt8) (w : World) : Prop :=
 ∀ dv (xs : List UInt8), w.ownsRow U E.tU8 1 dv xs.length (xs.map bv) → U ≤ w.heap.size → xs.length + bs.length ≤ big →
  CallsV P F (#[dv] ++ args.toArray) w fun v' w' => w'.ownsRow U E.tU8 1 v' (xs ++ bs).length ((xs ++ bs).map bv) ∧ Below U w w' ∧ Keep w dv v' w'
theorem Wr1K.one {P : Program} {E : Env} {F : FuncId} {U : Nat} {args : List Value} {bs : List UInt8} {w : World} (h : Wr1K P E F U args bs w) : Wr1 P E F U args bs w :=
 fun dv xs h1 h2 h3 => (h dv xs h1 h2 h3).mono fun _ _ ⟨a, b, _⟩ => ⟨a, b⟩
end
end Go.Km
namespace Go.Km
open Go Go.RowKit
attribute [local irreducible] vc rO_ runG runS runD
section
variable {P : Program} {a : Act} {w : World} {r : List Oper} {Q : Exit → Act → World → Prop}
end
section
variable {P : Program} {E : Env} {w : World} {U : Nat}
end
def on (f : Nat) (c : Bool) : Bool := f == 0 || c
def strB (P : Program) (t : TypeId) : Bool := match P.underlying t with | some .string => true | _ => false
theorem strB_inv {P : Program} {t : TypeId} (h : strB P t = true) : P.underlying t = some .string := by
 unfold strB at h
 split at h
 ·assumption
 ·cases h
end Go.Km
namespace Go.Km
open Go Go.RowKit
attribute [local irreducible] vc rO_ runG runS runD
section
variable {P : Program} {a : Act} {w : World} {Q : Exit → Act → World → Prop}
theorem vc_count {body : Code} (I : Nat → Act → World → Prop) (n : Nat) (h0 : I n a w) (step : ∀ m a w, I (m + 1) a w → vc P body (Exit.then (I m) Q) a w) (done : ∀ a w, I 0 a w → vc P body (Exit.then (fun _ _ => False) Q) a w) : vc P (.loop body) Q a w := by
 classical
 have hmin : ∀ (p : Nat → Prop) (m : Nat), p m → ∃ k, k ≤ m ∧ p k ∧ ∀ j, j < k → ¬ p j := by
  intro p m
  induction m using Nat.strongRecOn with
  | ind m ih =>
   intro hm
   by_cases h : ∃ j, j < m ∧ p j
   ·obtain ⟨j, hj, hp⟩ := h
    obtain ⟨k, hk, hpk, hl⟩ := ih j hj hp
    exact ⟨k, by omega, hpk, hl⟩
   ·exact ⟨m, Nat.le_refl _, hm, fun j hj hp => h ⟨j, hj, hp⟩⟩
 let μ : Act → World → Nat := fun a w => if h : ∃ m, I m a w then Classical.choose (hmin (fun m => I m a w) (Classical.choose h) (Classical.choose_spec h)) else 0
 have hμ : ∀ a w, (∃ m, I m a w) → I (μ a w) a w ∧ ∀ j, j < μ a w → ¬ I j a w := by
  intro a w h
  have := Classical.choose_spec (hmin (fun m => I m a w) (Classical.choose h) (Classical.choose_spec h))
  have e : μ a w = Classical.choose (hmin (fun m => I m a w) (Classical.choose h) (Classical.choose_spec h)) := dif_pos h
  rw [e]
  exact ⟨this.2.1, this.2.2⟩
 refine vc_loop (fun a w => ∃ m, I m a w) μ ⟨n, h0⟩ ?_
 intro a w h
 obtain ⟨h1, h2⟩ := hμ a w h
 cases hm : μ a w with
 | zero =>
  rw [hm] at h1
  refine vc_mono _ (done a w h1) ?_
  intro e a' w' h
  cases e <;> first | exact h.elim | exact h
 | succ m =>
  rw [hm] at h1
  refine vc_mono _ (step m a w h1) ?_
  intro e a' w' h
  cases e with
  | normal =>
   refine ⟨⟨m, h⟩, ?_⟩
   have := (hμ a' w' ⟨m, h⟩).2
   rcases Nat.lt_or_ge (μ a' w') (m + 1) with h' | h'
   ·exact h'
   ·exact absurd h (this m (by omega))
  | _ => exact h
end
section
variable {P : Program} {E : Env} {w : World} {U : Nat}
end
end Go.Km
namespace Go.Km
open Go Go.RowKit
attribute [local irreducible] vc rO_ runG runS runD
section
variable {P : Program} {a : Act} {w : World} {Q : Exit → Act → World → Prop} {r : List Oper}
end
section
variable {P : Program} {E : Env} {w : World} {U : Nat}
end
end Go.Km
namespace Go.Km
open Go Go.RowKit
attribute [local irreducible] vc rO_ runG runS runD
mutual
inductive Tr where
 | mk (n : Int) (s : List UInt8) (nl : Bool) (l : Trs) (u : List (Nat × List UInt8))
inductive Trs where
 | nil
 | cons (t : Tr) (r : Trs)
end
mutual
inductive SF where
 | mk (kind fr to nul tag df el : Int) (sub : SFs)
inductive SFs where
 | nil
 | cons (f : SF) (r : SFs)
end
def Trs.len : Trs → Nat
 | .nil => 0
 | .cons _ r => r.len + 1
def Trs.get : Trs → Nat → Option Tr
 | .nil, _ => none
 | .cons t _, 0 => some t
 | .cons _ r, i + 1 => r.get i
def SFs.len : SFs → Nat
 | .nil => 0
 | .cons _ r => r.len + 1
def SFs.get : SFs → Nat → Option SF
 | .nil, _ => none
 | .cons t _, 0 => some t
 | .cons _ r, i + 1 => r.get i
def Tr.zero : Tr := .mk 0 [] false .nil []
def Tr.at (t : Tr) (i : Nat) : Tr := match t with | .mk _ _ _ l _ => (l.get i).getD .zero
def NilS (v : Value) : Prop := ∃ ad cap, v = .slice ad 0 cap
theorem nilS : NilS (.slice none 0 0) := ⟨_, _, rfl⟩
def OctsB (w : World) (U : Nat) (v : Value) (l : List UInt8) : Prop :=
 (NilS v ∧ l = []) ∨ ∃ q o cap, v = .slice (some ⟨q, o, none⟩) l.length cap ∧ l.length ≤ cap ∧ q < U ∧ Cells w q o (l.map bv)
def UnkB (w : World) (U : Nat) (v : Value) (u : List (Nat × List UInt8)) : Prop :=
 (NilS v ∧ u = []) ∨ ∃ q o cap, v = .slice (some ⟨q, o, none⟩) u.length cap ∧ u.length ≤ cap ∧ q < U ∧
  ∀ (i : Nat) (x : Nat × List UInt8), u[i]? = some x → ∃ sv, x.1 < 4294967296 ∧ Cells w q (o + i * 2) [.int .u32 x.1, sv] ∧ OctsB w U sv x.2
mutual
def Tr.Rep (w : World) (U : Nat) : Tr → List Value → Prop
 | .mk n s nl l u, cs => ∃ sv lv uv, cs = [.int .i64 n, sv, .bool nl, lv, uv] ∧ OctsB w U sv s ∧ UnkB w U uv u ∧
   ((NilS lv ∧ l.len = 0) ∨ ∃ q o cap, lv = .slice (some ⟨q, o, none⟩) l.len cap ∧ l.len ≤ cap ∧ q < U ∧ l.Rep w U q o)
def Trs.Rep (w : World) (U q : Nat) : Trs → Nat → Prop
 | .nil, _ => True
 | .cons t r, o => (∃ c, Cells w q o c ∧ t.Rep w U c) ∧ r.Rep w U q (o + 5)
end
mutual
def SF.Rep (w : World) (U : Nat) : SF → List Value → Prop
 | .mk kind fr to nul tag df el sub, cs => ∃ sv, cs = [.int .i64 kind, .int .i64 fr, .int .i64 to, .int .i64 nul, .int .i64 tag, .int .i64 df, .int .i64 el, sv] ∧
   ((sv = .slice none 0 0 ∧ sub.len = 0) ∨ ∃ q o cap, sv = .slice (some ⟨q, o, none⟩) sub.len cap ∧ sub.len ≤ cap ∧ q < U ∧ sub.Rep w U q o)
def SFs.Rep (w : World) (U q : Nat) : SFs → Nat → Prop
 | .nil, _ => True
 | .cons f r, o => (∃ c, Cells w q o c ∧ f.Rep w U c) ∧ r.Rep w U q (o + 8)
end
theorem Tr.Rep.len {w : World} {U : Nat} {t : Tr} {cs : List Value} (h : t.Rep w U cs) : cs.length = 5 := by
 cases t with
 | mk n s nl l u => obtain ⟨_, _, _, rfl, _⟩ := h; rfl
theorem SF.Rep.len {w : World} {U : Nat} {f : SF} {cs : List Value} (h : f.Rep w U cs) : cs.length = 8 := by
 cases f with
 | mk => obtain ⟨_, rfl, _⟩ := h; rfl
theorem Trs.Rep.get {w : World} {U q : Nat} : ∀ {l : Trs} {o : Nat}, l.Rep w U q o → ∀ {i : Nat} {t : Tr}, l.get i = some t → ∃ c, Cells w q (o + i * 5) c ∧ t.Rep w U c
 | .nil, _, _, _, _, h => by cases h
 | .cons t r, o, ⟨h1, h2⟩, i, u, h => by
  cases i with
  | zero =>
   simp only [Trs.get, Option.some.injEq] at h
   subst h
   simpa using h1
  | succ i =>
   obtain ⟨c, h3, h4⟩ := Trs.Rep.get (l := r) h2 (i := i) h
   exact ⟨c, by rwa [show o + 5 + i * 5 = o + (i + 1) * 5 by omega] at h3, h4⟩
theorem SFs.Rep.get {w : World} {U q : Nat} : ∀ {l : SFs} {o : Nat}, l.Rep w U q o → ∀ {i : Nat} {t : SF}, l.get i = some t → ∃ c, Cells w q (o + i * 8) c ∧ t.Rep w U c
 | .nil, _, _, _, _, h => by cases h
 | .cons t r, o, ⟨h1, h2⟩, i, u, h => by
  cases i with
  | zero =>
   simp only [SFs.get, Option.some.injEq] at h
   subst h
   simpa using h1
  | succ i =>
   obtain ⟨c, h3, h4⟩ := SFs.Rep.get (l := r) h2 (i := i) h
   exact ⟨c, by rwa [show o + 8 + i * 8 = o + (i + 1) * 8 by omega] at h3, h4⟩
theorem OctsB.below {w w' : World} {U : Nat} {v : Value} {l : List UInt8} (h : OctsB w U v l) (hw : Below U w w') : OctsB w' U v l := by
 rcases h with h | ⟨q, o, cap, h1, h2, h3, h4⟩
 ·exact .inl h
 ·exact .inr ⟨q, o, cap, h1, h2, h3, h4.below hw h3⟩
theorem UnkB.below {w w' : World} {U : Nat} {v : Value} {u : List (Nat × List UInt8)} (h : UnkB w U v u) (hw : Below U w w') : UnkB w' U v u := by
 rcases h with h | ⟨q, o, cap, h1, h2, h3, h4⟩
 ·exact .inl h
 ·refine .inr ⟨q, o, cap, h1, h2, h3, fun i x hx => ?_⟩
  obtain ⟨sv, h0, h5, h6⟩ := h4 i x hx
  exact ⟨sv, h0, h5.below hw h3, h6.below hw⟩
mutual
theorem Tr.Rep.below {w w' : World} {U : Nat} (hw : Below U w w') : ∀ {t : Tr} {cs : List Value}, t.Rep w U cs → t.Rep w' U cs
 | .mk n s nl l u, cs, ⟨sv, lv, uv, h1, h2, h3, h4⟩ => by
  refine ⟨sv, lv, uv, h1, h2.below hw, h3.below hw, ?_⟩
  rcases h4 with h4 | ⟨q, o, cap, h5, h6, h7, h8⟩
  ·exact .inl h4
  ·exact .inr ⟨q, o, cap, h5, h6, h7, Trs.Rep.below hw h7 h8⟩
theorem Trs.Rep.below {w w' : World} {U q : Nat} (hw : Below U w w') (hq : q < U) : ∀ {l : Trs} {o : Nat}, l.Rep w U q o → l.Rep w' U q o
 | .nil, _, _ => trivial
 | .cons t r, o, ⟨⟨c, h1, h2⟩, h3⟩ => ⟨⟨c, h1.below hw hq, Tr.Rep.below hw h2⟩, Trs.Rep.below hw hq h3⟩
end
mutual
theorem SF.Rep.below {w w' : World} {U : Nat} (hw : Below U w w') : ∀ {t : SF} {cs : List Value}, t.Rep w U cs → t.Rep w' U cs
 | .mk kind fr to nul tag df el sub, cs, ⟨sv, h1, h4⟩ => by
  refine ⟨sv, h1, ?_⟩
  rcases h4 with h4 | ⟨q, o, cap, h5, h6, h7, h8⟩
  ·exact .inl h4
  ·exact .inr ⟨q, o, cap, h5, h6, h7, SFs.Rep.below hw h7 h8⟩
theorem SFs.Rep.below {w w' : World} {U q : Nat} (hw : Below U w w') (hq : q < U) : ∀ {l : SFs} {o : Nat}, l.Rep w U q o → l.Rep w' U q o
 | .nil, _, _ => trivial
 | .cons t r, o, ⟨⟨c, h1, h2⟩, h3⟩ => ⟨⟨c, h1.below hw hq, SF.Rep.below hw h2⟩, SFs.Rep.below hw hq h3⟩
end
section
variable {P : Program} {a : Act} {w : World} {r : List Oper} {Q : Exit → Act → World → Prop}
end
def SF.has : SF → Int → Bool
 | .mk _ fr to _ _ _ _ _, v => decide (fr ≤ v) && (decide (to < 0) || decide (v ≤ to))
section
variable {P : Program} {E : Env} {w : World} {U : Nat}
end
end Go.Km
namespace Go.Km
open Go Go.RowKit
attribute [local irreducible] vc rO_ runG runS runD
section
variable {P : Program} {a : Act} {w : World} {r : List Oper} {Q : Exit → Act → World → Prop}
def lays (P : Program) (t : TypeId) : Option (List (Nat × Nat) × Array Value) :=
 match P.underlying t, P.info? t with
 | some (.struct fs), some it =>
  match it.zero, fs.toList.mapM (fun f => (P.info? f.type).map fun i => (f.offset, i.size)) with
  | some z, some pl => some (pl, z.cells)
  | _, _ => none
 | _, _ => none
theorem run_buildL {t : TypeId} {pl : List (Nat × Nat)} {z cells : Array Value} {parts : Array (Nat × Value)} (h : lays P t = some (pl, z)) (hf : Instr.fill (pl.toArray[·]?) z parts.toList = some cells) :
  (Instr.build t parts).run P w = .ok (.agg cells) w := by
 refine run_build w t parts cells ?_
 unfold lays at h
 split at h
 ·rename_i fs it hu hi
  split at h
  ·rename_i z' pl' hz hp
   simp only [Option.some.injEq, Prod.mk.injEq] at h
   obtain ⟨rfl, rfl⟩ := h
   unfold Program.built
   rw [hi, hu]
   simp only [hz, hp]
   exact hf
  ·cases h
 ·cases h
theorem r_build {d t ps ty p af g pl z cells} (h : lays P t = some (pl, z)) (hf : Instr.fill (pl.toArray[·]?) z (ps.map fun (x : Nat × Operand) => (x.1, a.eval x.2)).toList = some cells)
  (hn : rO_ P Q r (a.put (some d) (.agg cells)) w) : rO_ P Q (⟨some d, .build t ps, ty, p, af, g⟩ :: r) a w := by
 refine st ?_
 have hr : (Instr.build t (ps.map fun (i, x) => (i, a.eval x))).run P w = .ok (.agg cells) w := run_buildL h hf
 simp only [Oper.wp, execOp, Sem.run_bind, hr, Sem.run_pure, Result.andThen_ok, Oper.upon_value]
 exact hn
end
section
variable {P : Program} {E : Env} {w : World} {U : Nat}
theorem OctsB.one {w : World} {U : Nat} {v : Value} {l : List UInt8} (h : OctsB w U v l) : v.oneCell' = true := by
 rcases h with ⟨⟨_, _, rfl⟩, _⟩ | ⟨q, o, cap, rfl, _⟩ <;> rfl
theorem Tr.Rep.one {w : World} {U : Nat} {t : Tr} {cs : List Value} (h : t.Rep w U cs) : ∀ v ∈ cs, v.oneCell' = true := by
 cases t with
 | mk n s nl l u =>
  obtain ⟨sv, lv, uv, rfl, h1, h2, h3⟩ := h
  have e1 := h1.one
  have e2 : uv.oneCell' = true := by rcases h2 with ⟨⟨_, _, rfl⟩, _⟩ | ⟨q, o, cap, rfl, _⟩ <;> rfl
  have e3 : lv.oneCell' = true := by rcases h3 with ⟨⟨_, _, rfl⟩, _⟩ | ⟨q, o, cap, rfl, _⟩ <;> rfl
  intro v hv
  simp only [List.mem_cons, List.not_mem_nil, or_false] at hv
  rcases hv with rfl | rfl | rfl | rfl | rfl <;> first | rfl | assumption
theorem SF.Rep.one {w : World} {U : Nat} {f : SF} {cs : List Value} (h : f.Rep w U cs) : ∀ v ∈ cs, v.oneCell' = true := by
 cases f with
 | mk =>
  obtain ⟨sv, rfl, h3⟩ := h
  have e3 : sv.oneCell' = true := by rcases h3 with ⟨rfl, _⟩ | ⟨q, o, cap, rfl, _⟩ <;> rfl
  intro v hv
  simp only [List.mem_cons, List.not_mem_nil, or_false] at hv
  rcases hv with rfl | rfl | rfl | rfl | rfl | rfl | rfl | rfl <;> first | rfl | assumption
end
end Go.Km
namespace Go.Km
open Go Go.RowKit
attribute [local irreducible] vc rO_ runG runS runD
def RowB (w : World) (v : Value) (l : List UInt8) : Prop :=
 (v = .slice none 0 0 ∧ l = []) ∨ ∃ q o cap, v = .slice (some ⟨q, o, none⟩) l.length cap ∧ Cells w q o (l.map bv)
theorem RowB.of_own {w : World} {U : Nat} {e : TypeId} {v : Value} {l : List UInt8} (h : w.ownsRow U e 1 v l.length (l.map bv)) : RowB w v l := by
 rcases h.2 with ⟨rfl, h0⟩ | ⟨g, cap, cur, rfl, hbg, hg, hnc, hcm, hcs, htake⟩
 ·exact .inl ⟨rfl, List.eq_nil_of_length_eq_zero h0⟩
 ·refine .inr ⟨g, 0, cap, rfl, ?_⟩
  intro j u hu
  have := h.cells (g := g) rfl j u hu
  rwa [Addr.add_lit] at this
theorem RowB.at {w : World} {v : Value} {l : List UInt8} (h : RowB w v l) {i : Nat} (hi : i < l.length) : ∃ q o cap, v = .slice (some ⟨q, o, none⟩) l.length cap ∧ w.cell? ⟨q, o + i, none⟩ = some (.int .u8 (l[i]).toNat) := by
 rcases h with ⟨rfl, rfl⟩ | ⟨q, o, cap, rfl, hc⟩
 ·simp at hi
 ·refine ⟨q, o, cap, rfl, ?_⟩
  exact hc i (bv l[i]) (by simp [hi])
theorem cell_heap {w w' : World} (h : w'.heap = w.heap) (p : Addr) : w'.cell? p = w.cell? p := by
 unfold World.cell?
 rw [h]
theorem RowB.heap {w w' : World} (h : w'.heap = w.heap) {v : Value} {l : List UInt8} (hr : RowB w v l) : RowB w' v l := by
 rcases hr with hr | ⟨q, o, cap, h1, h2⟩
 ·exact .inl hr
 ·exact .inr ⟨q, o, cap, h1, fun i u hu => by rw [cell_heap h]; exact h2 i u hu⟩
section
variable {P : Program} {a : Act} {w : World} {Q : Exit → Act → World → Prop}
theorem vc_rgd {ops : List Oper} (ord : List (Nat × Bool)) (S : World → Prop) (hm : P.follows .mixedOrders = true) (hs : Region.noSelect ops.toArray = true) (hl : ord.length = ops.length) (hB : ordB ops.toArray ord (Array.replicate ops.length false) = true)
  (hQ : ∀ c a a' w, Q (.panic c) a w → Q (.panic c) a' w) (h : runD P ops Q S ord a { w with drawn := w.drawn + 1 }) : vc P (rgd ops) Q a w := vc_runD ord S hm hs hl hB hQ h
end
section
variable {P : Program} {E : Env} {w : World} {U : Nat}
end
end Go.Km
namespace Go.Km
open Go Go.RowKit
attribute [local irreducible] vc rO_ runG runS runD
abbrev RSt := List UInt8 × Bool
def beN (l : List UInt8) : Nat := l.foldl (fun n b => n * 256 + b.toNat) 0
def rdN (k : Nat) (st : RSt) : Nat × RSt := if st.1.length < k then (0, [], true) else (beN (st.1.take k), st.1.drop k, st.2)
def SrcV (W : World) (sb : Nat) (v : Value) (l : List UInt8) : Prop :=
 (v = .slice none 0 0 ∧ l = []) ∨ ∃ o cap, v = .slice (some ⟨sb, o, none⟩) l.length cap ∧ l.length ≤ cap ∧ Cells W sb o (l.map bv)
structure RdS (W : World) (rb sb : Nat) (st : RSt) : Prop where
 ne : rb ≠ sb
 lt : sb < W.heap.size
 cells : ∃ v, Cells W rb 0 [v, .bool st.2] ∧ SrcV W sb v st.1
 f0 : Free W rb 0
 f1 : Free W rb 1
 len : st.1.length ≤ big
abbrev RM (rb : Nat) : Nat → Nat → Prop := fun k i => k = rb ∧ i < 2
theorem SrcV.one {W : World} {sb : Nat} {v : Value} {l : List UInt8} (h : SrcV W sb v l) : v.oneCell' = true := by
 rcases h with ⟨rfl, _⟩ | ⟨o, cap, rfl, _⟩ <;> rfl
theorem SrcV.heap {W W' : World} {sb : Nat} {v : Value} {l : List UInt8} (h : SrcV W sb v l) (hk : W'.heap[sb]? = W.heap[sb]?) : SrcV W' sb v l := by
 rcases h with h | ⟨o, cap, h1, h2, h3⟩
 ·exact .inl h
 ·refine .inr ⟨o, cap, h1, h2, fun i u hu => ?_⟩
  have := h3 i u hu
  simp only [World.cell?] at this ⊢
  rw [hk]
  exact this
theorem SrcV.skip {W : World} {sb : Nat} {v : Value} {l : List UInt8} {ad : Option Addr} {cap n : Nat} (h : SrcV W sb v l) (hv : v = .slice ad l.length cap) (hn : n ≤ l.length) :
  SrcV W sb (.slice (if cap = n then ad else ad.map (·.add (n * 1))) (l.length - n) (cap - n)) (l.drop n) := by
 rcases h with ⟨h1, h2⟩ | ⟨o, c, h1, h2, h3⟩
 ·subst h2
  rw [h1] at hv
  simp only [Value.slice.injEq, List.length_nil] at hv
  obtain ⟨rfl, _, rfl⟩ := hv
  have : n = 0 := by simpa using hn
  subst this
  exact .inl ⟨by simp, by simp⟩
 ·rw [h1] at hv
  simp only [Value.slice.injEq, true_and] at hv
  obtain ⟨rfl, rfl⟩ := hv
  by_cases he : c = n
  ·subst he
   have hl : l.length = c := by omega
   rw [if_pos rfl]
   refine .inr ⟨o, 0, by rw [List.length_drop, Nat.sub_self], by rw [List.length_drop]; omega, fun i u hu => ?_⟩
   rw [List.drop_eq_nil_of_le (by omega)] at hu
   simp at hu
  ·rw [if_neg he]
   refine .inr ⟨o + n, c - n, ?_, by rw [List.length_drop]; omega, ?_⟩
   ·rw [List.length_drop, Nat.mul_one]
    simp [Addr.add_lit]
   ·intro i u hu
    rw [List.map_drop, List.getElem?_drop] at hu
    have := h3 _ u hu
    rwa [show o + (n + i) = o + n + i by omega] at this
theorem RdS.below {W W' : World} {rb sb : Nat} {st : RSt} {B : Nat} (h : RdS W rb sb st) (hb : Below B W W') (h1 : rb < B) (h2 : sb < B) : RdS W' rb sb st := by
 obtain ⟨v, h3, h4⟩ := h.cells
 have hk : W'.heap[sb]? = W.heap[sb]? := hb.block sb h2
 exact ⟨h.ne, Nat.lt_of_lt_of_le h.lt hb.size, ⟨v, h3.below hb h1, h4.heap hk⟩, ⟨by rw [hb.cell (p := ⟨rb, 0, none⟩) h1]; exact h.f0.1, by rw [hb.frozen (p := ⟨rb, 0, none⟩) h1]; exact h.f0.2⟩,
  ⟨by rw [hb.cell (p := ⟨rb, 1, none⟩) h1]; exact h.f1.1, by rw [hb.frozen (p := ⟨rb, 1, none⟩) h1]; exact h.f1.2⟩, h.len⟩
def NN (W : World) (rb : Nat) : Prop := ∃ a n c y, Cells W rb 0 [.slice (some a) n c, y]
theorem NN.below {W W' : World} {rb B : Nat} (h : NN W rb) (hb : Below B W W') (h1 : rb < B) : NN W' rb := by
 obtain ⟨a, n, c, y, h⟩ := h
 exact ⟨a, n, c, y, h.below hb h1⟩
section
variable {P : Program} {E : Env}
end
end Go.Km
namespace Go.Km
open Go Go.RowKit
attribute [local irreducible] vc rO_ runG runS runD
section
variable {P : Program} {E : Env} {a : Act} {w : World} {r : List Oper} {Q : Exit → Act → World → Prop}
end
section
variable {P : Program} {E : Env}
end
end Go.Km
namespace Go.Km
open Go Go.RowKit
attribute [local irreducible] vc rO_ runG runS runD
def sgn (k n : Nat) : Int := if n < 2 ^ (8 * k - 1) then (n : Int) else (n : Int) - 2 ^ (8 * k)
section
variable {P : Program} {E : Env}
end
end Go.Km
namespace Go.Km
open Go
end Go.Km
namespace Go.Km
open Go Go.RowKit
attribute [local irreducible] vc rO_ runG runS runD
def uvDec : Nat → Nat → List UInt8 → Option (Nat × Nat)
 | _, _, [] => none
 | i, acc, b :: r => if i = 4 then (if b.toNat ≤ 15 then some (acc + b.toNat * 2 ^ 28, 5) else none) else if b.toNat < 128 then some (acc + b.toNat * 2 ^ (7 * i), i + 1) else uvDec (i + 1) (acc + b.toNat % 128 * 2 ^ (7 * i)) r
def rdUv (st : RSt) : Nat × RSt := match uvDec 0 0 st.1 with | none => (0, [], true) | some (v, n) => (v, st.1.drop n, st.2)
theorem results_two {P : Program} {w : World} {a : Act} {t u : Nat} {v x : Value} (h : a.eval (.tmp t) = v) (h2 : a.eval (.tmp u) = x) : (results { (default : Func) with results := #[.tmp t, .tmp u] } a.tmps).run P w = .ok (.tuple #[v, x]) w := by
 subst h; subst h2
 simp [results, Act.eval]
section
variable {P : Program} {E : Env} {a : Act} {w : World} {r : List Oper} {Q : Exit → Act → World → Prop}
theorem r_extract {d x i t p af g} {vs : Array Value} {v : Value} (hx : a.eval x = .tuple vs) (hv : vs[i]? = some v) (h : rO_ P Q r (a.put (some d) v) w) : rO_ P Q (⟨some d, .extract x i, t, p, af, g⟩ :: r) a w := by
 refine st ?_
 have hr : (Instr.extract (a.eval x) i).run P w = .ok v w := by rw [hx]; simp [Instr.extract, hv]
 simp only [Oper.wp, execOp, Sem.run_bind, hr, Sem.run_pure, Result.andThen_ok, Oper.upon_value]
 exact h
end
section
variable {P : Program} {E : Env}
end
end Go.Km
namespace Go.Km
open Go Go.RowKit
attribute [local irreducible] vc rO_ runG runS runD
def rdSpan (l : Int) (st : RSt) : List UInt8 × RSt := if (st.1.length : Int) < l ∨ l < 0 then ([], [], true) else (st.1.take l.toNat, st.1.drop l.toNat, st.2)
section
variable {P : Program} {E : Env}
end
end Go.Km
namespace Go.Km
open Go Go.RowKit
attribute [local irreducible] vc rO_ runG runS runD
def rdL2 (st : RSt) : Int × RSt := (sgn 2 (rdN 2 st).1, (rdN 2 st).2)
def rdL4 (st : RSt) : Int × RSt := (sgn 4 (rdN 4 st).1, (rdN 4 st).2)
def rdLc (st : RSt) : Int × RSt := (((rdUv st).1 : Int) - 1, (rdUv st).2)
def rdStr (p : Int × RSt) : List UInt8 × RSt := rdSpan p.1 p.2
def rdNul (p : Int × RSt) : Option (List UInt8) × RSt := if p.1 < 0 then (none, p.2) else (some (rdSpan p.1 p.2).1, (rdSpan p.1 p.2).2)
def rdOct (p : Int × RSt) : Option (List UInt8) × RSt := if p.1 = -1 then (some [], p.2) else (some (rdSpan p.1 p.2).1, (rdSpan p.1 p.2).2)
def rdCount (p : Int × RSt) : Int × RSt := if (p.2.1.length : Int) < p.1 then (0, [], true) else p
def rdC4 (st : RSt) : Int × RSt := rdCount (rdL4 st)
def rdCc (st : RSt) : Int × RSt := rdCount (IntKind.i32.wrap (IntKind.i32.wrap ((rdUv st).1 : Int) - 1), (rdUv st).2)
section
variable {P : Program} {E : Env} {a : Act} {w : World} {r : List Oper} {Q : Exit → Act → World → Prop}
theorem r_convStr {d s t x ty p af g e v sb} {l : List UInt8} (hB : rowB P s e 1 = true) (he : intT P e = some .u8) (ht : strB P t = true) (hx : a.eval x = v) (hv : SrcV w sb v l) (h : rO_ P Q r (a.put (some d) (.string ⟨l.toArray⟩)) w) :
  rO_ P Q (⟨some d, .convert s t x, ty, p, af, g⟩ :: r) a w := by
 refine st ?_
 obtain ⟨hu, _⟩ := rowB_inv hB
 have he' : P.underlying e = some (.int .u8) := by
  unfold intT at he
  split at he
  ·simp_all
  ·cases he
 have hr : (convert s t (a.eval x)).run P w = .ok (.string ⟨l.toArray⟩) w := by
  rw [hx]
  rcases hv with ⟨rfl, rfl⟩ | ⟨o, cap, rfl, _, hc⟩
  ·exact Go.Lib.run_convert_nil_bytes w s t e 0 hu he' (strB_inv ht)
  ·refine run_convert_bytes_back w s t e ⟨sb, o, none⟩ cap l hu he' (strB_inv ht) (fun j hj => ?_)
   rw [Addr.add_lit]
   exact hc j _ (by rw [List.getElem?_map, List.getElem?_eq_getElem hj]; rfl)
 simp only [Oper.wp, execOp, Sem.run_bind, hr, Sem.run_pure, Result.andThen_ok, Oper.upon_value]
 exact h
end
section
variable {P : Program} {E : Env} {rb sb : Nat} {st : RSt} {W : World}
end
end Go.Km
namespace Go.Km
open Go Go.RowKit
attribute [local irreducible] vc rO_ runG runS runD
section
variable {P : Program} {E : Env} {rb sb : Nat} {st : RSt} {W : World}
end
end Go.Km
namespace Go.Km
open Go Go.RowKit
attribute [local irreducible] vc rO_ runG runS runD
section
variable {P : Program} {a : Act} {w : World} {r : List Oper} {Q : Exit → Act → World → Prop}
end
section
variable {P : Program} {E : Env} {rb sb : Nat} {st : RSt} {W : World}
end
end Go.Km
namespace Go.Km
open Go Go.RowKit
def Trs.toL : Trs → List Tr
 | .nil => []
 | .cons t r => t :: r.toL
def SFs.tags : SFs → List Int
 | .nil => []
 | .cons (.mk _ _ _ _ tag _ _ _) r => tag :: r.tags
mutual
def SF.one : SF → Tr
 | .mk kind _ _ nul _ df _ sub => .mk df [] (decide (nul ≥ 0)) (if kind = 10 then sub.ones else .nil) []
def SFs.ones : SFs → Trs
 | .nil => .nil
 | .cons f r => .cons f.one r.ones
end
def SFs.dflt (fs : SFs) : Tr := .mk 0 [] false fs.ones []
mutual
def Ty.dflt : Ty → D
 | .scal _ df | .named _ _ df => .int df
 | .uuid => .bytes (some (List.replicate 16 0))
 | .text => .bytes (some [])
 | .ntext | .ntextFrom _ => .bytes none
 | .bytes | .nbytes => .bytes none
 | .list _ _ _ => .list none
 | .struct _ _ _ fs => .obj fs.dflt []
def Flds.dflt : Flds → List D
 | .nil _ => []
 | .cons _ t r => t.dflt :: r.dflt
end
end Go.Km
namespace Go.Km
open Go Go.RowKit
attribute [local irreducible] vc rO_ runG runS runD
section
variable {P : Program} {a : Act} {w : World} {r : List Oper} {Q : Exit → Act → World → Prop}
end
def Scal.rd : Scal → RSt → Int × RSt
 | .bool, st => (if (rdN 1 st).1 != 0 then 1 else 0, (rdN 1 st).2)
 | .i8, st => (sgn 1 (rdN 1 st).1, (rdN 1 st).2)
 | .i16, st => (sgn 2 (rdN 2 st).1, (rdN 2 st).2)
 | .u16, st => ((rdN 2 st).1, (rdN 2 st).2)
 | .i32, st => (sgn 4 (rdN 4 st).1, (rdN 4 st).2)
 | .i64, st => (sgn 8 (rdN 8 st).1, (rdN 8 st).2)
 | .f64, st => ((rdN 8 st).1, (rdN 8 st).2)
def rdMany (f : RSt → D × RSt) : Nat → RSt → List D × RSt
 | 0, st => ([], st)
 | n + 1, st => ((f st).1 :: (rdMany f n (f st).2).1, (rdMany f n (f st).2).2)
def setTag (k : Nat) (v : List UInt8) : List (Nat × List UInt8) → List (Nat × List UInt8)
 | [] => [(k, v)]
 | x :: l => if k < x.1 then (k, v) :: x :: l else if k = x.1 then (k, v) :: l else x :: setTag k v l
def rdTag (st : RSt) : (Nat × List UInt8) × RSt :=
 let p := rdUv st
 let q := rdUv p.2
 let s := rdSpan (q.1 : Int) q.2
 ((p.1, s.1), s.2)
def rdTagsN : Nat → List (Nat × List UInt8) → RSt → List (Nat × List UInt8) × RSt
 | 0, l, st => (l, st)
 | n + 1, l, st => rdTagsN n (setTag (rdTag st).1.1 (rdTag st).1.2 l) (rdTag st).2
def rdTags (st : RSt) : List (Nat × List UInt8) × RSt := rdTagsN (rdUv st).1 [] (rdUv st).2
def rdL (fx : Bool) (st : RSt) : Int × RSt := if fx then rdLc st else rdL2 st
def rdLB (fx : Bool) (st : RSt) : Int × RSt := if fx then rdLc st else rdL4 st
def rdCn (fx : Bool) (st : RSt) : Int × RSt := if fx then rdCc st else rdC4 st
def emptyB (null : Option Nat) (ver : Nat) (n : Int) : Bool :=
 match null with
 | none => false
 | some N => decide (ver < N) || n == 0
mutual
def Ty.rd (fx : Bool) (ver : Nat) : Ty → RSt → D × RSt
 | .scal s _, st | .named s _ _, st => (.int (s.rd st).1, (s.rd st).2)
 | .uuid, st => (.bytes (some (rdSpan 16 st).1), (rdSpan 16 st).2)
 | .text, st => (.bytes (some (rdStr (rdL fx st)).1), (rdStr (rdL fx st)).2)
 | .ntext, st => (.bytes (rdNul (rdL fx st)).1, (rdNul (rdL fx st)).2)
 | .ntextFrom N, st => if ver < N then (.bytes (some (rdStr (rdL fx st)).1), (rdStr (rdL fx st)).2) else (.bytes (rdNul (rdL fx st)).1, (rdNul (rdL fx st)).2)
 | .bytes, st => (.bytes (rdOct (rdLB fx st)).1, (rdOct (rdLB fx st)).2)
 | .nbytes, st => (.bytes (rdNul (rdLB fx st)).1, (rdNul (rdLB fx st)).2)
 | .list _ null e, st =>
  if (rdCn fx st).2.2 then (.list none, (rdCn fx st).2)
  else if (rdCn fx st).1 ≤ 0 then (if emptyB null ver (rdCn fx st).1 then .list (some []) else .list none, (rdCn fx st).2)
  else (.list (some (rdMany (fun s => e.rd fx ver s) (rdCn fx st).1.toNat (rdCn fx st).2).1), (rdMany (fun s => e.rd fx ver s) (rdCn fx st).1.toNat (rdCn fx st).2).2)
 | .struct _ _ _ fs, st => (.obj (fs.rd fx ver st).1 (fs.rd fx ver st).2.1, (fs.rd fx ver st).2.2)
def Flds.rd (fx : Bool) (ver : Nat) : Flds → RSt → List D × List (Nat × List UInt8) × RSt
 | .nil _, st => if fx then ([], rdTags st) else ([], [], st)
 | .cons v t r, st =>
  if v.has ver then ((t.rd fx ver st).1 :: (r.rd fx ver (t.rd fx ver st).2).1, (r.rd fx ver (t.rd fx ver st).2).2)
  else (t.dflt :: (r.rd fx ver st).1, (r.rd fx ver st).2)
end
end Go.Km
namespace Go.Km
open Go Go.RowKit
attribute [local irreducible] vc rO_ runG
theorem Cells.append {w : World} {b o : Nat} {xs ys : List Value} (h1 : Cells w b o xs) (h2 : Cells w b (o + xs.length) ys) : Cells w b o (xs ++ ys) := by
 intro i v hv
 rcases Nat.lt_or_ge i xs.length with h | h
 ·rw [List.getElem?_append_left h] at hv; exact h1 i v hv
 ·rw [List.getElem?_append_right h] at hv
  have := h2 _ v hv
  rwa [show o + xs.length + (i - xs.length) = o + i by omega] at this
theorem Cells.tk {w : World} {b o n : Nat} {xs : List Value} (h : Cells w b o xs) : Cells w b o (xs.take n) := by
 intro i v hv
 rw [List.getElem?_take] at hv
 split at hv
 ·exact h i v hv
 ·cases hv
theorem Cells.dp {w : World} {b o n : Nat} {xs : List Value} (h : Cells w b o xs) : Cells w b (o + n) (xs.drop n) := by
 intro i v hv
 rw [List.getElem?_drop] at hv
 have := h _ v hv
 rwa [show o + (n + i) = o + n + i by omega] at this
section
variable {P : Program} {E : Env}
end
end Go.Km
namespace Go.Km
open Go Go.RowKit
attribute [local irreducible] vc rO_ runG
section
variable {P : Program} {E : Env}
end
end Go.Km
namespace Go.Km
open Go Go.RowKit
attribute [local irreducible] vc rO_ runG runS runD
theorem OctRep.eff {M : Nat → Nat → Prop} {w w' : World} {sb : Sb} {B B' : Nat} {v : Value} {l : List UInt8} (he : Eff M w w') (hsb : ∀ i, ¬ M sb.b i) (hM : ∀ k i, B ≤ k → k < w.heap.size → ¬ M k i) (hB : B' ≤ B) (h : OctRep w sb B v l) : OctRep w' sb B' v l := by
 rcases h with h | ⟨c, o, cap, hv, hc, hs, h⟩
 ·exact .inl h
 ·refine .inr ⟨c, o, cap, hv, hc.imp id (fun h => by omega), Nat.lt_of_lt_of_le hs he.size, h.eff he (fun i _ => ?_)⟩
  rcases hc with rfl | hc
  ·exact hsb _
  ·exact hM _ _ hc hs
theorem TagsRep.eff {M : Nat → Nat → Prop} {w w' : World} {sb : Sb} {B B' : Nat} {v : Value} {l : List (Nat × List UInt8)} (he : Eff M w w') (hsb : ∀ i, ¬ M sb.b i) (hM : ∀ k i, B ≤ k → k < w.heap.size → ¬ M k i) (hB : B' ≤ B) (h : TagsRep w sb B v l) : TagsRep w' sb B' v l := by
 obtain ⟨h1, h2, h3⟩ := h
 refine ⟨h1, h2, ?_⟩
 rcases h3 with h3 | ⟨q, es, clock, hv, hq, hs, hm, hb, hn, l', hl, hsz, hel⟩
 ·exact .inl h3
 ·refine .inr ⟨q, es, clock, hv, by omega, Nat.lt_of_lt_of_le hs he.size, ?_, hb, hn, l', hl, hsz, fun i x hx => ?_⟩
  ·rw [he.blockEq hs (fun i => hM _ _ hq hs)]; exact hm
  ·obtain ⟨e, h1, h2, h3⟩ := hel i x hx
   exact ⟨e, h1, h2, h3.eff he hsb hM hB⟩
mutual
theorem Ty.Rep.eff {M : Nat → Nat → Prop} {w w' : World} {sb : Sb} (he : Eff M w w') (hsb : ∀ i, ¬ M sb.b i) : ∀ (t : Ty) (B B' : Nat) (cs : List Value) (d : D), (∀ k i, B ≤ k → k < w.heap.size → ¬ M k i) → B' ≤ B → t.Rep w sb B cs d → t.Rep w' sb B' cs d
 | .scal _ _, B, B', cs, d, hM, hB, h | .named _ _ _, B, B', cs, d, hM, hB, h => by
  cases d with
  | int n => simpa only [Ty.Rep] using h
  | _ => exact absurd h (by simp [Ty.Rep])
 | .uuid, B, B', cs, d, hM, hB, h => by
  cases d with
  | bytes o =>
   cases o with
   | some l => simpa only [Ty.Rep] using h
   | none => exact absurd h (by simp [Ty.Rep])
  | _ => exact absurd h (by simp [Ty.Rep])
 | .text, B, B', cs, d, hM, hB, h => by
  cases d with
  | bytes o =>
   cases o with
   | some l => simpa only [Ty.Rep] using h
   | none => exact absurd h (by simp [Ty.Rep])
  | _ => exact absurd h (by simp [Ty.Rep])
 | .ntext, B, B', cs, d, hM, hB, h | .ntextFrom _, B, B', cs, d, hM, hB, h => by
  cases d with
  | bytes o =>
   cases o with
   | some l =>
    simp only [Ty.Rep] at h ⊢
    obtain ⟨q, h1, h2, h3⟩ := h
    exact ⟨q, h1, by omega, he.cellSome h3 (hM _ _ h2 (lt_of_cell h3))⟩
   | none => simpa only [Ty.Rep] using h
  | _ => exact absurd h (by simp [Ty.Rep])
 | .bytes, B, B', cs, d, hM, hB, h | .nbytes, B, B', cs, d, hM, hB, h => by
  cases d with
  | bytes o =>
   cases o with
   | some l =>
    simp only [Ty.Rep] at h ⊢
    obtain ⟨q, o, cap, h1, h2, h3, h4⟩ := h
    refine ⟨q, o, cap, h1, h2.imp id (fun h => by omega), h3.eff he (fun i _ => ?_), Nat.lt_of_lt_of_le h4 he.size⟩
    rcases h2 with rfl | h2
    ·exact hsb _
    ·exact hM _ _ h2 h4
   | none => simpa only [Ty.Rep] using h
  | _ => exact absurd h (by simp [Ty.Rep])
 | .list _ _ e, B, B', cs, d, hM, hB, h => by
  cases d with
  | list o =>
   cases o with
   | some l =>
    simp only [Ty.Rep] at h ⊢
    obtain ⟨q, cap, h1, h2, h3, h4, h5⟩ := h
    refine ⟨q, cap, h1, by omega, Nat.lt_of_lt_of_le h3 he.size, h4, fun i d hd => ?_⟩
    obtain ⟨c, h6, h7, h8⟩ := h5 i d hd
    exact ⟨c, h6, h7.eff he (fun i _ => hM _ _ h2 h3), Ty.Rep.eff he hsb e (q + 1) (q + 1) c d (fun k i hk => hM k i (by omega)) (Nat.le_refl _) h8⟩
   | none => simpa only [Ty.Rep] using h
  | _ => exact absurd h (by simp [Ty.Rep])
 | .struct _ _ _ fs, B, B', cs, d, hM, hB, h => by
  cases d with
  | obj l tags => simp only [Ty.Rep] at h ⊢; exact Flds.Rep.eff he hsb fs B B' cs l tags hM hB h
  | _ => exact absurd h (by simp [Ty.Rep])
theorem Flds.Rep.eff {M : Nat → Nat → Prop} {w w' : World} {sb : Sb} (he : Eff M w w') (hsb : ∀ i, ¬ M sb.b i) : ∀ (t : Flds) (B B' : Nat) (cs : List Value) (l : List D) (tags : List (Nat × List UInt8)), (∀ k i, B ≤ k → k < w.heap.size → ¬ M k i) → B' ≤ B → t.Rep w sb B cs l tags → t.Rep w' sb B' cs l tags
 | .nil b, B, B', cs, l, tags, hM, hB, h => by
  cases l with
  | cons _ _ => exact absurd h (by simp [Flds.Rep])
  | nil =>
   simp only [Flds.Rep] at h ⊢
   cases b with
   | false => simpa using h
   | true =>
    simp only [if_true] at h ⊢
    obtain ⟨v, h1, h2⟩ := h
    exact ⟨v, h1, h2.eff he hsb hM hB⟩
 | .cons _ t r, B, B', cs, l, tags, hM, hB, h => by
  cases l with
  | nil => exact absurd h (by simp [Flds.Rep])
  | cons d l =>
   simp only [Flds.Rep] at h ⊢
   exact ⟨Ty.Rep.eff he hsb t B B' _ d hM hB h.1, Flds.Rep.eff he hsb r B B' _ l tags hM hB h.2⟩
end
structure RSta (E : Env) (x : Cx) (ver : Nat) (fx : Bool) (rb sb : Nat) (ev : Value) (a : Act) (w : World) (st : RSt) : Prop where
 rd : RdS w rb sb st
 p7 : a.eval (.tmp 7) = .pointer (some ⟨rb, 0, none⟩)
 us : a.eval (.tmp 2) = .bool false
 ver : a.eval (.tmp x.vs) = .int .i16 (ver : Int)
 fl : ∀ f, x.fl = some f → a.eval (.tmp f) = .bool fx
 err : w.cell? ⟨E.vErr, 0, none⟩ = some ev
 evr : E.vErr ≠ rb
def KR (L n t : Nat) (k : Nat) : Prop := k < n ∨ (L ≤ k ∧ k < t)
theorem KR.mono {L n n' t t' : Nat} (hn : n ≤ n') (ht : t ≤ t') : ∀ k, KR L n t k → KR L n' t' k := fun k h => h.elim (fun h => .inl (by omega)) (fun h => .inr ⟨h.1, by omega⟩)
structure RSl (x : Cx) (L n t : Nat) (fx : Bool) : Prop where
 seven : 7 < n
 vs : x.vs < n
 fl : ∀ f, x.fl = some f → f < n
 no : x.fl = none → fx = false
 nL : n ≤ L
 Lt : L ≤ t
theorem RSl.kt {x : Cx} {L n t : Nat} {fx : Bool} (h : RSl x L n t fx) : ∀ d, t ≤ d → ¬ KR L n t d := by
 rintro d hd h2
 have := h.nL; have := h.Lt
 unfold KR at h2
 omega
theorem RSl.kn {x : Cx} {L n t : Nat} {fx : Bool} (h : RSl x L n t fx) : ∀ d, n ≤ d → d < L → ¬ KR L n t d := by
 rintro d hd hl h2
 unfold KR at h2
 omega
section
variable {P : Program} {E : Env} {x : Cx} {ver : Nat} {fx : Bool} {rb sb : Nat} {ev : Value} {a a' : Act} {w w' : World} {st st' : RSt} {L n t : Nat} {Q : Exit → Act → World → Prop}
theorem RSta.fr (h : RSta E x ver fx rb sb ev a w st) (hs : RSl x L n t fx) (hf : Fr (KR L n t) a a') : RSta E x ver fx rb sb ev a' w st :=
 ⟨h.rd, by rw [hf.slot 7 (.inl hs.seven)]; exact h.p7, by rw [hf.slot 2 (.inl (by have := hs.seven; omega))]; exact h.us, by rw [hf.slot _ (.inl hs.vs)]; exact h.ver, fun f hh => by rw [hf.slot _ (.inl (hs.fl f hh))]; exact h.fl f hh, h.err, h.evr⟩
theorem RSta.step (h : RSta E x ver fx rb sb ev a w st) (hs : RSl x L n t fx) (hf : Fr (KR L n t) a a') (hr : RdS w' rb sb st') (he : Eff (RM rb) w w') : RSta E x ver fx rb sb ev a' w' st' :=
 ⟨hr, (h.fr hs hf).p7, (h.fr hs hf).us, (h.fr hs hf).ver, (h.fr hs hf).fl, he.cellSome h.err (fun hh => h.evr hh.1), h.evr⟩
end
end Go.Km
namespace Go.Km
open Go Go.RowKit
section
variable {P : Program} {E : Env}
end
end Go.Km
namespace Go.Km
open Go Go.RowKit
attribute [local irreducible] vc rO_ runG runS runD
section
variable {P : Program} {E : Env} {T : List (Nat × List UInt8) → Prop}
end
end Go.Km
namespace Go.Km
open Go Go.RowKit
attribute [local irreducible] vc rO_ runG runS runD
theorem RdS.keep {M : Nat → Nat → Prop} {W W' : World} {rb sb : Nat} {st : RSt} (h : RdS W rb sb st) (he : Eff M W W') (h1 : ∀ i, ¬ M rb i) (h2 : ∀ i, ¬ M sb i) : RdS W' rb sb st := by
 obtain ⟨v, h3, h4⟩ := h.cells
 exact ⟨h.ne, Nat.lt_of_lt_of_le h.lt he.size, ⟨v, h3.eff he (fun i _ => h1 _), h4.heap (he.blockEq h.lt h2)⟩, h.f0.eff he, h.f1.eff he, h.len⟩
theorem RSta.keep {E : Env} {x : Cx} {ver : Nat} {fx : Bool} {rb sb : Nat} {ev : Value} {a a' : Act} {w w' : World} {st : RSt} {L n t : Nat} {M : Nat → Nat → Prop}
  (h : RSta E x ver fx rb sb ev a w st) (hs : RSl x L n t fx) (hf : Fr (KR L n t) a a') (he : Eff M w w') (h1 : ∀ i, ¬ M rb i) (h2 : ∀ i, ¬ M sb i) (h3 : ∀ i, ¬ M E.vErr i) : RSta E x ver fx rb sb ev a' w' st :=
 ⟨h.rd.keep he h1 h2, (h.fr hs hf).p7, (h.fr hs hf).us, (h.fr hs hf).ver, (h.fr hs hf).fl, he.cellSome h.err (h3 _), h.evr⟩
section
variable {P : Program} {E : Env} {T : List (Nat × List UInt8) → Prop}
end
section
variable {P : Program} {E : Env} {a : Act} {w : World} {r : List Oper} {Q : Exit → Act → World → Prop}
end
section
variable {P : Program} {E : Env} {T : List (Nat × List UInt8) → Prop}
end
end Go.Km
namespace Go.Km
open Go Go.RowKit
attribute [local irreducible] vc rO_ runG runS runD
section
variable {P : Program} {a : Act} {w : World} {r : List Oper} {Q : Exit → Act → World → Prop}
end
section
variable {P : Program} {E : Env}
end
end Go.Km
namespace Go.Km
open Go Go.RowKit
attribute [local irreducible] vc rO_ runG runS runD
section
variable {P : Program} {E : Env} {T : List (Nat × List UInt8) → Prop} {K : Nat → Prop} {a : Act} {w : World} {Q : Exit → Act → World → Prop}
end
end Go.Km
namespace Go.Km
open Go Go.RowKit
attribute [local irreducible] vc rO_ runG runS runD
section
variable {P : Program} {E : Env} {T : List (Nat × List UInt8) → Prop}
end
end Go.Km
namespace Go.Km
open Go Go.RowKit
attribute [local irreducible] vc rO_ runG runS runD
section
variable {P : Program} {E : Env} {T : List (Nat × List UInt8) → Prop}
end
end Go.Km
namespace Go.Km
open Go Go.RowKit
attribute [local irreducible] vc rO_ runG runS runD
section
variable {P : Program} {E : Env} {T : List (Nat × List UInt8) → Prop}
end
end Go.Km
namespace Go.Km
open Go Go.RowKit
attribute [local irreducible] vc rO_ runG runS runD
section
variable {P : Program} {E : Env} {T : List (Nat × List UInt8) → Prop}
end
end Go.Km
namespace Go.Km
open Go Go.RowKit
attribute [local irreducible] vc rO_ runG runS runD
section
variable {P : Program} {E : Env} {T : List (Nat × List UInt8) → Prop}
end
end Go.Km
namespace Go.Km
open Go Go.RowKit
attribute [local irreducible] vc rO_ runG runS runD
section
variable {P : Program} {E : Env} {T : List (Nat × List UInt8) → Prop}
end
end Go.Km
namespace Go.Km
open Go Go.RowKit
attribute [local irreducible] vc rO_ runG runS runD
def ifaceT (P : Program) (t : TypeId) : Bool :=
 match P.underlying t with
 | some (.interface _) => true
 | _ => false
def isErr : Value → Bool
 | .nilIface => false
 | _ => true
section
variable {P : Program} {E : Env} {T : List (Nat × List UInt8) → Prop}
theorem r_neqNil {a : Act} {w : World} {r : List Oper} {Q : Exit → Act → World → Prop} {d t x yt ty p af g v} (ht : ifaceT P t = true) (hx : a.eval x = v) (hv : v = .nilIface ∨ ∃ u z, v = .iface u z) (h : rO_ P Q r (a.put (some d) (.bool (isErr v))) w) :
  rO_ P Q (⟨some d, .binOp .neq t x (.const .nilIface) yt, ty, p, af, g⟩ :: r) a w := by
 obtain ⟨ms, hu⟩ : ∃ ms, P.underlying t = some (.interface ms) := by
  unfold ifaceT at ht
  split at ht
  ·rename_i ms h; exact ⟨ms, h⟩
  ·cases ht
 refine st ?_
 rcases hv with rfl | ⟨u, z, rfl⟩
 ·have h1 : (eqGuard .neq t x (.const .nilIface) .nilIface .nilIface).run P w = .ok () w := by cases x <;> simp [eqGuard]
  have h2 : (binOp .neq t .nilIface .nilIface).run P w = .ok (.bool false) w := by
   simp only [binOp]
   have h0 : ∀ k : Nat, (Op.equalIn (k + 1) t .nilIface .nilIface).run P w = .ok true w := fun k => by simp [Op.equalIn, run_underlying hu]
   simp [Op.equal, Op.maxDepth, h0 9999]
  simp only [Oper.wp, execOp, hx, eval_const, h1, h2, Sem.run_bind, Sem.run_pure, Result.andThen_ok, Oper.upon_value]
  exact h
 ·have h1 : (eqGuard .neq t x (.const .nilIface) (.iface u z) .nilIface).run P w = .ok () w := by simp [eqGuard]
  have h2 : (binOp .neq t (.iface u z) .nilIface).run P w = .ok (.bool true) w := by
   simp only [binOp]
   have h0 : ∀ k : Nat, (Op.equalIn (k + 1) t (.iface u z) .nilIface).run P w = .ok false w := fun k => by simp [Op.equalIn, run_underlying hu]
   simp [Op.equal, Op.maxDepth, h0 9999]
  simp only [Oper.wp, execOp, hx, eval_const, h1, h2, Sem.run_bind, Sem.run_pure, Result.andThen_ok, Oper.upon_value]
  exact h
theorem RowB.below {w w' : World} {B : Nat} {v : Value} {l : List UInt8} (h : RowB w v l) (hb : Below B w w') (hB : B = w.heap.size := by rfl) : RowB w' v l := by
 rcases h with h | ⟨q, o, cap, hv, hc⟩
 ·exact .inl h
 ·refine .inr ⟨q, o, cap, hv, fun i u hu => ?_⟩
  have h1 := hc i u hu
  rw [hb.cell (p := ⟨q, o + i, none⟩) (show q < B by rw [hB]; exact lt_of_cell h1)]
  exact h1
theorem RowB.src {w : World} {t e : TypeId} {v : Value} {l : List UInt8} (h : RowB w v l) (ht : sliceT P t = some (e, 1)) : Src P 1 t v l.length (l.map bv) w := by
 rcases h with ⟨rfl, rfl⟩ | ⟨q, o, cap, rfl, hc⟩
 ·exact src_nil ht
 ·exact src_cells ht hc (by simp) (bv_one l)
end
end Go.Km
namespace Go.Km
open Go Go.RowKit
def Ext {α : Type} (g : RSt → α × RSt) : Prop := ∀ l m : List UInt8, (g (l, false)).2.2 = false → g (l ++ m, false) = ((g (l, false)).1, (g (l, false)).2.1 ++ m, false)
theorem Ext.bind {α β : Type} {g : RSt → α × RSt} {f : α → RSt → β × RSt} (hg : Ext g) (hf : ∀ x, Ext (f x)) (hm : ∀ x st, (f x st).2.2 = false → st.2 = false) : Ext fun st => f (g st).1 (g st).2 := by
 intro l m h
 have h : (f (g (l, false)).1 (g (l, false)).2).2.2 = false := h
 have h1 := hm _ _ h
 have e := hg l m h1
 show f (g (l ++ m, false)).1 (g (l ++ m, false)).2 = ((f (g (l, false)).1 (g (l, false)).2).1, (f (g (l, false)).1 (g (l, false)).2).2.1 ++ m, false)
 rw [e]
 have e2 : (g (l, false)).2 = ((g (l, false)).2.1, false) := Prod.ext rfl h1
 rw [e2] at h ⊢
 exact hf _ _ _ h
theorem Ext.map {α β : Type} {g : RSt → α × RSt} (hg : Ext g) (f : α → β) : Ext fun st => (f (g st).1, (g st).2) := by
 intro l m h
 show (f (g (l ++ m, false)).1, (g (l ++ m, false)).2) = _
 rw [hg l m h]
theorem Ext.pure {α : Type} (x : α) : Ext fun st => (x, st) := fun l m h => rfl
end Go.Km
namespace Go.Km
open Go Go.RowKit
mutual
def Ty.pos (fx : Bool) (ver : Nat) : Ty → Bool
 | .struct _ _ _ fs => fs.pos fx ver
 | _ => true
def Flds.pos (fx : Bool) (ver : Nat) : Flds → Bool
 | .nil _ => fx
 | .cons v t r => (v.has ver && t.pos fx ver) || r.pos fx ver
end
end Go.Km
namespace Go.Km
open Go Go.RowKit
end Go.Km
namespace Go.Km
open Go Go.RowKit
attribute [local irreducible] vc rO_ runG runS runD
def BytesIn (P : Program) (E : Env) (W : World) (sv : Value) (l : List UInt8) : Prop :=
 (∃ ad cap, sv = .slice ad l.length cap) ∧ ∀ w', Below W.heap.size W w' → Src P 1 E.tB sv l.length (l.map bv) w'
theorem BytesIn.below {P : Program} {E : Env} {W W' : World} {sv : Value} {l : List UInt8} (h : BytesIn P E W sv l) (hb : Below W.heap.size W W') : BytesIn P E W' sv l :=
 ⟨h.1, fun w' hb' => h.2 w' (hb.trans (hb'.mono hb.size))⟩
section
variable {P : Program} {E : Env}
end
end Go.Km
namespace Go.Km
open Go Go.RowKit Go.ChangeShapes Go.WideShapes Go.ChangeAt
section
variable {H : Type} {enc : TypeId × Value → H} {P : Program} {E : Env}
theorem trodAll_below (hl : laidOutB P = true) {W W' : World} (hb : Below W.heap.size W W') : ∀ {ts : List TypeId} {vs : List Value} {ds : List (DataW H)} {ps : List MemPlace},
  (∀ t ∈ ts, P.readableRec t = true ∧ t < P.types.size) → DataW.TrodAll enc P W 0 (fun _ => true) true ts vs ds ps → (∀ x ∈ ps, x.block < W.heap.size) → DataW.TrodAll enc P W' 0 (fun b => decide (b < W.heap.size)) true ts vs ds ps
 | [], vs, ds, ps, _, h, _ => by
  obtain ⟨rfl, rfl, rfl⟩ := trodAll_nil h
  exact trodAll_mk0
 | t :: ts, vs, ds, ps, hr, h, hlt => by
  obtain ⟨v, vs', d, ds', p, q, rfl, rfl, rfl, h1, h2⟩ := trodAll_cons h
  have ht := hr t (by simp)
  exact trodAll_cons_mk (Below.trod hl ht.1 ht.2 h1 hb (fun x hx => hlt x (by simp [hx]))) (trodAll_below hl hb (fun t ht => hr t (by simp [ht])) h2 (fun x hx => hlt x (by simp [hx])))
theorem boolPost {f : Func} {s : ChangeSpec} {apart : Bool} {W W' : World} {args : Array Value} {ds gs : List (DataW H)} {before : List MemPlace} {tb : TypeId} (hW : DataW.Whole enc P f.params.toList s.vars apart W args.toList ds gs before) (hvars : s.vars = [])
  (hl : laidOutB P = true) (hr : ∀ t ∈ f.params.toList, P.readableRec t = true ∧ t < P.types.size) (hb : Below W.heap.size W W') (hrt : f.resultTypes = #[tb]) (hub : P.underlying tb = some .bool) (hfn : s.fn H ds = { results := [.lit (.bool true)], args := ds }) :
  s.post enc P f apart true false false W args (.bool true) W' := by
 have hW' := hW
 have hlt := hW.lt
 obtain ⟨p, q, hA, hV, rfl, _, _⟩ := hW
 rw [hvars] at hV
 obtain ⟨rfl, rfl⟩ := trodVars_none hV
 refine ⟨ds, [], _, [], p, [], hW', ?_, ?_, ?_, hb.frame _, fun h => by cases h⟩
 ·rw [List.append_nil, hfn, hrt]
  exact trodAll_mk1 (shut_bool hub _)
 ·rw [List.append_nil, hfn]
  exact trodAll_below hl hb hr hA (fun x hx => hlt x (by simp [hx]))
 ·rw [List.append_nil, hfn, hvars]
  rfl
end
end Go.Km
