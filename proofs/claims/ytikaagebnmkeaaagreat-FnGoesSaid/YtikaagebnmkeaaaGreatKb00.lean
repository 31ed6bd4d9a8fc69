/- A calculus of weakest preconditions over codes whose positions are struck, and rules for single operations, over any program. Rules for single operations, over any program; frames by their slots. Memory: which cells a call may have written. More rules for single operations. The shapes of kmsg's messages, and the code that its generator writes for them. The texts of the functions of kbin that write (printed by a program from the translation). The texts of the functions of kbin that read (printed by a program from the translation). The texts of the functions of the spec (printed by a program from the translation). What kmsg's messages say, as data; what is written of data; how data lie in memory. No program in sight but for memory. The statements of AppendTo, one by one. More rules: append of whatever, slices laid out, struct values; guarded regions; regions that draw their order. The loop 'for i := range x' of AppendTo. What AppendTo writes: for every shape of a message. What AppendTo writes: tags, fields, lists, structs; every shape. What AppendTo writes: lists, structs; every shape; the whole function. What AppendTo writes: every shape; the whole function. What kbin's functions that write do. What kbin's functions that write do: texts, octets, counts. What kbin's AppendUvarint does. Tags: how many; the writing of none. All of kbin's writing together. What the small functions of the spec do. What the small functions of the spec do: Uvarint, width, counted, version. The trees and the fields of the spec in memory; has, null, whole, things, at, Same. whole, things, at, Same. Same. The reader: its state; what its methods have in common. binary.BigEndian. The reader's methods for numbers. Bodies that jump forward to a label. kbin.Uvarint, and the reader's Uvarint. The reader's Uvarint, Span, Int8, Bool, Int64, Ok. The reader's other methods. The reader's methods for texts, octets, counts. The reader's methods for octets and counts. What the spec's functions compute, in plain Lean. The reader: a list is made; what is read, as a plain function. kmsg's Default: what it does to the cells of a struct. kmsg's small functions: Default, NewPtr, MaxVersion, SetVersion. The reader's walk: what is asked of the shapes, the state, the leaves. The reader's walk: the leaves. The reader's walk: a leaf into memory; a struct. The reader's walk: a list's head. The reader's walk: a list. The reader's walk: a list's head and loop. The reader's walk: lists. The reader's walk: a list as a whole. The reader's walk: the fields of a struct. readFrom, ReadFrom. ReadFrom; a message is read and written again. The plain law, first part: numbers are read as they were written; what is read stays so if more follows. The plain law, second part: what is written is read. The plain law, third part: what is read can be written, in no more octets. The laws 'what is read of any octets ..': over any program. All of kbin's reading together. Rows of laws: what the arguments give; how they are left; what a listed error gives. Over any program. Names of kinds: the texts (printed by a program from the translation); rules for texts. Names of kinds: the small functions. Names of kinds: spec.Normal. Names of kinds: laws.plain, strnorm. Names of kinds: the tables of names. Tags: the map of tags; Set. Tags: Set; the reading of tags. Names of kinds: the parsers. Whom a request goes to: rules; the chains. Whom a request goes to: the law. Whom a request goes to: a new request whose Default stores nil, too. -/
import Derived.Calls
import Derived.Laws.AppendOwn
import Derived.Laws.MakeOwn
import Derived.ScopeJumps
import Derived.Below
import Derived.KernelRfl
import Derived.Deep.AppendSrc
import Derived.Great.FillDense
import Derived.OrdersHeld
import Derived.IntWalk
import Derived.Laws.BitsAllLaws
import Derived.Laws.Tables
import Derived.Lib.BufferRead
import Derived.Laws.IdiomStrings
import Derived.WalkKit
import Derived.ProofKit
import Derived.OpenShut
import Derived.ChangeSlices
import Derived.LaidLaws
import Derived.Carry
import Derived.MakeChecks
import Derived.Lib.Case
import Derived.Lib.Space
import Derived.Lib.ConvBytes
import Derived.Maps.RangeRun
import Derived.Stop.Asserts
set_option linter.unusedSimpArgs false
set_option linter.unusedVariables false
namespace Go.Km
open Go
@[simp] abbrev oQ (d : Tmp) (x : Op) (t : TypeId) : Oper := ⟨some d, x, t, "", #[], none⟩
def bareD (o : Oper) : Oper := { o with pos := "" }
def bareO (o : Oper) : Oper := { o with pos := "", after := #[] }
def bare : Code → Code
 | .region _ ops false => .region 0 (ops.toList.map bareO).toArray false
 | .region _ ops true => .region 0 (ops.toList.map bareD).toArray true
 | .seq a b => .seq (bare a) (bare b)
 | .cond c a b => .cond c (bare a) (bare b)
 | .block id b => .block id (bare b)
 | .loop b => .loop (bare b)
 | .scope b => .scope (bare b)
 | c => c
def vc (P : Program) : Code → (Exit → Act → World → Prop) → Act → World → Prop
 | .skip, Q, a, w => Q .normal a w
 | .region _ ops false, Q, a, w => wpOps P ops Q (List.range ops.size) a w
 | .region _ ops true, Q, a, w => ∀ t, wpOps P ops Q (Region.schedule (P.follows .mixedOrders) ops t) a { w with drawn := w.drawn + 1 }
 | .seq x y, Q, a, w => vc P x (Exit.then (vc P y Q) Q) a w
 | .cond c x y, Q, a, w => ∃ t, a.eval c = .bool t ∧ (t = true → vc P x Q a w) ∧ (t = false → vc P y Q a w)
 | .block id b, Q, a, w => vc P b (Exit.inBlock id Q) a w
 | .loop b, Q, a, w => ∃ (I : Act → World → Prop) (μ : Act → World → Nat), I a w ∧
   ∀ a w, I a w → vc P b (Exit.then (fun a' w' => I a' w' ∧ μ a' w' < μ a w) Q) a w
 | .exit id, Q, a, w => Q (.exit id) a w
 | .ret, Q, a, w => Q .ret a w
 | .label _, Q, a, w => Q .normal a w
 | .goto l, Q, a, w => Q (.goto l) a w
 | .scope b, Q, a, w => vc P b (Exit.noGoto Q) a w
 | _, _, _, _ => False
theorem vc_sound {P : Program} (c : Code) : ∀ {Q : Exit → Act → World → Prop} {a : Act} {w : World}, vc P c Q a w → c.wp P Q a w := by
 induction c with
 | skip => exact fun h => wp_skip h
 | region id ops d =>
  cases d
  ·exact fun h => wp_region h
  ·exact fun h => wp_region_draw h
 | seq x y ihx ihy =>
  intro Q a w h
  refine wp_seq (wp_mono (ihx h) ?_)
  intro e a w h
  cases e <;> first | exact ihy h | exact h
 | cond c x y ihx ihy =>
  rintro Q a w ⟨t, ht, h1, h2⟩
  exact wp_cond_split ht (fun h => ihx (h1 h)) (fun h => ihy (h2 h))
 | block id b ih => exact fun h => wp_block (ih h)
 | loop b ih =>
  rintro Q a w ⟨I, μ, h0, hr⟩
  exact wp_loop I μ h0 (fun a w h => ih (hr a w h))
 | exit id => exact fun h => wp_exit h
 | ret => exact fun h => wp_ret h
 | label l => exact fun h => wp_label h
 | goto l => exact fun h => wp_goto h
 | scope b ih => exact fun h => wp_scope_straight (ih h)
 | rangeFunc => exact fun h => h.elim
 | refuse => exact fun h => h.elim
structure Alike (o o' : Oper) : Prop where
 dst : o'.dst = o.dst
 op : o'.op = o.op
 type : o'.type = o.type
 guard : o'.guard = o.guard
theorem alike_wp {P : Program} {o o' : Oper} (h : Alike o o') : Oper.wp P o' = Oper.wp P o := by
 obtain ⟨d, p, t, g⟩ := h
 cases o; cases o'
 simp only at d p t g
 subst d; subst p; subst t; subst g
 rfl
theorem alike_asks {P : Program} {o o' : Oper} (h : Alike o o') : Oper.asks P o' = Oper.asks P o := by
 obtain ⟨d, p, t, g⟩ := h
 cases o; cases o'
 simp only at d p t g
 subst d; subst p; subst t; subst g
 rfl
theorem wpOps_map {P : Program} {ops : Array Oper} {f : Oper → Oper} (hf : ∀ o, Alike o (f o)) {Q : Exit → Act → World → Prop} (l : List Nat) :
  ∀ {a : Act} {w : World}, wpOps P (ops.toList.map f).toArray Q l a w → wpOps P ops Q l a w := by
 have hy : ∀ tmps, yielded (ops.toList.map f).toArray tmps = yielded ops tmps := by
  intro tmps
  funext j
  unfold yielded
  simp only [List.getElem?_toArray, List.getElem?_map, Array.getElem?_toList]
  cases h : ops[j]? with
  | none => rfl
  | some o => simp [(hf o).dst]
 induction l with
 | nil => exact fun h => h
 | cons i r ih =>
  intro a w h
  simp only [wpOps, List.getElem?_toArray, List.getElem?_map, Array.getElem?_toList] at h ⊢
  cases ho : ops[i]? with
  | none => simp only [ho, Option.map_none] at h; exact ih h
  | some o =>
   simp only [ho, Option.map_some, hy] at h
   have hw : Region.wanted (f o) (yielded ops a.tmps) = Region.wanted o (yielded ops a.tmps) := by
    unfold Region.wanted; rw [(hf o).guard]
   rw [hw] at h
   simp only
   split
   ·rename_i hc
    rw [if_pos hc, alike_wp (hf o), alike_asks (hf o)] at h
    rcases h with h | h
    ·left
     unfold Oper.wp at h ⊢
     revert h
     generalize (execOp a.eval o).run P w = res
     intro h
     unfold Oper.upon at h ⊢
     split at h <;> first
      | exact ih h
      | exact h
      | (exact Calls.mono h (fun e w' hh => by cases e <;> first | exact ih hh | exact hh))
      | (exact Rows.mono h (fun _ _ hh => ih hh))
    ·exact .inr h
   ·rename_i hc
    rw [if_neg hc, (hf o).dst] at h
    exact ih h
theorem bareO_alike (o : Oper) : Alike o (bareO o) := ⟨rfl, rfl, rfl, rfl⟩
theorem bareD_alike (o : Oper) : Alike o (bareD o) := ⟨rfl, rfl, rfl, rfl⟩
theorem linearise_bareD (m : Region.Mode) (ops : Array Oper) (t : Nat) : Region.linearise m (ops.toList.map bareD).toArray t = Region.linearise m ops t := by
 unfold Region.linearise
 have hs : (ops.toList.map bareD).toArray.size = ops.size := by simp
 rw [hs]
 have key : ∀ (fuel t : Nat) (listed : Array Bool) (acc : List Nat), Region.linearise.go m (ops.toList.map bareD).toArray fuel t listed acc = Region.linearise.go m ops fuel t listed acc := by
  intro fuel
  induction fuel with
  | zero => intros; rfl
  | succ n ih =>
   intro t listed acc
   simp only [Region.linearise.go, hs]
   have : ∀ i : Nat, (((ops.toList.map bareD).toArray[i]?).map (fun o : Oper => o.after.all fun e => !Region.binds m e || listed.getD e.on false)).getD false = ((ops[i]?).map (fun o : Oper => o.after.all fun e => !Region.binds m e || listed.getD e.on false)).getD false := by
    intro i
    simp only [List.getElem?_toArray, List.getElem?_map, Array.getElem?_toList]
    cases ops[i]? <;> rfl
   simp only [this, ih]
 exact key _ _ _ _
theorem departs_bareD (ops : Array Oper) : Region.departs (ops.toList.map bareD).toArray = Region.departs ops := by
 unfold Region.departs
 simp only [List.any_map, ← Array.any_toList]
 rfl
theorem schedule_bareD (b : Bool) (ops : Array Oper) (t : Nat) : Region.schedule b (ops.toList.map bareD).toArray t = Region.schedule b ops t := by
 unfold Region.schedule
 simp only [linearise_bareD, departs_bareD]
theorem vc_mono {P : Program} (c : Code) : ∀ {Q Q' : Exit → Act → World → Prop} {a : Act} {w : World}, vc P c Q a w → (∀ e a w, Q e a w → Q' e a w) → vc P c Q' a w := by
 have ops_mono : ∀ (ops : Array Oper) (Q Q' : Exit → Act → World → Prop) (_ : ∀ e a w, Q e a w → Q' e a w) (l : List Nat) (a : Act) (w : World), wpOps P ops Q l a w → wpOps P ops Q' l a w := by
  intro ops Q Q' hq l
  have hout : LetsOut Q → LetsOut Q' := fun ⟨a, w, h⟩ => ⟨a, w, hq _ _ _ h⟩
  induction l with
  | nil => exact fun a w h => hq _ _ _ h
  | cons i r ih =>
   intro a w h
   simp only [wpOps] at h ⊢
   cases ho : ops[i]? with
   | none => simp only [ho] at h; exact ih _ _ h
   | some o =>
    simp only [ho] at h
    simp only
    split
    ·rename_i hc
     rw [if_pos hc] at h
     rcases h with h | ⟨h1, h2⟩
     ·left
      unfold Oper.wp at h ⊢
      revert h
      generalize (execOp a.eval o).run P w = res
      intro h
      unfold Oper.upon at h ⊢
      split at h <;> first
       | exact ih _ _ h
       | exact hq _ _ _ h
       | exact h
       | (exact Calls.mono h (fun e w' hh => by cases e <;> first | exact ih _ _ hh | exact hq _ _ _ hh | exact hout hh))
       | (exact Rows.mono h (fun _ _ hh => ih _ _ hh))
     ·exact .inr ⟨h1, hout h2⟩
    ·rename_i hc
     rw [if_neg hc] at h
     exact ih _ _ h
 have key : ∀ (c : Code) {Q Q' : Exit → Act → World → Prop} {a : Act} {w : World}, vc P c Q a w → (∀ e a w, Q e a w → Q' e a w) → vc P c Q' a w := by
  intro c
  induction c with
  | skip => exact fun h hq => hq _ _ _ h
  | region id ops d =>
   cases d
   ·exact fun h hq => ops_mono ops _ _ hq _ _ _ h
   ·exact fun h hq t => ops_mono ops _ _ hq _ _ _ (h t)
  | seq x y ihx ihy => exact fun h hq => ihx h (fun e a w h => by cases e <;> first | exact ihy h hq | exact hq _ _ _ h)
  | cond c x y ihx ihy => exact fun ⟨t, ht, h1, h2⟩ hq => ⟨t, ht, fun h => ihx (h1 h) hq, fun h => ihy (h2 h) hq⟩
  | block id b ih => exact fun h hq => ih h (fun e a w h => by
    cases e with
    | exit i => simp only [Exit.inBlock] at h ⊢; split <;> (rename_i hc; simp only [hc, if_true, if_false] at h; exact hq _ _ _ h)
    | _ => exact hq _ _ _ h)
  | loop b ih => exact fun ⟨I, μ, h0, hr⟩ hq => ⟨I, μ, h0, fun a w h => ih (hr a w h) (fun e a w h => by cases e <;> first | exact h | exact hq _ _ _ h)⟩
  | exit id => exact fun h hq => hq _ _ _ h
  | ret => exact fun h hq => hq _ _ _ h
  | label l => exact fun h hq => hq _ _ _ h
  | goto l => exact fun h hq => hq _ _ _ h
  | scope b ih => exact fun h hq => ih h (fun e a w h => by cases e <;> first | exact h | exact hq _ _ _ h)
  | rangeFunc => exact fun h => h.elim
  | refuse => exact fun h => h.elim
 exact @key c
theorem vc_bare {P : Program} (c : Code) : ∀ {Q : Exit → Act → World → Prop} {a : Act} {w : World}, vc P (bare c) Q a w → vc P c Q a w := by
 induction c with
 | region id ops d =>
  intro Q a w h
  cases d
  ·simp only [bare, vc, List.size_toArray, List.length_map, Array.length_toList] at h ⊢
   exact wpOps_map bareO_alike _ h
  ·simp only [bare, vc, schedule_bareD] at h ⊢
   exact fun t => wpOps_map bareD_alike _ (h t)
 | seq x y ihx ihy =>
  intro Q a w h
  simp only [bare, vc] at h ⊢
  exact vc_mono x (ihx h) (fun e a w h => by cases e <;> first | exact ihy h | exact h)
 | cond c x y ihx ihy =>
  intro Q a w h
  simp only [bare, vc] at h ⊢
  obtain ⟨t, ht, h1, h2⟩ := h
  exact ⟨t, ht, fun h => ihx (h1 h), fun h => ihy (h2 h)⟩
 | block id b ih => intro Q a w h; simp only [bare, vc] at h ⊢; exact ih h
 | loop b ih => intro Q a w h; simp only [bare, vc] at h ⊢; obtain ⟨I, μ, h0, hr⟩ := h; exact ⟨I, μ, h0, fun a w h => ih (hr a w h)⟩
 | scope b ih => intro Q a w h; simp only [bare, vc] at h ⊢; exact ih h
 | skip => exact fun h => h
 | exit id => exact fun h => h
 | ret => exact fun h => h
 | label l => exact fun h => h
 | goto l => exact fun h => h
 | rangeFunc => exact fun h => h
 | refuse => exact fun h => h
structure Text (P : Program) (f : FuncId) (nparams ntmps : Nat) (res : Array ResultVar) (c : Code) : Prop where
 text : ∃ fn, P.funcs[f]? = some fn ∧ fn.body.map bare = some c ∧ fn.ntmps = ntmps ∧ fn.results = res ∧ fn.name ≠ "runtime.NumGoroutine"
def Enters (P : Program) (f : FuncId) : Prop := ∀ args w, (callFunc f args).run P w = .ok (.enter f args) w
theorem Text.enters {P : Program} {f : FuncId} {np nt : Nat} {res : Array ResultVar} {c : Code} (h : Text P f np nt res c) : Enters P f := by
 obtain ⟨fn, h1, h2, _, _, h5⟩ := h.text
 intro args w
 have hb : fn.body ≠ none := by intro hh; simp [hh] at h2
 simp [callFunc, h1, h5, hb]
def CallsV (P : Program) (f : FuncId) (args : Array Value) (w : World) (S : Value → World → Prop) : Prop :=
 Enters P f ∧ Calls P f args w fun e w' => ∃ v, e = .returned v ∧ S v w'
theorem CallsV.mono {P : Program} {f : FuncId} {args : Array Value} {w : World} {S S' : Value → World → Prop} (h : CallsV P f args w S) (hs : ∀ v w', S v w' → S' v w') : CallsV P f args w S' :=
 ⟨h.1, h.2.mono fun _ _ ⟨v, e, s⟩ => ⟨v, e, hs _ _ s⟩⟩
def Ends (P : Program) (res : Array ResultVar) (S : Value → World → Prop) (a : Act) (w : World) : Prop :=
 a.defers = [] ∧ ∃ v, (results { (default : Func) with results := res } a.tmps).run P w = .ok v w ∧ S v w
def Out (P : Program) (res : Array ResultVar) (S : Value → World → Prop) : Exit → Act → World → Prop
 | .normal, a, w | .ret, a, w => Ends P res S a w
 | _, _, _ => False
theorem CallsV.of_vc {P : Program} {f : FuncId} {np nt : Nat} {res : Array ResultVar} {c : Code} (ht : Text P f np nt res c) {args : Array Value} {w : World} {S : Value → World → Prop}
  (h : vc P c (Out P res S) { tmps := args ++ Array.replicate (nt - args.size) undef, defers := [] } w) : CallsV P f args w S := by
 refine ⟨ht.enters, ?_⟩
 obtain ⟨fn, h1, h2, h3, h4, _⟩ := ht.text
 cases hb : fn.body with
 | none => simp [hb] at h2
 | some c0 =>
  simp only [hb, Option.map_some, Option.some.injEq] at h2
  subst h2; subst h3; subst h4
  refine calls_of_wp h1 hb (vc_sound _ (vc_bare _ (vc_mono _ h ?_)))
  intro e a w h
  have hres : ∀ t, results { (default : Func) with results := fn.results } t = results fn t := fun t => rfl
  cases e with
  | normal => exact ⟨h.1, let ⟨v, hv, hs⟩ := h.2; ⟨v, (hres _) ▸ hv, v, rfl, hs⟩⟩
  | ret => exact ⟨h.1, let ⟨v, hv, hs⟩ := h.2; ⟨v, (hres _) ▸ hv, v, rfl, hs⟩⟩
  | _ => exact h.elim
end Go.Km
namespace Go.Km
open Go
theorem zP (a : Act) (d : Option Tmp) (v : Value) : (a.put d v).tmps.size = a.tmps.size := by
 cases d <;> simp [Act.put]
theorem dF (a : Act) (d : Option Tmp) (v : Value) : (a.put d v).defers = a.defers := by
 cases d <;> rfl
theorem eval_put_same (a : Act) (d : Nat) (v : Value) (h : d < a.tmps.size) : (a.put (some d) v).eval (.tmp d) = v := by
 simp [Act.put, Act.eval, Array.getD_eq_getD_getElem?, h]
theorem eval_put_ne (a : Act) (d t : Nat) (v : Value) (h : d ≠ t) : (a.put (some d) v).eval (.tmp t) = a.eval (.tmp t) := by
 simp [Act.put, Act.eval, Array.getD_eq_getD_getElem?, h]
theorem eS (a : Act) (d : Nat) (v : Value) (h : d < a.tmps.size) : (a.put (some d) v).eval (.tmp d) = v := eval_put_same a d v h
theorem eN (a : Act) (d t : Nat) (v : Value) (h : d ≠ t) : (a.put (some d) v).eval (.tmp t) = a.eval (.tmp t) := eval_put_ne a d t v h
theorem eC (a : Act) (v : Value) : a.eval (.const v) = v := rfl
theorem sP (a : Act) (d : Option Tmp) (v : Value) : (a.put d v).tmps.size = a.tmps.size := zP a d v
theorem eV (a : Act) : (∀ (d : Nat) (v : Value), d < a.tmps.size → (a.put (some d) v).eval (.tmp d) = v) ∧ (∀ (d t : Nat) (v : Value), d ≠ t → (a.put (some d) v).eval (.tmp t) = a.eval (.tmp t)) ∧ ∀ v : Value, a.eval (.const v) = v := ⟨eS a, eN a, eC a⟩
theorem lM {α β : Type} (f : α → β) : (∀ l : List α, l.toArray.map f = (l.map f).toArray) ∧ (∀ a l, (a :: l).map f = f a :: l.map f) ∧ ([] : List α).map f = [] := ⟨fun _ => by simp, fun _ _ => rfl, rfl⟩
structure Fr (K : Nat → Prop) (a a' : Act) : Prop where
 size : a'.tmps.size = a.tmps.size
 defers : a'.defers = a.defers
 slot : ∀ k, K k → a'.eval (.tmp k) = a.eval (.tmp k)
theorem Fr.refl (K : Nat → Prop) (a : Act) : Fr K a a := ⟨rfl, rfl, fun _ _ => rfl⟩
theorem Fr.trans {K : Nat → Prop} {a b c : Act} (h : Fr K a b) (h' : Fr K b c) : Fr K a c :=
 ⟨h'.size.trans h.size, h'.defers.trans h.defers, fun k hk => (h'.slot k hk).trans (h.slot k hk)⟩
theorem Fr.mono {K K' : Nat → Prop} {a b : Act} (h : Fr K a b) (hm : ∀ k, K' k → K k) : Fr K' a b := ⟨h.size, h.defers, fun k hk => h.slot k (hm k hk)⟩
theorem Fr.put {K : Nat → Prop} {a b : Act} (h : Fr K a b) {d : Nat} (v : Value) (hd : ¬ K d) : Fr K a (b.put (some d) v) :=
 ⟨(zP _ _ _).trans h.size, (dF _ _ _).trans h.defers, fun k hk => (eval_put_ne _ d k _ (fun e => hd (by rw [e]; exact hk))).trans (h.slot k hk)⟩
def rO_ (P : Program) (Q : Exit → Act → World → Prop) : List Oper → Act → World → Prop
 | [], a, w => Q .normal a w
 | o :: r, a, w => o.wp P a w (rO_ P Q r) Q
theorem st {P : Program} {Q : Exit → Act → World → Prop} {o : Oper} {r : List Oper} {a : Act} {w : World} (h : o.wp P a w (rO_ P Q r) Q) : rO_ P Q (o :: r) a w := h
theorem dn {P : Program} {Q : Exit → Act → World → Prop} {a : Act} {w : World} (h : Q .normal a w) : rO_ P Q [] a w := h
theorem vc_run {P : Program} {Q : Exit → Act → World → Prop} {id : Nat} {l : List Oper} {a : Act} {w : World} (hg : ∀ o ∈ l, o.guard = none) (h : rO_ P Q l a w) :
  vc P (.region id l.toArray false) Q a w := by
 simp only [vc, List.size_toArray]
 have key : ∀ (suf pre : List Oper) (a : Act) (w : World), l = pre ++ suf → rO_ P Q suf a w → wpOps P l.toArray Q (List.range' pre.length suf.length) a w := by
  intro suf
  induction suf with
  | nil => exact fun pre a w _ h => h
  | cons o r ih =>
   intro pre a w hl h
   have hi : l.toArray[pre.length]? = some o := by simp [hl]
   simp only [List.length_cons, List.range'_succ, wpOps, hi]
   have ho : o.guard = none := hg o (by simp [hl])
   have hw : ∀ y, Region.wanted o y = true := fun y => by simp [Region.wanted, ho]
   rw [if_pos (hw _)]
   left
   have hn : ∀ a w, rO_ P Q r a w → wpOps P l.toArray Q (List.range' (pre.length + 1) r.length) a w := by
    intro a w h
    have := ih (pre ++ [o]) a w (by simp [hl]) h
    simpa using this
   simp only [rO_] at h
   unfold Oper.wp at h ⊢
   revert h
   generalize (execOp a.eval o).run P w = res
   intro h
   unfold Oper.upon at h ⊢
   split at h <;> first
    | exact hn _ _ h
    | exact h
    | (exact Calls.mono h (fun e w' hh => by cases e <;> first | exact hn _ _ hh | exact hh))
    | (exact Rows.mono h (fun _ _ hh => hn _ _ hh))
 have := key l [] a w rfl h
 simpa [List.range_eq_range'] using this
abbrev oMove (d : Tmp) (x : Operand) (t : TypeId) : Oper := (oQ d (.move x) t)
abbrev oAssign (d : Tmp) (x : Operand) (t : TypeId) : Oper := (oQ d (.assign x) t)
abbrev oNil (d : Tmp) (x : Operand) : Oper := (oQ d (.nilCheck x) 0)
abbrev oField (d : Tmp) (s : TypeId) (x : Operand) (f : Nat) : Oper := (oQ d (.fieldAddr s x f) 0)
abbrev oStore (t : TypeId) (x y : Operand) : Oper := ⟨none, .store t x y, 0, "", #[], none⟩
abbrev oCall (d : Option Tmp) (f : FuncId) (xs : Array Operand) (ts : Array TypeId) (t : TypeId) : Oper :=
 ⟨d, .call { callee := .value (.func f), args := xs, argTypes := ts }, t, "", #[], none⟩
abbrev oAlloc (d : Tmp) (e : TypeId) : Oper := (oQ d (.alloc e) 0)
section
variable {P : Program} {a : Act} {w : World} {r : List Oper} {Q : Exit → Act → World → Prop}
theorem rM {d x t p af g} (h : rO_ P Q r (a.put (some d) (a.eval x)) w) : rO_ P Q (⟨some d, .move x, t, p, af, g⟩ :: r) a w := h
theorem rA {d x t p af g} (h : rO_ P Q r (a.put (some d) (a.eval x)) w) : rO_ P Q (⟨some d, .assign x, t, p, af, g⟩ :: r) a w := h
theorem r_nil {d x t p af g ad} (hx : a.eval x = .pointer (some ad)) (h : rO_ P Q r (a.put (some d) (.pointer (some ad))) w) : rO_ P Q (⟨some d, .nilCheck x, t, p, af, g⟩ :: r) a w := by
 refine st ?_
 simp only [Oper.wp, execOp, hx, Sem.run_pure, Oper.upon_value]
 exact h
def fieldOff (P : Program) (s : TypeId) (f : Nat) : Option Nat :=
 match P.underlying s with
 | some (.struct fs) => match fs[f]? with
  | some fd => match P.info? fd.type with
   | some i => if i.size = 0 then none else some fd.offset
   | none => none
  | none => none
 | _ => none
theorem run_fieldAt {s f off b o} (hf : fieldOff P s f = some off) : (Instr.fieldAt s (.pointer (some ⟨b, o, none⟩)) f).run P w = .ok (.pointer (some ⟨b, o + off, none⟩)) w := by
 unfold fieldOff at hf
 split at hf <;> try cases hf
 rename_i fs hu
 split at hf <;> try cases hf
 rename_i fd hfd
 split at hf <;> try cases hf
 rename_i i hi
 split at hf <;> try cases hf
 rename_i hz
 simp [Instr.fieldAt, run_underlying hu, hfd, Instr.sureAddr, fieldPlace, sizeOf, typeInfo, hi, hz, Addr.add_lit]
theorem rF {d s x f t p af g b o off} (hx : a.eval x = .pointer (some ⟨b, o, none⟩)) (hf : fieldOff P s f = some off) (h : rO_ P Q r (a.put (some d) (.pointer (some ⟨b, o + off, none⟩))) w) :
  rO_ P Q (⟨some d, .fieldAddr s x f, t, p, af, g⟩ :: r) a w := by
 refine st ?_
 simp only [Oper.wp, execOp, hx, Sem.run_bind, run_fieldAt hf, Result.andThen_ok, Sem.run_pure, Oper.upon_value]
 exact h
def oneT (P : Program) (t : TypeId) : Bool :=
 match P.underlying t, P.info? t with
 | some (.struct _), _ => false
 | some (.array _ _), _ => false
 | some _, some i => i.size == 1
 | _, _ => false
theorem oneT_inv {t : TypeId} (ht : oneT P t = true) : ∃ d i, P.underlying t = some d ∧ P.info? t = some i ∧ i.size = 1 ∧ (∀ fs, d ≠ .struct fs) ∧ (∀ n e, d ≠ .array n e) := by
 unfold oneT at ht
 cases hu : P.underlying t with
 | none => simp [hu] at ht
 | some d =>
  cases hi : P.info? t with
  | none => cases d <;> simp [hu, hi] at ht
  | some i =>
   rw [hu, hi] at ht
   refine ⟨d, i, rfl, rfl, ?_, ?_, ?_⟩ <;> cases d <;> simp_all
theorem run_sizeOf_oneT {t : TypeId} (ht : oneT P t = true) : (sizeOf t).run P w = .ok 1 w := by
 obtain ⟨d, i, hu, hi, hs, h1, h2⟩ := oneT_inv ht
 simp [sizeOf, typeInfo, hi, hs]
end
end Go.Km
namespace Go.Km
open Go Go.RowKit
def BlkKeep (m : Nat → Prop) : Option Obj → Option Obj → Prop
 | some (.cells c T f), o' => ∃ c', o' = some (.cells c' T f) ∧ c'.size = c.size ∧ ∀ i, ¬ m i → c'[i]? = c[i]?
 | o, o' => o' = o
theorem BlkKeep.refl (m : Nat → Prop) (o : Option Obj) : BlkKeep m o o := by
 unfold BlkKeep
 split
 ·exact ⟨_, rfl, rfl, fun _ _ => rfl⟩
 ·rfl
theorem BlkKeep.of_eq {m : Nat → Prop} {o o' : Option Obj} (h : o' = o) : BlkKeep m o o' := h ▸ BlkKeep.refl m o
theorem BlkKeep.trans {m : Nat → Prop} {a b c : Option Obj} (h : BlkKeep m a b) (h' : BlkKeep m b c) : BlkKeep m a c := by
 unfold BlkKeep at h
 split at h
 ·obtain ⟨c1, rfl, hs, hc⟩ := h
  simp only [BlkKeep] at h'
  obtain ⟨c2, rfl, hs', hc'⟩ := h'
  exact ⟨c2, rfl, hs'.trans hs, fun i hi => (hc' i hi).trans (hc i hi)⟩
 ·subst h; exact h'
theorem BlkKeep.mono {m m' : Nat → Prop} {a b : Option Obj} (h : BlkKeep m a b) (hm : ∀ i, m i → m' i) : BlkKeep m' a b := by
 unfold BlkKeep at h ⊢
 split at h
 ·obtain ⟨c1, rfl, hs, hc⟩ := h
  exact ⟨c1, rfl, hs, fun i hi => hc i (fun hh => hi (hm i hh))⟩
 ·exact h
theorem BlkKeep.eq {m : Nat → Prop} {a b : Option Obj} (h : BlkKeep m a b) (hm : ∀ i, ¬ m i) : b = a := by
 unfold BlkKeep at h
 split at h
 ·obtain ⟨c1, rfl, hs, hc⟩ := h
  congr 2
  apply Array.ext_getElem?
  exact fun i => hc i (hm i)
 ·exact h
structure Eff (M : Nat → Nat → Prop) (w w' : World) : Prop where
 os : w'.os = w.os
 tape : w'.tape = w.tape
 output : w'.output = w.output
 size : w.heap.size ≤ w'.heap.size
 block : ∀ k, k < w.heap.size → BlkKeep (M k) w.heap[k]? w'.heap[k]?
abbrev Grow (w w' : World) : Prop := Eff (fun _ _ => False) w w'
theorem Eff.refl (M : Nat → Nat → Prop) (w : World) : Eff M w w := ⟨rfl, rfl, rfl, Nat.le_refl _, fun _ _ => BlkKeep.refl _ _⟩
theorem Eff.trans {M : Nat → Nat → Prop} {a b c : World} (h : Eff M a b) (k : Eff M b c) : Eff M a c :=
 ⟨k.os.trans h.os, k.tape.trans h.tape, k.output.trans h.output, Nat.le_trans h.size k.size,
  fun i hi => (h.block i hi).trans (k.block i (Nat.lt_of_lt_of_le hi h.size))⟩
theorem Eff.mono {M M' : Nat → Nat → Prop} {a b : World} (h : Eff M a b) (hm : ∀ k i, k < a.heap.size → M k i → M' k i) : Eff M' a b :=
 ⟨h.os, h.tape, h.output, h.size, fun k hk => (h.block k hk).mono (fun i => hm k i hk)⟩
theorem Eff.trans' {M M' : Nat → Nat → Prop} {a b c : World} (h : Eff M a b) (k : Eff M' b c) (hm : ∀ k i, k < a.heap.size → M' k i → M k i) : Eff M a c :=
 ⟨k.os.trans h.os, k.tape.trans h.tape, k.output.trans h.output, Nat.le_trans h.size k.size,
  fun i hi => (h.block i hi).trans ((k.block i (Nat.lt_of_lt_of_le hi h.size)).mono (fun j => hm i j hi))⟩
theorem Eff.drawn {M : Nat → Nat → Prop} {a w : World} (h : Eff M a w) (n : Nat) : Eff M a { w with drawn := n } := ⟨h.os, h.tape, h.output, h.size, h.block⟩
theorem Eff.alloc {M : Nat → Nat → Prop} {a w : World} (h : Eff M a w) (o : Obj) : Eff M a (w.alloc o) :=
 h.trans ⟨rfl, rfl, rfl, by simp, fun k hk => BlkKeep.of_eq (Below.heap_alloc w o k hk)⟩
theorem blk_setCell (w : World) (b o : Nat) (v : Value) (k : Nat) : BlkKeep (fun i => k = b ∧ i = o) w.heap[k]? (w.setCell ⟨b, o, none⟩ v).heap[k]? := by
 simp only [World.setCell, Array.getElem?_modify]
 by_cases hk : b = k
 ·subst hk
  simp only [if_true]
  cases hh : w.heap[b]? with
  | none => exact BlkKeep.refl _ _
  | some x =>
   cases x with
   | cells c T f =>
    refine ⟨_, rfl, by simp, fun i hi => ?_⟩
    have : o ≠ i := fun e => hi (by first | exact ⟨trivial, e.symm⟩ | exact ⟨rfl, e.symm⟩)
    simp [this]
   | _ => exact BlkKeep.refl _ _
 ·simp only [if_neg hk]
  exact BlkKeep.refl _ _
theorem Eff.setCell {M : Nat → Nat → Prop} {a w : World} (h : Eff M a w) (b o : Nat) (v : Value) (hb : b < a.heap.size → M b o) : Eff M a (w.setCell ⟨b, o, none⟩ v) := by
 refine h.trans' (M' := fun k i => k = b ∧ i = o) ⟨rfl, rfl, rfl, by simp, fun k _ => blk_setCell w b o v k⟩ ?_
 rintro k i hk ⟨rfl, rfl⟩
 exact hb hk
theorem Eff.blockEq {M : Nat → Nat → Prop} {w w' : World} (h : Eff M w w') {k : Nat} (hk : k < w.heap.size) (hm : ∀ i, ¬ M k i) : w'.heap[k]? = w.heap[k]? := (h.block k hk).eq hm
theorem Eff.below {M : Nat → Nat → Prop} {w w' : World} (h : Eff M w w') {B : Nat} (hB : B ≤ w.heap.size) (hm : ∀ k i, k < B → ¬ M k i) : Below B w w' :=
 ⟨h.os, h.tape, h.output, h.size, fun k hk => h.blockEq (Nat.lt_of_lt_of_le hk hB) (fun i => hm k i hk)⟩
theorem Grow.below {w w' : World} (h : Grow w w') : Below w.heap.size w w' := Eff.below h (Nat.le_refl _) (fun _ _ _ h => h)
theorem Grow.eff {M : Nat → Nat → Prop} {w w' : World} (h : Grow w w') : Eff M w w' := Eff.mono h (fun _ _ _ h => h.elim)
theorem lt_of_cell {w : World} {b o : Nat} {v : Value} (h : w.cell? ⟨b, o, none⟩ = some v) : b < w.heap.size := World.block_lt_of_cell? w _ h
theorem BlkKeep.cell {m : Nat → Prop} {w w' : World} {b : Nat} (h : BlkKeep m w.heap[b]? w'.heap[b]?) {o : Nat} (hm : ¬ m o) : w'.cell? ⟨b, o, none⟩ = w.cell? ⟨b, o, none⟩ := by
 unfold BlkKeep at h
 split at h
 ·rename_i c T f hc
  obtain ⟨c', hc', hs, hi⟩ := h
  simp [World.cell?, hc, hc', hi o hm]
 ·simp [World.cell?, h]
theorem Eff.cell {M : Nat → Nat → Prop} {w w' : World} (h : Eff M w w') {b o : Nat} (hb : b < w.heap.size) (hm : ¬ M b o) : w'.cell? ⟨b, o, none⟩ = w.cell? ⟨b, o, none⟩ :=
 (h.block b hb).cell hm
theorem Eff.cellSome {M : Nat → Nat → Prop} {w w' : World} (h : Eff M w w') {b o : Nat} {v : Value} (hc : w.cell? ⟨b, o, none⟩ = some v) (hm : ¬ M b o) : w'.cell? ⟨b, o, none⟩ = some v :=
 (h.cell (lt_of_cell hc) hm).trans hc
theorem Eff.there {M : Nat → Nat → Prop} {w w' : World} (h : Eff M w w') {b o : Nat} (hc : (w.cell? ⟨b, o, none⟩).isSome = true) : (w'.cell? ⟨b, o, none⟩).isSome = true := by
 obtain ⟨v, hv⟩ := Option.isSome_iff_exists.1 hc
 have hk := h.block b (lt_of_cell hv)
 unfold World.cell? at hv ⊢
 simp only at hv ⊢
 split at hv
 ·rename_i c T f hh
  rw [hh] at hk
  obtain ⟨c', hc', hs, _⟩ := hk
  simp only [hc'] 
  simp only [Option.isSome_none, Bool.false_eq_true, if_false] at hv ⊢
  have : o < c.size := by
   rcases Nat.lt_or_ge o c.size with h | h
   ·exact h
   ·simp [Array.getElem?_eq_none h] at hv
  simp [hs, this]
 ·cases hv
theorem Eff.frozen {M : Nat → Nat → Prop} {w w' : World} (h : Eff M w w') {b o : Nat} (hb : b < w.heap.size) : w'.frozen? ⟨b, o, none⟩ = w.frozen? ⟨b, o, none⟩ := by
 have hk := h.block b hb
 unfold BlkKeep at hk
 split at hk
 ·rename_i c T f hc
  obtain ⟨c', hc', _, _⟩ := hk
  simp [World.frozen?, hc, hc']
 ·simp [World.frozen?, hk]
def Free (w : World) (b o : Nat) : Prop := (w.cell? ⟨b, o, none⟩).isSome = true ∧ w.frozen? ⟨b, o, none⟩ = false
theorem Free.lt {w : World} {b o : Nat} (h : Free w b o) : b < w.heap.size := by
 obtain ⟨v, hv⟩ := Option.isSome_iff_exists.1 h.1
 exact lt_of_cell hv
theorem Free.eff {M : Nat → Nat → Prop} {w w' : World} {b o : Nat} (h : Free w b o) (he : Eff M w w') : Free w' b o := ⟨he.there h.1, (he.frozen h.lt).trans h.2⟩
theorem free_new (w : World) (c : Array Value) (T : TypeId) {i : Nat} (hi : i < c.size) : Free (w.alloc (.cells c T)) w.heap.size i := by
 constructor
 ·rw [World.cell?_alloc_new]
  simp [hi]
 ·have h : (w.alloc (.cells c T)).heap[w.heap.size]? = some (.cells c T) := heap_alloc_new w _
  unfold World.frozen?
  simp only [h]
  simp
theorem cells_new (w : World) (c : Array Value) (T : TypeId) {i : Nat} {v : Value} (hi : c[i]? = some v) : (w.alloc (.cells c T)).cell? ⟨w.heap.size, i, none⟩ = some v := by
 rw [World.cell?_alloc_new]
 exact hi
theorem cell_setCell_same {w : World} {b o : Nat} (v : Value) (h : (w.cell? ⟨b, o, none⟩).isSome = true) : (w.setCell ⟨b, o, none⟩ v).cell? ⟨b, o, none⟩ = some v := by
 obtain ⟨u, hu⟩ := Option.isSome_iff_exists.1 h
 exact World.cell?_setCell_same w _ _ hu
def setCells (w : World) (b o : Nat) : List Value → World
 | [] => w
 | v :: r => setCells (w.setCell ⟨b, o, none⟩ v) b (o + 1) r
theorem run_storeCells {P : Program} (b : Nat) : ∀ (vs : List Value) (w : World) (o i : Nat), (∀ j, j < vs.length → Free w b (o + i + j)) → (∀ v ∈ vs, v.oneCell' = true) →
  (storeCells ⟨b, o, none⟩ vs i).run P w = .ok () (setCells w b (o + i) vs)
 | [], _, _, _, _, _ => rfl
 | v :: r, w, o, i, hf, h1 => by
  have h0 := hf 0 (by simp)
  simp only [Nat.add_zero] at h0
  obtain ⟨u, hu⟩ := Option.isSome_iff_exists.1 h0.1
  have he : Eff (fun k j => k = b ∧ j = o + i) w (w.setCell ⟨b, o + i, none⟩ v) := (Eff.refl _ w).setCell b (o + i) v (fun _ => ⟨rfl, rfl⟩)
  have ih := run_storeCells (P := P) b r (w.setCell ⟨b, o + i, none⟩ v) o (i + 1) (fun j hj => (by
   have := hf (j + 1) (by simp; omega)
   rw [show o + i + (j + 1) = o + (i + 1) + j by omega] at this
   exact this.eff he)) (fun x hx => h1 x (by simp [hx]))
  simp only [storeCells, Addr.add_lit, Sem.run_bind, run_store P w _ _ _ (h1 v (by simp)), hu, h0.2, Bool.false_eq_true, if_false, Result.andThen_ok]
  rw [ih]
  rfl
section
variable {P : Program} {a : Act} {w : World} {r : List Oper} {Q : Exit → Act → World → Prop}
theorem r_store {t x y ty p af g b o v} (hx : a.eval x = .pointer (some ⟨b, o, none⟩)) (hy : a.eval y = v) (h1 : v.oneCell' = true) (ht : oneT P t = true) (hf : Free w b o)
  (h : rO_ P Q r a (w.setCell ⟨b, o, none⟩ v)) : rO_ P Q (⟨none, .store t x y, ty, p, af, g⟩ :: r) a w := by
 refine st ?_
 have hv : v.cells = #[v] := by cases v <;> first | rfl | simp [Value.oneCell'] at h1
 have hr := run_storeCells (P := P) b [v] w o 0 (fun j hj => by simp at hj; subst hj; simpa using hf) (by simpa using h1)
 simp only [Oper.wp, execOp, hx, hy, Instr.storeAt, Instr.sureAddr, storeVar, Sem.run_bind, Sem.run_pure, run_sizeOf_oneT ht, Result.andThen_ok, hv]
 simp only [List.size_toArray, List.length_cons, List.length_nil, ne_eq, not_true_eq_false, if_false, Nat.zero_add]
 simp only [hr, setCells, Result.andThen_ok, Oper.upon_skip, Nat.add_zero]
 exact h
end
end Go.Km
namespace Go.Km
open Go Go.RowKit
def aggT (P : Program) (t : TypeId) : Option Nat :=
 match P.underlying t, P.info? t with
 | some (.struct _), some i => some i.size
 | some (.array _ _), some i => some i.size
 | _, _ => none
def Cells (w : World) (b o : Nat) (cs : List Value) : Prop := ∀ i v, cs[i]? = some v → w.cell? ⟨b, o + i, none⟩ = some v
theorem Cells.nil (w : World) (b o : Nat) : Cells w b o [] := fun i v h => by simp at h
theorem Cells.eff {M : Nat → Nat → Prop} {w w' : World} {b o : Nat} {cs : List Value} (h : Cells w b o cs) (he : Eff M w w') (hm : ∀ i, i < cs.length → ¬ M b (o + i)) : Cells w' b o cs :=
 fun i v hv => he.cellSome (h i v hv) (hm i (by rcases Nat.lt_or_ge i cs.length with h | h; exact h; simp [List.getElem?_eq_none h] at hv))
theorem Cells.get {w : World} {b o : Nat} {cs : List Value} (h : Cells w b o cs) {i : Nat} (hi : i < cs.length) : w.cell? ⟨b, o + i, none⟩ = some cs[i] := h i _ (List.getElem?_eq_getElem hi)
section
variable {P : Program} {a : Act} {w : World} {r : List Oper} {Q : Exit → Act → World → Prop}
theorem r_call {d f xs ts ty p af g} {S : Value → World → Prop} (h : CallsV P f (xs.map a.eval) w S) (hn : ∀ v w', S v w' → rO_ P Q r (a.put d v) w') :
  rO_ P Q (⟨d, .call { callee := .value (.func f), args := xs, argTypes := ts }, ty, p, af, g⟩ :: r) a w := by
 refine st ?_
 obtain ⟨he, hc⟩ := h
 have := he (#[] ++ xs.map a.eval ++ #[]) w
 simp only [Array.empty_append, Array.append_empty] at this
 simp only [Oper.wp, execOp, resolve, Act.eval, Deferred.ofValue, Sem.run_bind, Sem.run_pure, Result.andThen_ok, invoke, Array.empty_append, Array.append_empty]
 have h2 : (callFunc f (xs.map a.eval)).run P w = .ok (.enter f (xs.map a.eval)) w := this
 have h3 : (callFunc f (xs.map (Act.eval a))).run P w = .ok (.enter f (xs.map a.eval)) w := this
 simp only [Oper.upon, h3]
 refine hc.mono ?_
 rintro e w' ⟨v, rfl, hs⟩
 exact hn v w' hs
theorem r_call' {d f xs ts ty p af g args} {S : Value → World → Prop} (hx : xs.map a.eval = args) (h : CallsV P f args w S) (hn : ∀ v w', S v w' → rO_ P Q r (a.put d v) w') :
  rO_ P Q (⟨d, .call { callee := .value (.func f), args := xs, argTypes := ts }, ty, p, af, g⟩ :: r) a w := r_call (hx ▸ h) hn
theorem r_cmp {d op xt x y yt ty p af g k m n} {res : Bool} (hx : a.eval x = .int k m) (hy : a.eval y = .int k n) (ho : Op.intCmp op m n = pure (.bool res)) (hop : op = .eql ∨ op = .neq ∨ op = .lss ∨ op = .leq ∨ op = .gtr ∨ op = .geq)
  (h : rO_ P Q r (a.put (some d) (.bool res)) w) : rO_ P Q (⟨some d, .binOp op xt x y yt, ty, p, af, g⟩ :: r) a w := by
 refine st ?_
 have hg : ∀ (x y : Operand), eqGuard op xt x y (.int k m) (.int k n) = pure () := fun x y => by cases op <;> rfl
 have hb : binOp op xt (.int k m) (.int k n) = Op.intCmp op m n := by rcases hop with h | h | h | h | h | h <;> subst h <;> simp [binOp]
 simp only [Oper.wp, execOp, hx, hy, hg, hb, ho, Sem.run_bind, Sem.run_pure, Result.andThen_ok, Oper.upon_value]
 exact h
theorem r_leq {d xt x y yt ty p af g k m n} (hx : a.eval x = .int k m) (hy : a.eval y = .int k n) (h : rO_ P Q r (a.put (some d) (.bool (decide (m ≤ n)))) w) : rO_ P Q (⟨some d, .binOp .leq xt x y yt, ty, p, af, g⟩ :: r) a w :=
 r_cmp hx hy rfl (by simp) h
theorem r_geq {d xt x y yt ty p af g k m n} (hx : a.eval x = .int k m) (hy : a.eval y = .int k n) (h : rO_ P Q r (a.put (some d) (.bool (decide (m ≥ n)))) w) : rO_ P Q (⟨some d, .binOp .geq xt x y yt, ty, p, af, g⟩ :: r) a w :=
 r_cmp hx hy rfl (by simp) h
theorem r_eql {d xt x y yt ty p af g k m n} (hx : a.eval x = .int k m) (hy : a.eval y = .int k n) (h : rO_ P Q r (a.put (some d) (.bool (m == n))) w) : rO_ P Q (⟨some d, .binOp .eql xt x y yt, ty, p, af, g⟩ :: r) a w :=
 r_cmp hx hy rfl (by simp) h
theorem r_not {d xt x ty p af g b} (hx : a.eval x = .bool b) (h : rO_ P Q r (a.put (some d) (.bool (!b))) w) : rO_ P Q (⟨some d, .unOp .not xt x, ty, p, af, g⟩ :: r) a w := by
 refine st ?_
 simp only [Oper.wp, execOp, hx, Op.unary, Sem.run_bind, Sem.run_pure, Result.andThen_ok, Oper.upon_value]
 exact h
def intT (P : Program) (t : TypeId) : Option IntKind :=
 match P.underlying t with
 | some (.int k) => some k
 | _ => none
theorem run_newVar {t : TypeId} {v : Value} : (newVar t v).run P w = .ok ⟨w.heap.size, 0, none⟩ (w.alloc (.cells v.cells t)) := by
 simp [newVar, newRow]
def zeroT (P : Program) (t : TypeId) : Option Value := (P.info? t).bind (·.zero)
theorem run_zeroValue {t v} (h : zeroT P t = some v) : (zeroValue t).run P w = .ok v w := by
 unfold zeroT at h
 cases hi : P.info? t with
 | none => simp [hi] at h
 | some i =>
  simp only [hi, Option.bind_some] at h
  simp [zeroValue, typeInfo, hi, h]
theorem r_alloc {d t ty p af g v} (ht : zeroT P t = some v) (hn : rO_ P Q r (a.put (some d) (.pointer (some ⟨w.heap.size, 0, none⟩))) (w.alloc (.cells v.cells t))) :
  rO_ P Q (⟨some d, .alloc t, ty, p, af, g⟩ :: r) a w := by
 refine st ?_
 simp only [Oper.wp, execOp, Instr.alloc, Sem.run_bind, run_zeroValue ht, run_newVar, Sem.run_pure, Result.andThen_ok, Oper.upon_value]
 exact hn
end
section
variable {P : Program} {a : Act} {w : World} {Q : Exit → Act → World → Prop}
theorem vK (h : Q .normal a w) : vc P .skip Q a w := h
theorem vT (h : Q .ret a w) : vc P .ret Q a w := h
theorem vc_skip_inv (h : vc P .skip Q a w) : Q .normal a w := h
theorem vc_seq_inv {x y : Code} (h : vc P (.seq x y) Q a w) : vc P x (Exit.then (vc P y Q) Q) a w := h
theorem vc_seq {x y : Code} (h : vc P x (Exit.then (vc P y Q) Q) a w) : vc P (.seq x y) Q a w := h
theorem vC {c : Operand} {x y : Code} {t : Bool} (hc : a.eval c = .bool t) (ht : t = true → vc P x Q a w) (hf : t = false → vc P y Q a w) : vc P (.cond c x y) Q a w := ⟨t, hc, ht, hf⟩
theorem vc_block {id : Nat} {b : Code} (h : vc P b (Exit.inBlock id Q) a w) : vc P (.block id b) Q a w := h
theorem vc_ops {id : Nat} {ops : Array Oper} (h : wpOps P ops Q (List.range ops.size) a w) : vc P (.region id ops false) Q a w := h
end
end Go.Km
namespace Go.Km
open Go
inductive Scal where
 | bool | i8 | i16 | i32 | i64 | u16 | f64
 deriving DecidableEq, Repr
inductive Ver where
 | all | ge (n : Nat) | btw (n m : Nat)
 deriving DecidableEq, Repr
mutual
inductive Ty where
 | scal (s : Scal) (df : Int)
 | named (s : Scal) (T : TypeId) (df : Int)
 | uuid
 | text
 | ntext
 | ntextFrom (N : Nat)
 | bytes
 | nbytes
 | list (TS : TypeId) (null : Option Nat) (e : Ty)
 | struct (TP TU : TypeId) (FD : FuncId) (fs : Flds)
 | nstruct (TP TU : TypeId) (FD : FuncId) (fs : Flds) (PP : TypeId)
inductive Flds where
 | nil (tags : Bool)
 | cons (v : Ver) (t : Ty) (r : Flds)
end
structure Env where
 tErr : TypeId := 0
 tI8 : TypeId := 0
 tI16 : TypeId := 0
 tI32 : TypeId := 0
 tI64 : TypeId := 0
 tU8 : TypeId := 0
 tU16 : TypeId := 0
 tW : TypeId := 0
 tU64 : TypeId := 0
 tO : TypeId := 0
 tF64 : TypeId := 0
 tI : TypeId := 0
 tStr : TypeId := 0
 tPStr : TypeId := 0
 tB : TypeId := 0
 tUuid : TypeId := 0
 tTags : TypeId := 0
 tPTags : TypeId := 0
 tRd : TypeId := 0
 tPRd : TypeId := 0
 rI8 : FuncId := 0
 rI16 : FuncId := 0
 rI32 : FuncId := 0
 rI64 : FuncId := 0
 rU16 : FuncId := 0
 rBool : FuncId := 0
 rF64 : FuncId := 0
 rUuid : FuncId := 0
 rStr : FuncId := 0
 rUStr : FuncId := 0
 rCStr : FuncId := 0
 rUCStr : FuncId := 0
 rNStr : FuncId := 0
 rUNStr : FuncId := 0
 rCNStr : FuncId := 0
 rUCNStr : FuncId := 0
 rBytes : FuncId := 0
 rCBytes : FuncId := 0
 rNBytes : FuncId := 0
 rCNBytes : FuncId := 0
 rLen : FuncId := 0
 rCLen : FuncId := 0
 rOk : FuncId := 0
 rComplete : FuncId := 0
 rTags : FuncId := 0
 wI8 : FuncId := 0
 wI16 : FuncId := 0
 wI32 : FuncId := 0
 wI64 : FuncId := 0
 wU16 : FuncId := 0
 wBool : FuncId := 0
 wF64 : FuncId := 0
 wUuid : FuncId := 0
 wStr : FuncId := 0
 wCStr : FuncId := 0
 wNStr : FuncId := 0
 wCNStr : FuncId := 0
 wBytes : FuncId := 0
 wCBytes : FuncId := 0
 wNBytes : FuncId := 0
 wCNBytes : FuncId := 0
 wLen : FuncId := 0
 wCLen : FuncId := 0
 wNLen : FuncId := 0
 wCNLen : FuncId := 0
 wUvarint : FuncId := 0
 tLen : FuncId := 0
 tEach : FuncId := 0
 tUint : TypeId := 0
 tFld : TypeId := 0
 tFlds : TypeId := 0
 tT : TypeId := 0
 tS : TypeId := 0
 tUnk : TypeId := 0
 tK : TypeId := 0
 tMsg : TypeId := 0
 wU32 : FuncId := 0
 wU64 : FuncId := 0
 uvLen : FuncId := 0
 len32 : FuncId := 0
 sHas : FuncId := 0
 sNull : FuncId := 0
 sWhole : FuncId := 0
 sThings : FuncId := 0
 sAt : FuncId := 0
 sUvar : FuncId := 0
 sFixed : FuncId := 0
 sWidth : FuncId := 0
 sCounted : FuncId := 0
 sValue : FuncId := 0
 sField : FuncId := 0
 sUsual : FuncId := 0
 sKnown : FuncId := 0
 sUnknown : FuncId := 0
 sPart : FuncId := 0
 sDefault : FuncId := 0
 sWrite : FuncId := 0
 sKept : FuncId := 0
 sSame : FuncId := 0
 lVersion : FuncId := 0
 tTagMap : TypeId := 0
 tU32s : TypeId := 0
 tFnTag : TypeId := 0
 tFnLess : TypeId := 0
 tAny : TypeId := 0
 gAll : FuncId := 0
 gEach1 : FuncId := 0
 gAll1 : FuncId := 0
 gSet : FuncId := 0
 sortSlice : FuncId := 0
 rUvar : FuncId := 0
 rSpan : FuncId := 0
 rU64 : FuncId := 0
 kUv : FuncId := 0
 kUs : FuncId := 0
 bU16 : FuncId := 0
 bU32 : FuncId := 0
 bU64 : FuncId := 0
 f64b : FuncId := 0
 f64f : FuncId := 0
 tBE : TypeId := 0
 tUvR : TypeId := 0
 vErr : Nat := 0
 vBE : Nat := 0
def Env.tScal (E : Env) : Scal → TypeId
 | .bool => E.tO | .i8 => E.tI8 | .i16 => E.tI16 | .i32 => E.tI32 | .i64 => E.tI64 | .u16 => E.tU16 | .f64 => E.tF64
def Ty.T (E : Env) : Ty → TypeId
 | .scal s _ => E.tScal s
 | .named _ T _ => T
 | .uuid => E.tUuid
 | .text => E.tStr
 | .ntext | .ntextFrom _ => E.tPStr
 | .bytes | .nbytes => E.tB
 | .list TS _ _ => TS
 | .struct TP _ _ _ | .nstruct TP _ _ _ _ => TP
def sq : List Code → Code
 | [] => .skip
 | [c] => c
 | c :: d :: r => .seq c (sq (d :: r))
def rg (l : List Oper) : Code := .region 0 l.toArray false
def i16 (n : Nat) : Operand := .const (.int .i16 n)
def i32 (n : Int) : Operand := .const (.int .i32 n)
def i64 (n : Int) : Operand := .const (.int .i64 n)
structure Cx where
 vs : Nat
 fl : Option Nat
def Ver.nt : Ver → Nat
 | .all => 0 | .ge _ => 2 | .btw _ _ => 6
def Cx.nt (x : Cx) (n : Nat) : Nat := match x.fl with | none => n | some _ => 1 + n + n
def Ty.tp : Ty → Option TypeId
 | .struct TP _ _ _ => some TP
 | _ => none
def Ty.np : Ty → Bool
 | .nstruct _ _ _ _ _ => true
 | _ => false
def Ty.h (t : Ty) : Nat := match t.tp with | some _ => 3 | none => 4
structure Msg where
 TP : TypeId
 TU : TypeId
 FD : FuncId
 flex : Option Nat
 kept : Bool
 fs : Flds
def Scal.kind : Scal → IntKind
 | .i8 => .i8 | .i16 => .i16 | .i32 => .i32 | .i64 => .i64 | .u16 => .u16 | .bool => .u8 | .f64 => .u64
def Scal.val : Scal → Int → Value
 | .bool, n => .bool (n != 0)
 | .f64, n => .float .f64 n.toNat
 | s, n => .int s.kind n
mutual
def Ty.dn : Ty → Nat
 | .struct _ _ _ fs => 1 + fs.dn
 | .nstruct _ _ _ _ _ => 1
 | _ => 0
def Flds.dn : Flds → Nat
 | .nil _ => 0
 | .cons _ t r => t.dn + r.dn
def Ty.dt : Ty → Nat
 | .scal _ df | .named _ _ df => if df = 0 then 0 else 3
 | .struct _ _ _ fs => 4 + fs.dt
 | .nstruct _ _ _ _ _ => 4
 | _ => 0
def Flds.dt : Flds → Nat
 | .nil _ => 0
 | .cons _ t r => t.dt + r.dt
end
mutual
def Ty.dc (E : Env) (TP TU : TypeId) (s idx n t : Nat) : Ty → List Code
 | .scal k df => if df = 0 then [] else [rg [oMove t (.tmp s) TP, oNil (t + 1) (.tmp t), oField (t + 2) TU (.tmp (t + 1)) idx, oStore (E.tScal k) (.tmp (t + 2)) (.const (k.val df))]]
 | .named k T df => if df = 0 then [] else [rg [oMove t (.tmp s) TP, oNil (t + 1) (.tmp t), oField (t + 2) TU (.tmp (t + 1)) idx, oStore T (.tmp (t + 2)) (.const (k.val df))]]
 | .struct TP' TU' _ fs => [sq ([rg [oMove t (.tmp s) TP, oNil (t + 1) (.tmp t), oField (t + 2) TU (.tmp (t + 1)) idx, oAssign n (.tmp (t + 2)) TP'], rg [oMove (t + 3) (.tmp n) TP']] ++
   Flds.dc E TP' TU' n 0 (n + 1) (t + 4) fs)]
 | .nstruct _ _ _ _ PP => [sq [rg [oMove t (.tmp s) TP, oNil (t + 1) (.tmp t), oField (t + 2) TU (.tmp (t + 1)) idx, oAssign n (.tmp (t + 2)) PP], rg [oMove (t + 3) (.tmp n) PP]]]
 | _ => []
def Flds.dc (E : Env) (TP TU : TypeId) (s idx n t : Nat) : Flds → List Code
 | .nil _ => []
 | .cons _ ty r => ty.dc E TP TU s idx n t ++ r.dc E TP TU s (idx + 1) (n + ty.dn) (t + ty.dt)
end
def dcode (E : Env) (TP TU : TypeId) (idx : Nat) (fs : Flds) : Code := sq (fs.dc E TP TU 0 idx 2 (2 + fs.dn))
end Go.Km
namespace Go.Km
open Go
end Go.Km
namespace Go.Km
open Go
end Go.Km
namespace Go.Km
open Go
end Go.Km
namespace Go.Km
open Go Go.RowKit
inductive D where
 | int (n : Int)
 | bytes (o : Option (List UInt8))
 | list (o : Option (List D))
 | obj (l : List D) (tags : List (Nat × List UInt8))
 deriving Inhabited
def bv (b : UInt8) : Value := .int .u8 b.toNat
def big : Nat := 2147483000
def Scal.ok : Scal → Int → Prop
 | .bool, n => n = 0 ∨ n = 1
 | .i8, n => -128 ≤ n ∧ n ≤ 127
 | .i16, n => -32768 ≤ n ∧ n ≤ 32767
 | .u16, n => 0 ≤ n ∧ n ≤ 65535
 | .i32, n => -2147483648 ≤ n ∧ n ≤ 2147483647
 | .i64, n => -9223372036854775808 ≤ n ∧ n ≤ 9223372036854775807
 | .f64, n => 0 ≤ n ∧ n < 18446744073709551616
def TagsOk (tags : List (Nat × List UInt8)) : Prop := tags.Pairwise (fun x y => x.1 < y.1) ∧ ∀ x ∈ tags, x.1 < 4294967296
def Ver.has (ver : Nat) : Ver → Bool
 | .all => true
 | .ge n => decide (n ≤ ver)
 | .btw n m => decide (n ≤ ver) && decide (ver ≤ m)
mutual
def Ty.size : Ty → Nat
 | .uuid => 16
 | .struct _ _ _ fs => fs.size
 | _ => 1
def Flds.size : Flds → Nat
 | .nil tags => if tags then 1 else 0
 | .cons _ t r => t.size + r.size
end
structure Sb where
 b : Nat
 T : List (Nat × List UInt8) → Prop
def OctRep (w : World) (sb : Sb) (B : Nat) (v : Value) (l : List UInt8) : Prop :=
 (v = .slice none 0 0 ∧ l = []) ∨ ∃ c o cap, v = .slice (some ⟨c, o, none⟩) l.length cap ∧ (c = sb.b ∨ B ≤ c) ∧ c < w.heap.size ∧ Cells w c o (l.map bv)
def TagsRep (w : World) (sb : Sb) (B : Nat) (v : Value) (tags : List (Nat × List UInt8)) : Prop :=
 TagsOk tags ∧ sb.T tags ∧ ((v = .map none ∧ tags = []) ∨
 ∃ q es clock, v = .map (some q) ∧ B ≤ q ∧ q < w.heap.size ∧ w.heap[q]? = some (.map es clock) ∧ (∀ e ∈ es.toList, e.born < clock) ∧ (es.toList.map (·.born)).Nodup ∧
  ∃ l : List (Nat × List UInt8), l.Perm tags ∧ l.length = es.size ∧
   ∀ (i : Nat) (x : Nat × List UInt8), l[i]? = some x → ∃ e : MapEntry, es[i]? = some e ∧ e.key = .int .u32 x.1 ∧ OctRep w sb B e.val x.2)
mutual
def Ty.Rep (w : World) (sb : Sb) : Nat → Ty → List Value → D → Prop
 | _, .scal s _, cs, .int n => cs = [s.val n] ∧ s.ok n
 | _, .named s _ _, cs, .int n => cs = [s.val n] ∧ s.ok n
 | _, .uuid, cs, .bytes (some l) => l.length = 16 ∧ cs = l.map bv
 | _, .text, cs, .bytes (some l) => cs = [.string ⟨l.toArray⟩]
 | _, .ntext, cs, .bytes none | _, .ntextFrom _, cs, .bytes none => cs = [.pointer none]
 | B, .ntext, cs, .bytes (some l) | B, .ntextFrom _, cs, .bytes (some l) => ∃ q, cs = [.pointer (some ⟨q, 0, none⟩)] ∧ B ≤ q ∧ w.cell? ⟨q, 0, none⟩ = some (.string ⟨l.toArray⟩)
 | _, .bytes, cs, .bytes none | _, .nbytes, cs, .bytes none => cs = [.slice none 0 0]
 | B, .bytes, cs, .bytes (some l) | B, .nbytes, cs, .bytes (some l) => ∃ q o cap, cs = [.slice (some ⟨q, o, none⟩) l.length cap] ∧ (q = sb.b ∨ B ≤ q) ∧ Cells w q o (l.map bv) ∧ q < w.heap.size
 | _, .list _ _ _, cs, .list none => cs = [.slice none 0 0]
 | B, .list _ _ e, cs, .list (some l) => ∃ q cap, cs = [.slice (some ⟨q, 0, none⟩) l.length cap] ∧ B ≤ q ∧ q < w.heap.size ∧ l.length ≤ big ∧
   ∀ (i : Nat) (d : D), l[i]? = some d → ∃ c : List Value, c.length = e.size ∧ Cells w q (i * e.size) c ∧ e.Rep w sb (q + 1) c d
 | B, .struct _ _ _ fs, cs, .obj l tags => fs.Rep w sb B cs l tags
 | _, .nstruct _ _ _ _ _, cs, .list none => cs = [.pointer none]
 | B, .nstruct _ _ _ fs _, cs, .list (some [.obj l tags]) => ∃ q c, cs = [.pointer (some ⟨q, 0, none⟩)] ∧ B ≤ q ∧ q < w.heap.size ∧ c.length = fs.size ∧ Cells w q 0 c ∧ fs.Rep w sb (q + 1) c l tags
 | _, _, _, _ => False
def Flds.Rep (w : World) (sb : Sb) : Nat → Flds → List Value → List D → List (Nat × List UInt8) → Prop
 | B, .nil t, cs, [], tags => if t then ∃ v, cs = [v] ∧ TagsRep w sb B v tags else cs = [] ∧ tags = []
 | B, .cons _ t r, cs, d :: l, tags => t.Rep w sb B (cs.take t.size) d ∧ r.Rep w sb B (cs.drop t.size) l tags
 | _, _, _, _, _ => False
end
end Go.Km
namespace Go.Km
open Go Go.RowKit
attribute [local irreducible] vc rO_
section
variable {P : Program} {Q : Exit → Act → World → Prop} {a : Act} {w : World} {K : Nat → Prop}
theorem vS {c : Code} {r : List Code} (h : vc P c (Exit.then (vc P (sq r) Q) Q) a w) : vc P (sq (c :: r)) Q a w := by
 cases r with
 | nil =>
  refine vc_mono _ h ?_
  intro e a w h
  cases e <;> first | exact vc_skip_inv h | exact h
 | cons d r => exact vc_seq h
theorem vN (h : Q .normal a w) : vc P (sq []) Q a w := vK h
theorem vc_sq_flat {l : List Code} {r : List Code} (h : vc P (sq (l ++ r)) Q a w) : vc P (sq (sq l :: r)) Q a w := by
 have hh : vc P (sq l) (Exit.then (vc P (sq r) Q) Q) a w := by
  induction l generalizing a w with
  | nil => exact vK h
  | cons c l ih =>
   have hc : vc P c (Exit.then (vc P (sq (l ++ r)) Q) Q) a w := by
    cases hlr : l ++ r with
    | nil =>
     have : vc P (sq (c :: (l ++ r))) Q a w := h
     rw [hlr] at this
     exact vc_mono c this (fun e a w h => by cases e <;> first | exact vK h | exact h)
    | cons d m =>
     have : vc P (sq (c :: (l ++ r))) Q a w := h
     rw [hlr] at this
     exact vc_seq_inv this
   refine vS (vc_mono c hc ?_)
   intro e a w h
   cases e <;> first | exact ih h | exact h
 exact vS hh
theorem vR {l : List Oper} (hg : ∀ o ∈ l, o.guard = none) (h : rO_ P Q l a w) : vc P (rg l) Q a w := vc_run hg h
theorem vX {l : List Oper} {r : List Code} (h : rO_ P (Exit.then (vc P (sq r) Q) Q) l a w) (hg : (l.all fun o => o.guard.isNone) = true := by rfl) : vc P (sq (rg l :: r)) Q a w := vS (vR (fun o ho => Option.isNone_iff_eq_none.1 (List.all_eq_true.1 hg o ho)) h)
def runG (P : Program) (dj : Nat) (Q : Exit → Act → World → Prop) : List Oper → Act → World → Prop
 | [], a, w => Q .normal a w
 | o :: r, a, w => match o.guard with
  | none => o.wp P a w (runG P dj Q r) Q
  | some (_, want) => ∃ b, a.eval (.tmp dj) = .bool b ∧ (if b = want then o.wp P a w (runG P dj Q r) Q else runG P dj Q r (a.put o.dst undef) w)
theorem yielded_of {ops : Array Oper} {j dj : Nat} {o : Oper} {b : Bool} (hj : ops[j]? = some o) (hd : o.dst = some dj) (h : a.eval (.tmp dj) = .bool b) : yielded ops a.tmps j = some b := by
 unfold yielded
 simp only [hj, Option.bind_some, hd]
 simp only [Act.eval, Array.getD_eq_getD_getElem?] at h
 cases ht : a.tmps[dj]? with
 | none => simp [ht, undef] at h
 | some v => simp only [ht, Option.getD_some] at h; subst h; rfl
section
variable {dj : Nat} {r : List Oper}
end
attribute [local irreducible] runG
end
end Go.Km
namespace Go.Km
open Go Go.RowKit
def rowB (P : Program) (t e : TypeId) (s : Nat) : Bool :=
 match P.underlying t, P.info? e with
 | some (.slice e'), some i => e' == e && i.size == s && decide (0 < s) && (match i.zero with | some z => z.cells.size == s | none => false) && decide (i.bytes ≤ 65536)
 | _, _ => false
section
variable {P : Program} {a : Act} {w : World} {r : List Oper} {Q : Exit → Act → World → Prop}
theorem r_pickT {d c x y ty p af g} (hc : a.eval c = .bool true) (h : rO_ P Q r (a.put (some d) (a.eval x)) w) : rO_ P Q (⟨some d, .pick c x y, ty, p, af, g⟩ :: r) a w := by
 refine st ?_
 simp only [Oper.wp, execOp, hc, asBool, Sem.run_bind, Sem.run_pure, Result.andThen_ok, Oper.upon_value, if_true]
 exact h
theorem r_pickF {d c x y ty p af g} (hc : a.eval c = .bool false) (h : rO_ P Q r (a.put (some d) (a.eval y)) w) : rO_ P Q (⟨some d, .pick c x y, ty, p, af, g⟩ :: r) a w := by
 refine st ?_
 simp only [Oper.wp, execOp, hc, asBool, Sem.run_bind, Sem.run_pure, Result.andThen_ok, Oper.upon_value, Bool.false_eq_true, if_false]
 exact h
end
def wants (ops : List Oper) (a : Act) (o : Oper) : Bool := Region.wanted o (yielded ops.toArray a.tmps)
def runS (P : Program) (ops : List Oper) (Q : Exit → Act → World → Prop) : List Nat → Act → World → Prop
 | [], a, w => Q .normal a w
 | i :: r, a, w => ∃ o, ops[i]? = some o ∧ (if wants ops a o = true then o.wp P a w (runS P ops Q r) Q else runS P ops Q r (a.put o.dst undef) w)
section
variable {P : Program} {a : Act} {w : World} {Q : Exit → Act → World → Prop} {ops : List Oper} {r : List Nat}
theorem vc_runS {id : Nat} (h : runS P ops Q (List.range ops.length) a w) : vc P (.region id ops.toArray false) Q a w := by
 refine vc_ops ?_
 have key : ∀ (l : List Nat) (a : Act) (w : World), runS P ops Q l a w → wpOps P ops.toArray Q l a w := by
  intro l
  induction l with
  | nil => exact fun a w h => h
  | cons i r ih =>
   rintro a w ⟨o, ho, h⟩
   have ho' : ops.toArray[i]? = some o := by simpa using ho
   simp only [wpOps, ho']
   by_cases hw : wants ops a o = true
   ·rw [if_pos hw] at h
    have hw' : Region.wanted o (yielded ops.toArray a.tmps) = true := hw
    rw [if_pos hw']
    exact .inl (Oper.wp_mono (fun a w => ih a w) h)
   ·rw [if_neg hw] at h
    have hw' : ¬ Region.wanted o (yielded ops.toArray a.tmps) = true := hw
    rw [if_neg hw']
    exact ih _ _ h
 have := key _ a w h
 simpa using this
theorem runS_nil (h : Q .normal a w) : runS P ops Q [] a w := h
theorem rD {i : Nat} {o : Oper} (ho : ops[i]? = some o) (hw : wants ops a o = true) (h : rO_ P (Exit.then (runS P ops Q r) Q) [o] a w) : runS P ops Q (i :: r) a w := by
 refine ⟨o, ho, ?_⟩
 rw [if_pos hw]
 have h' : o.wp P a w (runS P ops Q r) (Exit.then (runS P ops Q r) Q) := h
 unfold Oper.wp at h' ⊢
 revert h'
 generalize (execOp a.eval o).run P w = res
 intro h
 unfold Oper.upon at h ⊢
 split at h <;> first
  | exact h
  | (exact Calls.mono h (fun e w' hh => by cases e <;> exact hh))
  | (exact Rows.mono h (fun _ _ hh => hh))
theorem rT (h : runS P ops Q r a w) : Exit.then (runS P ops Q r) Q .normal a w := h
theorem runS_no {i : Nat} {o : Oper} (ho : ops[i]? = some o) (hw : wants ops a o = false) (h : runS P ops Q r (a.put o.dst undef) w) : runS P ops Q (i :: r) a w := by
 refine ⟨o, ho, ?_⟩
 rw [if_neg (by rw [hw]; exact Bool.false_ne_true)]
 exact h
theorem wN {o : Oper} (h : o.guard = none) : wants ops a o = true := by simp [wants, Region.wanted, h]
theorem wS {o : Oper} {j : Nat} {dj : Tmp} {want b : Bool} (h : o.guard = some (j, want)) (hj : (ops[j]?).bind (·.dst) = some dj) (hb : a.eval (.tmp dj) = .bool b) : wants ops a o = (b == want) := by
 unfold wants Region.wanted
 rw [h]
 have hy : yielded ops.toArray a.tmps j = some b := by
  cases hoj : ops[j]? with
  | none => simp [hoj] at hj
  | some oj => exact yielded_of (by simpa using hoj) (by simpa [hoj] using hj) hb
 simp [hy]
end
def runD (P : Program) (ops : List Oper) (Q : Exit → Act → World → Prop) (S : World → Prop) : List (Nat × Bool) → Act → World → Prop
 | [], a, w => Q .normal a w
 | (i, true) :: r, a, w => ∃ o v, ops[i]? = some o ∧ YieldsIf P ops.toArray S o v a ∧ S w ∧ runD P ops Q S r (a.put o.dst v) w
 | (i, false) :: r, a, w => wpOp P ops.toArray Q i (fun a' w' => S w' ∧ runD P ops Q S r a' w') a w
section
variable {P : Program} {a : Act} {w : World} {Q : Exit → Act → World → Prop} {ops : List Oper} {S : World → Prop}
end
end Go.Km
namespace Go.Km
open Go Go.RowKit
attribute [local irreducible] vc rO_ runG
section
variable {P : Program} {Q : Exit → Act → World → Prop} {a : Act} {w : World}
end
end Go.Km
namespace Go.Km
open Go Go.RowKit
attribute [local irreducible] vc rO_ runG
def Wr1 (P : Program) (E : Env) (F : FuncId) (U : Nat) (args : List Value) (bs : List UInt8) (w : World) : Prop :=
 ∀ dv (xs : List UInt8), w.ownsRow U E.tU8 1 dv xs.length (xs.map bv) → U ≤ w.heap.size → xs.length + bs.length ≤ big →
  CallsV P F (#[dv] ++ args.toArray) w fun v' w' => w'.ownsRow U E.tU8 1 v' (xs ++ bs).length ((xs ++ bs).map bv) ∧ Below U w w'
def Cx.ok (x : Cx) (F G : FuncId) : Bool := (G != 0) && (x.fl.isNone || F != 0)
structure WSt (P : Program) (E : Env) (W0 : World) (x : Cx) (ver : Nat) (fx : Bool) (a : Act) (w : World) (xs : List UInt8) : Prop where
 below : Below W0.heap.size W0 w
 own : w.ownsRow W0.heap.size E.tU8 1 (a.eval (.tmp 1)) xs.length (xs.map bv)
 ver : a.eval (.tmp x.vs) = .int .i16 (ver : Int)
 fl : ∀ f, x.fl = some f → a.eval (.tmp f) = .bool fx
def KW (L n t : Nat) (k : Nat) : Prop := k ≠ 1 ∧ (k < n ∨ (L ≤ k ∧ k < t))
theorem KW.mono {L n n' t t' : Nat} (hn : n ≤ n') (ht : t ≤ t') : ∀ k, KW L n t k → KW L n' t' k := fun k ⟨h1, h2⟩ => ⟨h1, by omega⟩
structure WSl (x : Cx) (L n t : Nat) (fx : Bool) : Prop where
 one : 1 < n
 vs : x.vs < n ∧ x.vs ≠ 1
 fl : ∀ f, x.fl = some f → f < n ∧ f ≠ 1
 no : x.fl = none → fx = false
 nL : n ≤ L
 Lt : L ≤ t
theorem WSl.kt {x : Cx} {L n t : Nat} {fx : Bool} (h : WSl x L n t fx) : ∀ d, t ≤ d → ¬ KW L n t d := by
 rintro d hd ⟨_, h2⟩
 have := h.nL; have := h.Lt
 omega
section
variable {P : Program} {E : Env} {W0 : World} {sb : Sb}
theorem WSt.fr {x : Cx} {ver : Nat} {fx : Bool} {a a' : Act} {w : World} {xs : List UInt8} {L n t : Nat} (h : WSt P E W0 x ver fx a w xs) (hs : WSl x L n t fx) (hf : Fr (KW L n t) a a') (h1 : a'.eval (.tmp 1) = a.eval (.tmp 1)) :
  WSt P E W0 x ver fx a' w xs :=
 ⟨h.below, by rw [h1]; exact h.own, by rw [hf.slot _ ⟨hs.vs.2, .inl hs.vs.1⟩]; exact h.ver, fun f hh => by rw [hf.slot _ ⟨(hs.fl f hh).2, .inl (hs.fl f hh).1⟩]; exact h.fl f hh⟩
theorem WSt.size {x : Cx} {ver : Nat} {fx : Bool} {a : Act} {w : World} {xs : List UInt8} (h : WSt P E W0 x ver fx a w xs) : W0.heap.size ≤ w.heap.size := h.below.size
theorem Cells.below {w w' : World} {B b o : Nat} {cs : List Value} (h : Cells w b o cs) (hw : Below B w w') (hb : b < B) : Cells w' b o cs :=
 fun i v hv => by rw [hw.cell (p := ⟨b, o + i, none⟩) hb]; exact h i v hv
end
end Go.Km
namespace Go.Km
open Go Go.RowKit
attribute [local irreducible] vc rO_ runG
section
variable {P : Program} {E : Env} {W0 : World} {sb : Sb}
theorem OctRep.mono {w : World} {B B' : Nat} {v : Value} {l : List UInt8} (h : OctRep w sb B v l) (hB : B' ≤ B) : OctRep w sb B' v l := by
 rcases h with h | ⟨c, o, cap, hv, hc, h⟩
 ·exact .inl h
 ·exact .inr ⟨c, o, cap, hv, hc.imp id (fun h => by omega), h⟩
theorem TagsRep.mono {w : World} {B B' : Nat} {v : Value} {tags : List (Nat × List UInt8)} (h : TagsRep w sb B v tags) (hB : B' ≤ B) : TagsRep w sb B' v tags := by
 obtain ⟨h1, h0, h2⟩ := h
 refine ⟨h1, h0, ?_⟩
 rcases h2 with h2 | ⟨q, es, clock, hv, hq, hs, hm, hb, hn, l, hl, hsz, he⟩
 ·exact .inl h2
 ·refine .inr ⟨q, es, clock, hv, by omega, hs, hm, hb, hn, l, hl, hsz, fun i x hx => ?_⟩
  obtain ⟨e, h1, h2, h3⟩ := he i x hx
  exact ⟨e, h1, h2, h3.mono hB⟩
section
variable {Q : Exit → Act → World → Prop} {a : Act} {w : World} {K : Nat → Prop}
end
theorem Cells.take {w : World} {b o : Nat} {cs : List Value} (h : Cells w b o cs) (n : Nat) : Cells w b o (cs.take n) := fun i v hv => h i v (by
 rw [List.getElem?_take] at hv
 split at hv
 ·exact hv
 ·cases hv)
theorem Cells.drop {w : World} {b o : Nat} {cs : List Value} (h : Cells w b o cs) (n : Nat) : Cells w b (o + n) (cs.drop n) := fun i v hv => by
 rw [List.getElem?_drop] at hv
 have := h (n + i) v hv
 rwa [show o + n + i = o + (n + i) by omega]
end
end Go.Km
namespace Go.Km
open Go Go.RowKit
attribute [local irreducible] vc rO_ runG
section
variable {P : Program} {E : Env} {W0 : World} {sb : Sb}
end
end Go.Km
namespace Go.Km
open Go Go.RowKit
attribute [local irreducible] vc rO_ runG
section
variable {P : Program} {E : Env} {W0 : World} {sb : Sb}
theorem rO {P : Program} {w : World} {a : Act} {t : Nat} {v : Value} (h : a.eval (.tmp t) = v) : (results { (default : Func) with results := #[.tmp t] } a.tmps).run P w = .ok v w := by
 subst h
 simp [results, Act.eval]
theorem CallsV.enter {P : Program} {f : FuncId} {np nt : Nat} {res : Array ResultVar} {c : Code} (ht : Text P f np nt res c) {args : Array Value} {w : World} {S : Value → World → Prop} (hn : args.size ≤ nt)
  (h : ∀ a, a.tmps.size = nt → a.defers = [] → (∀ i v, args[i]? = some v → a.eval (.tmp i) = v) → vc P c (Out P res S) a w) : CallsV P f args w S := by
 refine CallsV.of_vc ht (h _ (by simp; omega) rfl ?_)
 intro i v hv
 have hi : i < args.size := by
  rcases Nat.lt_or_ge i args.size with h | h
  ·exact h
  ·simp [Array.getElem?_eq_none h] at hv
 simp [Act.eval, Array.getElem?_append_left hi, hv]
end
end Go.Km
namespace Go.Km
open Go Go.RowKit
attribute [local irreducible] vc rO_ runG runS runD
section
variable {P : Program} {a : Act} {w : World} {r : List Oper} {Q : Exit → Act → World → Prop}
end
section
variable {P : Program} {E : Env} {w : World} {U : Nat}
end
end Go.Km
namespace Go.Km
open Go Go.RowKit
attribute [local irreducible] vc rO_ runG runS runD
section
variable {P : Program} {a : Act} {w : World} {r : List Oper} {Q : Exit → Act → World → Prop}
end
section
variable {P : Program} {E : Env} {w : World} {U : Nat}
end
end Go.Km
namespace Go.Km
open Go Go.RowKit
attribute [local irreducible] vc rO_ runG runS runD
section
variable {P : Program} {a : Act} {w : World} {r : List Oper} {Q : Exit → Act → World → Prop}
end
section
variable {P : Program} {E : Env} {w : World} {U : Nat}
def Keep (w : World) (v v' : Value) (w' : World) : Prop := (∀ k, k < w.heap.size → v.ownBlock ≠ some k → w'.heap[k]? = w.heap[k]?) ∧ ∀ g, v'.ownBlock = some g → v.ownBlock = some g ∨ w.heap.size ≤ g
def Wr1K (P : Program) (E : Env) (F : FuncId) (U : Nat) (args : List Value) (bs : List UInt8) (w : World) : Prop :=
 ∀ dv (xs : List UInt8), w.ownsRow U E.tU8 1 dv xs.length (xs.map bv) → U ≤ w.heap.size → xs.length + bs.length ≤ big →
  CallsV P F (#[dv] ++ args.toArray) w fun v' w' => w'.ownsRow U E.tU8 1 v' (xs ++ bs).length ((xs ++ bs).map bv) ∧ Below U w w' ∧ Keep w dv v' w'
theorem Wr1K.one {P : Program} {E : Env} {F : FuncId} {U : Nat} {args : List Value} {bs : List UInt8} {w : World} (h : Wr1K P E F U args bs w) : Wr1 P E F U args bs w :=
 fun dv xs h1 h2 h3 => (h dv xs h1 h2 h3).mono fun _ _ ⟨a, b, _⟩ => ⟨a, b⟩
end
end Go.Km
namespace Go.Km
open Go Go.RowKit
attribute [local irreducible] vc rO_ runG runS runD
section
variable {P : Program} {a : Act} {w : World} {r : List Oper} {Q : Exit → Act → World → Prop}
end
section
variable {P : Program} {E : Env} {w : World} {U : Nat}
end
def on (f : Nat) (c : Bool) : Bool := f == 0 || c
def strB (P : Program) (t : TypeId) : Bool := match P.underlying t with | some .string => true | _ => false
end Go.Km
namespace Go.Km
open Go Go.RowKit
attribute [local irreducible] vc rO_ runG runS runD
section
variable {P : Program} {a : Act} {w : World} {Q : Exit → Act → World → Prop}
end
section
variable {P : Program} {E : Env} {w : World} {U : Nat}
end
end Go.Km
namespace Go.Km
open Go Go.RowKit
attribute [local irreducible] vc rO_ runG runS runD
section
variable {P : Program} {a : Act} {w : World} {Q : Exit → Act → World → Prop} {r : List Oper}
end
section
variable {P : Program} {E : Env} {w : World} {U : Nat}
end
end Go.Km
namespace Go.Km
open Go Go.RowKit
attribute [local irreducible] vc rO_ runG runS runD
mutual
inductive Tr where
 | mk (n : Int) (s : List UInt8) (nl : Bool) (l : Trs) (u : List (Nat × List UInt8))
inductive Trs where
 | nil
 | cons (t : Tr) (r : Trs)
end
mutual
inductive SF where
 | mk (kind fr to nul tag df el : Int) (sub : SFs)
inductive SFs where
 | nil
 | cons (f : SF) (r : SFs)
end
def Trs.len : Trs → Nat
 | .nil => 0
 | .cons _ r => r.len + 1
def Trs.get : Trs → Nat → Option Tr
 | .nil, _ => none
 | .cons t _, 0 => some t
 | .cons _ r, i + 1 => r.get i
def SFs.len : SFs → Nat
 | .nil => 0
 | .cons _ r => r.len + 1
def SFs.get : SFs → Nat → Option SF
 | .nil, _ => none
 | .cons t _, 0 => some t
 | .cons _ r, i + 1 => r.get i
def Tr.zero : Tr := .mk 0 [] false .nil []
def Tr.at (t : Tr) (i : Nat) : Tr := match t with | .mk _ _ _ l _ => (l.get i).getD .zero
def NilS (v : Value) : Prop := ∃ ad cap, v = .slice ad 0 cap
def OctsB (w : World) (U : Nat) (v : Value) (l : List UInt8) : Prop :=
 (NilS v ∧ l = []) ∨ ∃ q o cap, v = .slice (some ⟨q, o, none⟩) l.length cap ∧ l.length ≤ cap ∧ q < U ∧ Cells w q o (l.map bv)
def UnkB (w : World) (U : Nat) (v : Value) (u : List (Nat × List UInt8)) : Prop :=
 (NilS v ∧ u = []) ∨ ∃ q o cap, v = .slice (some ⟨q, o, none⟩) u.length cap ∧ u.length ≤ cap ∧ q < U ∧
  ∀ (i : Nat) (x : Nat × List UInt8), u[i]? = some x → ∃ sv, x.1 < 4294967296 ∧ Cells w q (o + i * 2) [.int .u32 x.1, sv] ∧ OctsB w U sv x.2
mutual
def Tr.Rep (w : World) (U : Nat) : Tr → List Value → Prop
 | .mk n s nl l u, cs => ∃ sv lv uv, cs = [.int .i64 n, sv, .bool nl, lv, uv] ∧ OctsB w U sv s ∧ UnkB w U uv u ∧
   ((NilS lv ∧ l.len = 0) ∨ ∃ q o cap, lv = .slice (some ⟨q, o, none⟩) l.len cap ∧ l.len ≤ cap ∧ q < U ∧ l.Rep w U q o)
def Trs.Rep (w : World) (U q : Nat) : Trs → Nat → Prop
 | .nil, _ => True
 | .cons t r, o => (∃ c, Cells w q o c ∧ t.Rep w U c) ∧ r.Rep w U q (o + 5)
end
mutual
def SF.Rep (w : World) (U : Nat) : SF → List Value → Prop
 | .mk kind fr to nul tag df el sub, cs => ∃ sv, cs = [.int .i64 kind, .int .i64 fr, .int .i64 to, .int .i64 nul, .int .i64 tag, .int .i64 df, .int .i64 el, sv] ∧
   ((sv = .slice none 0 0 ∧ sub.len = 0) ∨ ∃ q o cap, sv = .slice (some ⟨q, o, none⟩) sub.len cap ∧ sub.len ≤ cap ∧ q < U ∧ sub.Rep w U q o)
def SFs.Rep (w : World) (U q : Nat) : SFs → Nat → Prop
 | .nil, _ => True
 | .cons f r, o => (∃ c, Cells w q o c ∧ f.Rep w U c) ∧ r.Rep w U q (o + 8)
end
theorem Tr.Rep.len {w : World} {U : Nat} {t : Tr} {cs : List Value} (h : t.Rep w U cs) : cs.length = 5 := by
 cases t with
 | mk n s nl l u => obtain ⟨_, _, _, rfl, _⟩ := h; rfl
theorem SF.Rep.len {w : World} {U : Nat} {f : SF} {cs : List Value} (h : f.Rep w U cs) : cs.length = 8 := by
 cases f with
 | mk => obtain ⟨_, rfl, _⟩ := h; rfl
theorem Trs.Rep.get {w : World} {U q : Nat} : ∀ {l : Trs} {o : Nat}, l.Rep w U q o → ∀ {i : Nat} {t : Tr}, l.get i = some t → ∃ c, Cells w q (o + i * 5) c ∧ t.Rep w U c
 | .nil, _, _, _, _, h => by cases h
 | .cons t r, o, ⟨h1, h2⟩, i, u, h => by
  cases i with
  | zero =>
   simp only [Trs.get, Option.some.injEq] at h
   subst h
   simpa using h1
  | succ i =>
   obtain ⟨c, h3, h4⟩ := Trs.Rep.get (l := r) h2 (i := i) h
   exact ⟨c, by rwa [show o + 5 + i * 5 = o + (i + 1) * 5 by omega] at h3, h4⟩
theorem SFs.Rep.get {w : World} {U q : Nat} : ∀ {l : SFs} {o : Nat}, l.Rep w U q o → ∀ {i : Nat} {t : SF}, l.get i = some t → ∃ c, Cells w q (o + i * 8) c ∧ t.Rep w U c
 | .nil, _, _, _, _, h => by cases h
 | .cons t r, o, ⟨h1, h2⟩, i, u, h => by
  cases i with
  | zero =>
   simp only [SFs.get, Option.some.injEq] at h
   subst h
   simpa using h1
  | succ i =>
   obtain ⟨c, h3, h4⟩ := SFs.Rep.get (l := r) h2 (i := i) h
   exact ⟨c, by rwa [show o + 8 + i * 8 = o + (i + 1) * 8 by omega] at h3, h4⟩
theorem OctsB.below {w w' : World} {U : Nat} {v : Value} {l : List UInt8} (h : OctsB w U v l) (hw : Below U w w') : OctsB w' U v l := by
 rcases h with h | ⟨q, o, cap, h1, h2, h3, h4⟩
 ·exact .inl h
 ·exact .inr ⟨q, o, cap, h1, h2, h3, h4.below hw h3⟩
theorem UnkB.below {w w' : World} {U : Nat} {v : Value} {u : List (Nat × List UInt8)} (h : UnkB w U v u) (hw : Below U w w') : UnkB w' U v u := by
 rcases h with h | ⟨q, o, cap, h1, h2, h3, h4⟩
 ·exact .inl h
 ·refine .inr ⟨q, o, cap, h1, h2, h3, fun i x hx => ?_⟩
  obtain ⟨sv, h0, h5, h6⟩ := h4 i x hx
  exact ⟨sv, h0, h5.below hw h3, h6.below hw⟩
mutual
theorem Tr.Rep.below {w w' : World} {U : Nat} (hw : Below U w w') : ∀ {t : Tr} {cs : List Value}, t.Rep w U cs → t.Rep w' U cs
 | .mk n s nl l u, cs, ⟨sv, lv, uv, h1, h2, h3, h4⟩ => by
  refine ⟨sv, lv, uv, h1, h2.below hw, h3.below hw, ?_⟩
  rcases h4 with h4 | ⟨q, o, cap, h5, h6, h7, h8⟩
  ·exact .inl h4
  ·exact .inr ⟨q, o, cap, h5, h6, h7, Trs.Rep.below hw h7 h8⟩
theorem Trs.Rep.below {w w' : World} {U q : Nat} (hw : Below U w w') (hq : q < U) : ∀ {l : Trs} {o : Nat}, l.Rep w U q o → l.Rep w' U q o
 | .nil, _, _ => trivial
 | .cons t r, o, ⟨⟨c, h1, h2⟩, h3⟩ => ⟨⟨c, h1.below hw hq, Tr.Rep.below hw h2⟩, Trs.Rep.below hw hq h3⟩
end
mutual
theorem SF.Rep.below {w w' : World} {U : Nat} (hw : Below U w w') : ∀ {t : SF} {cs : List Value}, t.Rep w U cs → t.Rep w' U cs
 | .mk kind fr to nul tag df el sub, cs, ⟨sv, h1, h4⟩ => by
  refine ⟨sv, h1, ?_⟩
  rcases h4 with h4 | ⟨q, o, cap, h5, h6, h7, h8⟩
  ·exact .inl h4
  ·exact .inr ⟨q, o, cap, h5, h6, h7, SFs.Rep.below hw h7 h8⟩
theorem SFs.Rep.below {w w' : World} {U q : Nat} (hw : Below U w w') (hq : q < U) : ∀ {l : SFs} {o : Nat}, l.Rep w U q o → l.Rep w' U q o
 | .nil, _, _ => trivial
 | .cons t r, o, ⟨⟨c, h1, h2⟩, h3⟩ => ⟨⟨c, h1.below hw hq, SF.Rep.below hw h2⟩, SFs.Rep.below hw hq h3⟩
end
section
variable {P : Program} {a : Act} {w : World} {r : List Oper} {Q : Exit → Act → World → Prop}
end
def SF.has : SF → Int → Bool
 | .mk _ fr to _ _ _ _ _, v => decide (fr ≤ v) && (decide (to < 0) || decide (v ≤ to))
section
variable {P : Program} {E : Env} {w : World} {U : Nat}
end
end Go.Km
namespace Go.Km
open Go Go.RowKit
attribute [local irreducible] vc rO_ runG runS runD
section
variable {P : Program} {a : Act} {w : World} {r : List Oper} {Q : Exit → Act → World → Prop}
def lays (P : Program) (t : TypeId) : Option (List (Nat × Nat) × Array Value) :=
 match P.underlying t, P.info? t with
 | some (.struct fs), some it =>
  match it.zero, fs.toList.mapM (fun f => (P.info? f.type).map fun i => (f.offset, i.size)) with
  | some z, some pl => some (pl, z.cells)
  | _, _ => none
 | _, _ => none
end
section
variable {P : Program} {E : Env} {w : World} {U : Nat}
theorem OctsB.one {w : World} {U : Nat} {v : Value} {l : List UInt8} (h : OctsB w U v l) : v.oneCell' = true := by
 rcases h with ⟨⟨_, _, rfl⟩, _⟩ | ⟨q, o, cap, rfl, _⟩ <;> rfl
theorem Tr.Rep.one {w : World} {U : Nat} {t : Tr} {cs : List Value} (h : t.Rep w U cs) : ∀ v ∈ cs, v.oneCell' = true := by
 cases t with
 | mk n s nl l u =>
  obtain ⟨sv, lv, uv, rfl, h1, h2, h3⟩ := h
  have e1 := h1.one
  have e2 : uv.oneCell' = true := by rcases h2 with ⟨⟨_, _, rfl⟩, _⟩ | ⟨q, o, cap, rfl, _⟩ <;> rfl
  have e3 : lv.oneCell' = true := by rcases h3 with ⟨⟨_, _, rfl⟩, _⟩ | ⟨q, o, cap, rfl, _⟩ <;> rfl
  intro v hv
  simp only [List.mem_cons, List.not_mem_nil, or_false] at hv
  rcases hv with rfl | rfl | rfl | rfl | rfl <;> first | rfl | assumption
theorem SF.Rep.one {w : World} {U : Nat} {f : SF} {cs : List Value} (h : f.Rep w U cs) : ∀ v ∈ cs, v.oneCell' = true := by
 cases f with
 | mk =>
  obtain ⟨sv, rfl, h3⟩ := h
  have e3 : sv.oneCell' = true := by rcases h3 with ⟨rfl, _⟩ | ⟨q, o, cap, rfl, _⟩ <;> rfl
  intro v hv
  simp only [List.mem_cons, List.not_mem_nil, or_false] at hv
  rcases hv with rfl | rfl | rfl | rfl | rfl | rfl | rfl | rfl <;> first | rfl | assumption
end
end Go.Km
namespace Go.Km
open Go Go.RowKit
attribute [local irreducible] vc rO_ runG runS runD
def RowB (w : World) (v : Value) (l : List UInt8) : Prop :=
 (v = .slice none 0 0 ∧ l = []) ∨ ∃ q o cap, v = .slice (some ⟨q, o, none⟩) l.length cap ∧ Cells w q o (l.map bv)
theorem RowB.at {w : World} {v : Value} {l : List UInt8} (h : RowB w v l) {i : Nat} (hi : i < l.length) : ∃ q o cap, v = .slice (some ⟨q, o, none⟩) l.length cap ∧ w.cell? ⟨q, o + i, none⟩ = some (.int .u8 (l[i]).toNat) := by
 rcases h with ⟨rfl, rfl⟩ | ⟨q, o, cap, rfl, hc⟩
 ·simp at hi
 ·refine ⟨q, o, cap, rfl, ?_⟩
  exact hc i (bv l[i]) (by simp [hi])
theorem cell_heap {w w' : World} (h : w'.heap = w.heap) (p : Addr) : w'.cell? p = w.cell? p := by
 unfold World.cell?
 rw [h]
theorem RowB.heap {w w' : World} (h : w'.heap = w.heap) {v : Value} {l : List UInt8} (hr : RowB w v l) : RowB w' v l := by
 rcases hr with hr | ⟨q, o, cap, h1, h2⟩
 ·exact .inl hr
 ·exact .inr ⟨q, o, cap, h1, fun i u hu => by rw [cell_heap h]; exact h2 i u hu⟩
section
variable {P : Program} {a : Act} {w : World} {Q : Exit → Act → World → Prop}
end
section
variable {P : Program} {E : Env} {w : World} {U : Nat}
end
end Go.Km
namespace Go.Km
open Go Go.RowKit
attribute [local irreducible] vc rO_ runG runS runD
abbrev RSt := List UInt8 × Bool
def beN (l : List UInt8) : Nat := l.foldl (fun n b => n * 256 + b.toNat) 0
def rdN (k : Nat) (st : RSt) : Nat × RSt := if st.1.length < k then (0, [], true) else (beN (st.1.take k), st.1.drop k, st.2)
def SrcV (W : World) (sb : Nat) (v : Value) (l : List UInt8) : Prop :=
 (v = .slice none 0 0 ∧ l = []) ∨ ∃ o cap, v = .slice (some ⟨sb, o, none⟩) l.length cap ∧ l.length ≤ cap ∧ Cells W sb o (l.map bv)
structure RdS (W : World) (rb sb : Nat) (st : RSt) : Prop where
 ne : rb ≠ sb
 lt : sb < W.heap.size
 cells : ∃ v, Cells W rb 0 [v, .bool st.2] ∧ SrcV W sb v st.1
 f0 : Free W rb 0
 f1 : Free W rb 1
 len : st.1.length ≤ big
theorem SrcV.one {W : World} {sb : Nat} {v : Value} {l : List UInt8} (h : SrcV W sb v l) : v.oneCell' = true := by
 rcases h with ⟨rfl, _⟩ | ⟨o, cap, rfl, _⟩ <;> rfl
theorem SrcV.heap {W W' : World} {sb : Nat} {v : Value} {l : List UInt8} (h : SrcV W sb v l) (hk : W'.heap[sb]? = W.heap[sb]?) : SrcV W' sb v l := by
 rcases h with h | ⟨o, cap, h1, h2, h3⟩
 ·exact .inl h
 ·refine .inr ⟨o, cap, h1, h2, fun i u hu => ?_⟩
  have := h3 i u hu
  simp only [World.cell?] at this ⊢
  rw [hk]
  exact this
theorem SrcV.skip {W : World} {sb : Nat} {v : Value} {l : List UInt8} {ad : Option Addr} {cap n : Nat} (h : SrcV W sb v l) (hv : v = .slice ad l.length cap) (hn : n ≤ l.length) :
  SrcV W sb (.slice (if cap = n then ad else ad.map (·.add (n * 1))) (l.length - n) (cap - n)) (l.drop n) := by
 rcases h with ⟨h1, h2⟩ | ⟨o, c, h1, h2, h3⟩
 ·subst h2
  rw [h1] at hv
  simp only [Value.slice.injEq, List.length_nil] at hv
  obtain ⟨rfl, _, rfl⟩ := hv
  have : n = 0 := by simpa using hn
  subst this
  exact .inl ⟨by simp, by simp⟩
 ·rw [h1] at hv
  simp only [Value.slice.injEq, true_and] at hv
  obtain ⟨rfl, rfl⟩ := hv
  by_cases he : c = n
  ·subst he
   have hl : l.length = c := by omega
   rw [if_pos rfl]
   refine .inr ⟨o, 0, by rw [List.length_drop, Nat.sub_self], by rw [List.length_drop]; omega, fun i u hu => ?_⟩
   rw [List.drop_eq_nil_of_le (by omega)] at hu
   simp at hu
  ·rw [if_neg he]
   refine .inr ⟨o + n, c - n, ?_, by rw [List.length_drop]; omega, ?_⟩
   ·rw [List.length_drop, Nat.mul_one]
    simp [Addr.add_lit]
   ·intro i u hu
    rw [List.map_drop, List.getElem?_drop] at hu
    have := h3 _ u hu
    rwa [show o + (n + i) = o + n + i by omega] at this
theorem RdS.below {W W' : World} {rb sb : Nat} {st : RSt} {B : Nat} (h : RdS W rb sb st) (hb : Below B W W') (h1 : rb < B) (h2 : sb < B) : RdS W' rb sb st := by
 obtain ⟨v, h3, h4⟩ := h.cells
 have hk : W'.heap[sb]? = W.heap[sb]? := hb.block sb h2
 exact ⟨h.ne, Nat.lt_of_lt_of_le h.lt hb.size, ⟨v, h3.below hb h1, h4.heap hk⟩, ⟨by rw [hb.cell (p := ⟨rb, 0, none⟩) h1]; exact h.f0.1, by rw [hb.frozen (p := ⟨rb, 0, none⟩) h1]; exact h.f0.2⟩,
  ⟨by rw [hb.cell (p := ⟨rb, 1, none⟩) h1]; exact h.f1.1, by rw [hb.frozen (p := ⟨rb, 1, none⟩) h1]; exact h.f1.2⟩, h.len⟩
def NN (W : World) (rb : Nat) : Prop := ∃ a n c y, Cells W rb 0 [.slice (some a) n c, y]
theorem NN.below {W W' : World} {rb B : Nat} (h : NN W rb) (hb : Below B W W') (h1 : rb < B) : NN W' rb := by
 obtain ⟨a, n, c, y, h⟩ := h
 exact ⟨a, n, c, y, h.below hb h1⟩
section
variable {P : Program} {E : Env}
end
end Go.Km
namespace Go.Km
open Go Go.RowKit
attribute [local irreducible] vc rO_ runG runS runD
section
variable {P : Program} {E : Env} {a : Act} {w : World} {r : List Oper} {Q : Exit → Act → World → Prop}
end
section
variable {P : Program} {E : Env}
end
end Go.Km
namespace Go.Km
open Go Go.RowKit
attribute [local irreducible] vc rO_ runG runS runD
def sgn (k n : Nat) : Int := if n < 2 ^ (8 * k - 1) then (n : Int) else (n : Int) - 2 ^ (8 * k)
section
variable {P : Program} {E : Env}
end
end Go.Km
namespace Go.Km
open Go
end Go.Km
namespace Go.Km
open Go Go.RowKit
attribute [local irreducible] vc rO_ runG runS runD
def uvDec : Nat → Nat → List UInt8 → Option (Nat × Nat)
 | _, _, [] => none
 | i, acc, b :: r => if i = 4 then (if b.toNat ≤ 15 then some (acc + b.toNat * 2 ^ 28, 5) else none) else if b.toNat < 128 then some (acc + b.toNat * 2 ^ (7 * i), i + 1) else uvDec (i + 1) (acc + b.toNat % 128 * 2 ^ (7 * i)) r
def rdUv (st : RSt) : Nat × RSt := match uvDec 0 0 st.1 with | none => (0, [], true) | some (v, n) => (v, st.1.drop n, st.2)
section
variable {P : Program} {E : Env} {a : Act} {w : World} {r : List Oper} {Q : Exit → Act → World → Prop}
theorem r_extract {d x i t p af g} {vs : Array Value} {v : Value} (hx : a.eval x = .tuple vs) (hv : vs[i]? = some v) (h : rO_ P Q r (a.put (some d) v) w) : rO_ P Q (⟨some d, .extract x i, t, p, af, g⟩ :: r) a w := by
 refine st ?_
 have hr : (Instr.extract (a.eval x) i).run P w = .ok v w := by rw [hx]; simp [Instr.extract, hv]
 simp only [Oper.wp, execOp, Sem.run_bind, hr, Sem.run_pure, Result.andThen_ok, Oper.upon_value]
 exact h
end
section
variable {P : Program} {E : Env}
end
end Go.Km
namespace Go.Km
open Go Go.RowKit
attribute [local irreducible] vc rO_ runG runS runD
def rdSpan (l : Int) (st : RSt) : List UInt8 × RSt := if (st.1.length : Int) < l ∨ l < 0 then ([], [], true) else (st.1.take l.toNat, st.1.drop l.toNat, st.2)
section
variable {P : Program} {E : Env}
end
end Go.Km
namespace Go.Km
open Go Go.RowKit
attribute [local irreducible] vc rO_ runG runS runD
def rdL2 (st : RSt) : Int × RSt := (sgn 2 (rdN 2 st).1, (rdN 2 st).2)
def rdL4 (st : RSt) : Int × RSt := (sgn 4 (rdN 4 st).1, (rdN 4 st).2)
def rdLc (st : RSt) : Int × RSt := (((rdUv st).1 : Int) - 1, (rdUv st).2)
def rdStr (p : Int × RSt) : List UInt8 × RSt := rdSpan p.1 p.2
def rdNul (p : Int × RSt) : Option (List UInt8) × RSt := if p.1 < 0 then (none, p.2) else (some (rdSpan p.1 p.2).1, (rdSpan p.1 p.2).2)
def rdOct (p : Int × RSt) : Option (List UInt8) × RSt := if p.1 = -1 then (some [], p.2) else (some (rdSpan p.1 p.2).1, (rdSpan p.1 p.2).2)
def rdCount (p : Int × RSt) : Int × RSt := if (p.2.1.length : Int) < p.1 then (0, [], true) else p
def rdC4 (st : RSt) : Int × RSt := rdCount (rdL4 st)
def rdCc (st : RSt) : Int × RSt := rdCount (IntKind.i32.wrap (IntKind.i32.wrap ((rdUv st).1 : Int) - 1), (rdUv st).2)
section
variable {P : Program} {E : Env} {a : Act} {w : World} {r : List Oper} {Q : Exit → Act → World → Prop}
end
section
variable {P : Program} {E : Env} {rb sb : Nat} {st : RSt} {W : World}
end
end Go.Km
namespace Go.Km
open Go Go.RowKit
attribute [local irreducible] vc rO_ runG runS runD
section
variable {P : Program} {E : Env} {rb sb : Nat} {st : RSt} {W : World}
end
end Go.Km
namespace Go.Km
open Go Go.RowKit
attribute [local irreducible] vc rO_ runG runS runD
section
variable {P : Program} {a : Act} {w : World} {r : List Oper} {Q : Exit → Act → World → Prop}
end
section
variable {P : Program} {E : Env} {rb sb : Nat} {st : RSt} {W : World}
end
end Go.Km
namespace Go.Km
open Go Go.RowKit
def SFs.tags : SFs → List Int
 | .nil => []
 | .cons (.mk _ _ _ _ tag _ _ _) r => tag :: r.tags
mutual
def SF.one : SF → Tr
 | .mk kind _ _ nul _ df _ sub => .mk df [] (decide (nul ≥ 0)) (if kind = 10 then sub.ones else .nil) []
def SFs.ones : SFs → Trs
 | .nil => .nil
 | .cons f r => .cons f.one r.ones
end
def SFs.dflt (fs : SFs) : Tr := .mk 0 [] false fs.ones []
mutual
def Ty.dflt : Ty → D
 | .scal _ df | .named _ _ df => .int df
 | .uuid => .bytes (some (List.replicate 16 0))
 | .text => .bytes (some [])
 | .ntext | .ntextFrom _ => .bytes none
 | .bytes | .nbytes => .bytes none
 | .list _ _ _ | .nstruct _ _ _ _ _ => .list none
 | .struct _ _ _ fs => .obj fs.dflt []
def Flds.dflt : Flds → List D
 | .nil _ => []
 | .cons _ t r => t.dflt :: r.dflt
end
end Go.Km
namespace Go.Km
open Go Go.RowKit
attribute [local irreducible] vc rO_ runG runS runD
section
variable {P : Program} {a : Act} {w : World} {r : List Oper} {Q : Exit → Act → World → Prop}
end
def Scal.rd : Scal → RSt → Int × RSt
 | .bool, st => (if (rdN 1 st).1 != 0 then 1 else 0, (rdN 1 st).2)
 | .i8, st => (sgn 1 (rdN 1 st).1, (rdN 1 st).2)
 | .i16, st => (sgn 2 (rdN 2 st).1, (rdN 2 st).2)
 | .u16, st => ((rdN 2 st).1, (rdN 2 st).2)
 | .i32, st => (sgn 4 (rdN 4 st).1, (rdN 4 st).2)
 | .i64, st => (sgn 8 (rdN 8 st).1, (rdN 8 st).2)
 | .f64, st => ((rdN 8 st).1, (rdN 8 st).2)
def rdMany (f : RSt → D × RSt) : Nat → RSt → List D × RSt
 | 0, st => ([], st)
 | n + 1, st => ((f st).1 :: (rdMany f n (f st).2).1, (rdMany f n (f st).2).2)
def setTag (k : Nat) (v : List UInt8) : List (Nat × List UInt8) → List (Nat × List UInt8)
 | [] => [(k, v)]
 | x :: l => if k < x.1 then (k, v) :: x :: l else if k = x.1 then (k, v) :: l else x :: setTag k v l
def rdTag (st : RSt) : (Nat × List UInt8) × RSt :=
 let p := rdUv st
 let q := rdUv p.2
 let s := rdSpan (q.1 : Int) q.2
 ((p.1, s.1), s.2)
def rdTagsN : Nat → List (Nat × List UInt8) → RSt → List (Nat × List UInt8) × RSt
 | 0, l, st => (l, st)
 | n + 1, l, st => rdTagsN n (setTag (rdTag st).1.1 (rdTag st).1.2 l) (rdTag st).2
def rdTags (st : RSt) : List (Nat × List UInt8) × RSt := rdTagsN (rdUv st).1 [] (rdUv st).2
def rdL (fx : Bool) (st : RSt) : Int × RSt := if fx then rdLc st else rdL2 st
def rdLB (fx : Bool) (st : RSt) : Int × RSt := if fx then rdLc st else rdL4 st
def rdCn (fx : Bool) (st : RSt) : Int × RSt := if fx then rdCc st else rdC4 st
def emptyB (null : Option Nat) (ver : Nat) (n : Int) : Bool :=
 match null with
 | none => false
 | some N => decide (ver < N) || n == 0
mutual
def Ty.rd (fx : Bool) (ver : Nat) : Ty → RSt → D × RSt
 | .scal s _, st | .named s _ _, st => (.int (s.rd st).1, (s.rd st).2)
 | .uuid, st => (.bytes (some (rdSpan 16 st).1), (rdSpan 16 st).2)
 | .text, st => (.bytes (some (rdStr (rdL fx st)).1), (rdStr (rdL fx st)).2)
 | .ntext, st => (.bytes (rdNul (rdL fx st)).1, (rdNul (rdL fx st)).2)
 | .ntextFrom N, st => if ver < N then (.bytes (some (rdStr (rdL fx st)).1), (rdStr (rdL fx st)).2) else (.bytes (rdNul (rdL fx st)).1, (rdNul (rdL fx st)).2)
 | .bytes, st => (.bytes (rdOct (rdLB fx st)).1, (rdOct (rdLB fx st)).2)
 | .nbytes, st => (.bytes (rdNul (rdLB fx st)).1, (rdNul (rdLB fx st)).2)
 | .list _ null e, st =>
  if (rdCn fx st).2.2 then (.list none, (rdCn fx st).2)
  else if (rdCn fx st).1 ≤ 0 then (if emptyB null ver (rdCn fx st).1 then .list (some []) else .list none, (rdCn fx st).2)
  else (.list (some (rdMany (fun s => e.rd fx ver s) (rdCn fx st).1.toNat (rdCn fx st).2).1), (rdMany (fun s => e.rd fx ver s) (rdCn fx st).1.toNat (rdCn fx st).2).2)
 | .struct _ _ _ fs, st => (.obj (fs.rd fx ver st).1 (fs.rd fx ver st).2.1, (fs.rd fx ver st).2.2)
 | .nstruct _ _ _ fs _, st =>
  if (Scal.i8.rd st).1 = -1 ∨ (Scal.i8.rd st).2.2 = true then (.list none, (Scal.i8.rd st).2)
  else (.list (some [.obj (fs.rd fx ver (Scal.i8.rd st).2).1 (fs.rd fx ver (Scal.i8.rd st).2).2.1]), (fs.rd fx ver (Scal.i8.rd st).2).2.2)
def Flds.rd (fx : Bool) (ver : Nat) : Flds → RSt → List D × List (Nat × List UInt8) × RSt
 | .nil _, st => if fx then ([], rdTags st) else ([], [], st)
 | .cons v t r, st =>
  if v.has ver then ((t.rd fx ver st).1 :: (r.rd fx ver (t.rd fx ver st).2).1, (r.rd fx ver (t.rd fx ver st).2).2)
  else (t.dflt :: (r.rd fx ver st).1, (r.rd fx ver st).2)
end
end Go.Km
namespace Go.Km
open Go Go.RowKit
attribute [local irreducible] vc rO_ runG
mutual
def Ty.okD (P : Program) (E : Env) : Ty → Bool
 | .scal k df => df == 0 || oneT P (E.tScal k)
 | .named k T df => df == 0 || oneT P T
 | .struct _ TU _ fs => fs.okD P E TU 0 0
 | _ => true
def Flds.okD (P : Program) (E : Env) (TU : TypeId) (idx off : Nat) : Flds → Bool
 | .nil _ => true
 | .cons _ t r => fieldOff P TU idx == some off && t.okD P E && r.okD P E TU (idx + 1) (off + t.size)
end
mutual
def Ty.over : Ty → List Value → List Value
 | .scal k df, cs => if df = 0 then cs else [k.val df]
 | .named k _ df, cs => if df = 0 then cs else [k.val df]
 | .struct _ _ _ fs, cs => fs.over cs
 | _, cs => cs
def Flds.over : Flds → List Value → List Value
 | .nil _, cs => cs
 | .cons _ t r, cs => t.over (cs.take t.size) ++ r.over (cs.drop t.size)
end
mutual
def Ty.zc : Ty → List Value
 | .scal k _ | .named k _ _ => [k.val 0]
 | .uuid => List.replicate 16 (.int .u8 0)
 | .text => [.string ⟨#[]⟩]
 | .ntext | .ntextFrom _ | .nstruct _ _ _ _ _ => [.pointer none]
 | .bytes | .nbytes => [.slice none 0 0]
 | .list _ _ _ => [.slice none 0 0]
 | .struct _ _ _ fs => fs.zc
def Flds.zc : Flds → List Value
 | .nil t => if t then [.map none] else []
 | .cons _ t r => t.zc ++ r.zc
end
mutual
def Ty.dz : Ty → List Value
 | .scal k df | .named k _ df => [k.val df]
 | .uuid => List.replicate 16 (.int .u8 0)
 | .text => [.string ⟨#[]⟩]
 | .ntext | .ntextFrom _ | .nstruct _ _ _ _ _ => [.pointer none]
 | .bytes | .nbytes => [.slice none 0 0]
 | .list _ _ _ => [.slice none 0 0]
 | .struct _ _ _ fs => fs.dz
def Flds.dz : Flds → List Value
 | .nil t => if t then [.map none] else []
 | .cons _ t r => t.dz ++ r.dz
end
mutual
theorem Ty.zc_len : ∀ t : Ty, t.zc.length = t.size
 | .scal _ _ | .named _ _ _ | .text | .ntext | .ntextFrom _ | .bytes | .nbytes | .list _ _ _ | .nstruct _ _ _ _ _ => by simp [Ty.zc, Ty.size]
 | .uuid => by simp [Ty.zc, Ty.size]
 | .struct _ _ _ fs => by simp [Ty.zc, Ty.size, Flds.zc_len fs]
theorem Flds.zc_len : ∀ t : Flds, t.zc.length = t.size
 | .nil t => by cases t <;> simp [Flds.zc, Flds.size]
 | .cons _ t r => by simp [Flds.zc, Flds.size, Ty.zc_len t, Flds.zc_len r]
end
mutual
theorem Ty.over_len : ∀ (t : Ty) (cs : List Value), cs.length = t.size → (t.over cs).length = t.size
 | .scal _ _, cs, h | .named _ _ _, cs, h => by
  simp only [Ty.over]
  split
  ·exact h
  ·simp [Ty.size]
 | .struct _ _ _ fs, cs, h => by simp only [Ty.over, Ty.size] at *; exact Flds.over_len fs cs h
 | .uuid, cs, h | .text, cs, h | .ntext, cs, h | .ntextFrom _, cs, h | .bytes, cs, h | .nbytes, cs, h | .list _ _ _, cs, h | .nstruct _ _ _ _ _, cs, h => h
theorem Flds.over_len : ∀ (t : Flds) (cs : List Value), cs.length = t.size → (t.over cs).length = t.size
 | .nil t, cs, h => h
 | .cons _ t r, cs, h => by
  simp only [Flds.size] at h
  simp only [Flds.over, Flds.size, List.length_append]
  rw [Ty.over_len t _ (by simp; omega), Flds.over_len r _ (by simp; omega)]
end
mutual
theorem Ty.over_zc : ∀ t : Ty, t.over t.zc = t.dz
 | .scal _ df | .named _ _ df => by
  simp only [Ty.over, Ty.zc, Ty.dz]
  split
  ·rename_i h; rw [h]
  ·rfl
 | .struct _ _ _ fs => by simp only [Ty.over, Ty.zc, Ty.dz, Flds.over_zc fs]
 | .uuid | .text | .ntext | .ntextFrom _ | .bytes | .nbytes | .list _ _ _ | .nstruct _ _ _ _ _ => rfl
theorem Flds.over_zc : ∀ t : Flds, t.over t.zc = t.dz
 | .nil t => rfl
 | .cons _ t r => by
  simp only [Flds.over, Flds.zc, Flds.dz]
  rw [← Ty.zc_len t, List.take_left, List.drop_left, Ty.over_zc t, Flds.over_zc r]
end
theorem Scal.val_one (k : Scal) (n : Int) : (k.val n).oneCell' = true := by cases k <;> rfl
theorem Cells.append {w : World} {b o : Nat} {xs ys : List Value} (h1 : Cells w b o xs) (h2 : Cells w b (o + xs.length) ys) : Cells w b o (xs ++ ys) := by
 intro i v hv
 rcases Nat.lt_or_ge i xs.length with h | h
 ·rw [List.getElem?_append_left h] at hv; exact h1 i v hv
 ·rw [List.getElem?_append_right h] at hv
  have := h2 _ v hv
  rwa [show o + xs.length + (i - xs.length) = o + i by omega] at this
theorem Cells.tk {w : World} {b o n : Nat} {xs : List Value} (h : Cells w b o xs) : Cells w b o (xs.take n) := by
 intro i v hv
 rw [List.getElem?_take] at hv
 split at hv
 ·exact h i v hv
 ·cases hv
theorem Cells.dp {w : World} {b o n : Nat} {xs : List Value} (h : Cells w b o xs) : Cells w b (o + n) (xs.drop n) := by
 intro i v hv
 rw [List.getElem?_drop] at hv
 have := h _ v hv
 rwa [show o + (n + i) = o + n + i by omega] at this
section
variable {P : Program} {E : Env}
def DQ (P : Program) (b o n L : Nat) (cs : List Value) (A : Act) (W : World) (rest : List Code) (Q : Exit → Act → World → Prop) : Prop :=
 ∀ A' W', A'.tmps.size = A.tmps.size → A'.defers = A.defers → (∀ k : Nat, k < n → A'.eval (.tmp k) = A.eval (.tmp k)) → Eff (fun k i => k = b ∧ o ≤ i ∧ i < o + L) W W' → Cells W' b o cs → vc P (sq rest) Q A' W'
theorem d_store {TP TU T : TypeId} {s idx n t b o0 off : Nat} {v : Value} {rest : List Code} {Q : Exit → Act → World → Prop} {A : Act} {W : World}
  (hs : A.eval (.tmp s) = .pointer (some ⟨b, o0, none⟩)) (ho : fieldOff P TU idx = some off) (hT : oneT P T = true) (hv : v.oneCell' = true) (hsn : s < n) (hnt : n ≤ t) (hsz : t + 3 ≤ A.tmps.size) (hf : Free W b (o0 + off))
  (h : DQ P b (o0 + off) n 1 [v] A W rest Q) : vc P (sq (rg [oMove t (.tmp s) TP, oNil (t + 1) (.tmp t), oField (t + 2) TU (.tmp (t + 1)) idx, oStore T (.tmp (t + 2)) (.const v)] :: rest)) Q A W := by
 refine vX (rM ?_)
 refine r_nil (ad := ⟨b, o0, none⟩) (by simp (disch := (try simp only [sP]); omega) only [eV, hs]) ?_
 refine rF (b := b) (o := o0) (by simp (disch := (try simp only [sP]); omega) only [eV]) ho ?_
 refine r_store (b := b) (o := o0 + off) (v := v) (by simp (disch := (try simp only [sP]); omega) only [eV]) rfl hv hT hf ?_
 refine dn ?_
 refine h _ _ (by simp only [zP]) (by simp only [dF]) (fun k hk => (by simp (disch := (try simp only [sP]); omega) only [eV])) ((Eff.refl _ W).setCell _ _ _ (fun _ => ⟨rfl, Nat.le_refl _, by omega⟩)) ?_
 intro i u hu
 cases i with
 | zero =>
  simp only [List.getElem?_cons_zero, Option.some.injEq] at hu
  subst hu
  exact cell_setCell_same v hf.1
 | succ i => simp at hu
mutual
theorem Ty.dc_ok : ∀ (ty : Ty) {TP TU : TypeId} {s idx n t b o0 off : Nat} {cs : List Value} {rest : List Code} {Q : Exit → Act → World → Prop} {A : Act} {W : World},
  ty.okD P E = true → fieldOff P TU idx = some off → A.eval (.tmp s) = .pointer (some ⟨b, o0, none⟩) → s < n → n + ty.dn ≤ t → t + ty.dt ≤ A.tmps.size → cs.length = ty.size → Cells W b (o0 + off) cs → (∀ i, i < ty.size → Free W b (o0 + off + i)) →
  DQ P b (o0 + off) n ty.size (ty.over cs) A W rest Q → vc P (sq (ty.dc E TP TU s idx n t ++ rest)) Q A W
 | .scal k df, TP, TU, s, idx, n, t, b, o0, off, cs, rest, Q, A, W, hok, ho, hs, hsn, hnt, hsz, hl, hc, hf, h => by
  simp only [Ty.dc, Ty.over, Ty.dt, Ty.dn, Ty.okD] at *
  split at h
  ·rename_i h0
   rw [if_pos h0]
   exact h A W rfl rfl (fun _ _ => rfl) (Eff.refl _ W) hc
  ·rename_i h0
   rw [if_neg h0] at hsz ⊢
   simp only [Bool.or_eq_true, beq_iff_eq, h0, false_or] at hok
   exact d_store hs ho hok (k.val_one df) hsn (by omega) hsz (hf 0 (by simp [Ty.size])) h
 | .named k T df, TP, TU, s, idx, n, t, b, o0, off, cs, rest, Q, A, W, hok, ho, hs, hsn, hnt, hsz, hl, hc, hf, h => by
  simp only [Ty.dc, Ty.over, Ty.dt, Ty.dn, Ty.okD] at *
  split at h
  ·rename_i h0
   rw [if_pos h0]
   exact h A W rfl rfl (fun _ _ => rfl) (Eff.refl _ W) hc
  ·rename_i h0
   rw [if_neg h0] at hsz ⊢
   simp only [Bool.or_eq_true, beq_iff_eq, h0, false_or] at hok
   exact d_store hs ho hok (k.val_one df) hsn (by omega) hsz (hf 0 (by simp [Ty.size])) h
 | .struct TP' TU' FD fs, TP, TU, s, idx, n, t, b, o0, off, cs, rest, Q, A, W, hok, ho, hs, hsn, hnt, hsz, hl, hc, hf, h => by
  simp only [Ty.dc, Ty.over, Ty.dt, Ty.dn, Ty.okD, Ty.size] at *
  refine vc_sq_flat ?_
  simp only [List.cons_append, List.nil_append]
  refine vX (rM ?_)
  refine r_nil (ad := ⟨b, o0, none⟩) (by simp (disch := (try simp only [sP]); omega) only [eV, hs]) ?_
  refine rF (b := b) (o := o0) (by simp (disch := (try simp only [sP]); omega) only [eV]) ho ?_
  refine rA (dn (vX (rM (dn ?_))))
  refine Flds.dc_ok fs (b := b) (o0 := o0 + off) (off := 0) (cs := cs) hok (by simp (disch := (try simp only [sP]); omega) only [eV]) (by omega) (by omega) (by simp only [zP]; omega) hl (by rw [Nat.add_zero]; exact hc) (by rw [Nat.add_zero]; exact hf) ?_
  rw [Nat.add_zero]
  intro A' W' a1 a2 a3 a4 a5
  refine h A' W' (by rw [a1]; simp only [zP]) (by rw [a2]; simp only [dF]) (fun k hk => ?_) a4 a5
  rw [a3 k (by omega)]
  simp (disch := (try simp only [sP]); omega) only [eV]
 | .nstruct _ _ _ _ PP, TP, TU, s, idx, n, t, b, o0, off, cs, rest, Q, A, W, hok, ho, hs, hsn, hnt, hsz, hl, hc, hf, h => by
  simp only [Ty.dc, Ty.over, Ty.dt, Ty.dn, Ty.okD, Ty.size] at *
  refine vc_sq_flat ?_
  simp only [List.cons_append, List.nil_append]
  refine vX (rM ?_)
  refine r_nil (ad := ⟨b, o0, none⟩) (by simp (disch := (try simp only [sP]); omega) only [eV, hs]) ?_
  refine rF (b := b) (o := o0) (by simp (disch := (try simp only [sP]); omega) only [eV]) ho ?_
  refine rA (dn (vX (rM (dn ?_))))
  exact h _ W (by simp only [zP]) (by simp only [dF]) (fun k hk => (by simp (disch := (try simp only [sP]); omega) only [eV])) (Eff.refl _ W) hc
 | .uuid, TP, TU, s, idx, n, t, b, o0, off, cs, rest, Q, A, W, hok, ho, hs, hsn, hnt, hsz, hl, hc, hf, h
 | .text, TP, TU, s, idx, n, t, b, o0, off, cs, rest, Q, A, W, hok, ho, hs, hsn, hnt, hsz, hl, hc, hf, h
 | .ntext, TP, TU, s, idx, n, t, b, o0, off, cs, rest, Q, A, W, hok, ho, hs, hsn, hnt, hsz, hl, hc, hf, h
 | .ntextFrom _, TP, TU, s, idx, n, t, b, o0, off, cs, rest, Q, A, W, hok, ho, hs, hsn, hnt, hsz, hl, hc, hf, h
 | .bytes, TP, TU, s, idx, n, t, b, o0, off, cs, rest, Q, A, W, hok, ho, hs, hsn, hnt, hsz, hl, hc, hf, h
 | .nbytes, TP, TU, s, idx, n, t, b, o0, off, cs, rest, Q, A, W, hok, ho, hs, hsn, hnt, hsz, hl, hc, hf, h
 | .list _ _ _, TP, TU, s, idx, n, t, b, o0, off, cs, rest, Q, A, W, hok, ho, hs, hsn, hnt, hsz, hl, hc, hf, h => h A W rfl rfl (fun _ _ => rfl) (Eff.refl _ W) hc
theorem Flds.dc_ok : ∀ (fs : Flds) {TP TU : TypeId} {s idx n t b o0 off : Nat} {cs : List Value} {rest : List Code} {Q : Exit → Act → World → Prop} {A : Act} {W : World},
  fs.okD P E TU idx off = true → A.eval (.tmp s) = .pointer (some ⟨b, o0, none⟩) → s < n → n + fs.dn ≤ t → t + fs.dt ≤ A.tmps.size → cs.length = fs.size → Cells W b (o0 + off) cs → (∀ i, i < fs.size → Free W b (o0 + off + i)) →
  DQ P b (o0 + off) n fs.size (fs.over cs) A W rest Q → vc P (sq (fs.dc E TP TU s idx n t ++ rest)) Q A W
 | .nil tg, TP, TU, s, idx, n, t, b, o0, off, cs, rest, Q, A, W, hok, hs, hsn, hnt, hsz, hl, hc, hf, h => h A W rfl rfl (fun _ _ => rfl) (Eff.refl _ W) hc
 | .cons v ty r, TP, TU, s, idx, n, t, b, o0, off, cs, rest, Q, A, W, hok, hs, hsn, hnt, hsz, hl, hc, hf, h => by
  simp only [Flds.okD, Bool.and_eq_true, beq_iff_eq] at hok
  simp only [Flds.dc, Flds.size, Flds.dn, Flds.dt, Flds.over, List.append_assoc] at *
  obtain ⟨⟨h1, h2⟩, h3⟩ := hok
  refine Ty.dc_ok ty (cs := cs.take ty.size) h2 h1 hs hsn (by omega) (by omega) (by simp; omega) hc.tk (fun i hi => hf i (by omega)) ?_
  intro A' W' a1 a2 a3 a4 a5
  have hc2 : Cells W' b (o0 + (off + ty.size)) (cs.drop ty.size) := by
   rw [show o0 + (off + ty.size) = o0 + off + ty.size by omega]
   exact hc.dp.eff a4 (by rintro i hi ⟨_, _, h⟩; omega)
  refine Flds.dc_ok r (cs := cs.drop ty.size) h3 (by rw [a3 s hsn]; exact hs) (by omega) (by omega) (by rw [a1]; omega) (by simp; omega) hc2 (fun i hi => ?_) ?_
  ·have := (hf (ty.size + i) (by omega)).eff a4
   rwa [show o0 + off + (ty.size + i) = o0 + (off + ty.size) + i by omega] at this
  intro A2 W2 b1 b2 b3 b4 b5
  refine h A2 W2 (by rw [b1, a1]) (by rw [b2, a2]) (fun k hk => by rw [b3 k (by omega), a3 k hk]) (a4.mono (fun k i _ ⟨x, y, z⟩ => ⟨x, y, by omega⟩) |>.trans' b4 (fun k i _ ⟨x, y, z⟩ => ⟨x, by omega, by omega⟩)) ?_
  have hol := Ty.over_len ty (cs.take ty.size) (by simp; omega)
  refine (a5.eff b4 (by rintro i hi ⟨_, h, _⟩; omega)).append ?_
  rw [hol]
  rwa [show o0 + (off + ty.size) = o0 + off + ty.size by omega] at b5
end
end
end Go.Km
namespace Go.Km
open Go Go.RowKit
attribute [local irreducible] vc rO_ runG
section
variable {P : Program} {E : Env}
theorem c_dflt {TP TU : TypeId} {idx : Nat} {fs : Flds} {FD : FuncId} {np nt off : Nat} (ht : Text P FD np nt #[] (dcode E TP TU idx fs)) (hnt : 2 + fs.dn + fs.dt ≤ nt) (hok : fs.okD P E TU idx off = true)
  {b o : Nat} {cs : List Value} {W : World} (hl : cs.length = fs.size) (hc : Cells W b (o + off) cs) (hf : ∀ i, i < fs.size → Free W b (o + off + i)) :
  CallsV P FD #[.pointer (some ⟨b, o, none⟩)] W fun v w' => Eff (fun k i => k = b ∧ o + off ≤ i ∧ i < o + off + fs.size) W w' ∧ Cells w' b (o + off) (fs.over cs) := by
 refine CallsV.enter ht (by simp; omega) ?_
 intro a hsz hdf harg
 have e0 := harg 0 (.pointer (some ⟨b, o, none⟩)) (by simp)
 unfold dcode
 have := Flds.dc_ok fs (E := E) (P := P) (TP := TP) (TU := TU) (s := 0) (idx := idx) (n := 2) (t := 2 + fs.dn) (b := b) (o0 := o) (off := off) (cs := cs) (rest := []) (Q := Out P #[] fun v w' => Eff (fun k i => k = b ∧ o + off ≤ i ∧ i < o + off + fs.size) W w' ∧ Cells w' b (o + off) (fs.over cs)) (A := a) (W := W) hok e0 (by omega) (Nat.le_refl _) (by omega) hl hc hf
 rw [List.append_nil] at this
 refine this ?_
 intro A' W' a1 a2 a3 a4 a5
 refine vN ?_
 exact ⟨by rw [a2]; exact hdf, .tuple #[], by simp [results], a4, a5⟩
def c_newPtr (m : Msg) : Code :=
 sq [rg [oAssign 0 (.const (.pointer none)) m.TP], rg [oAlloc 1 m.TU], rg [oCall (some 2) m.FD #[.tmp 1] #[m.TU] 0], rg [oAssign 0 (.tmp 1) m.TP], .ret]
def NewC (P : Program) (f : FuncId) (m : Msg) : Prop := ∀ w, CallsV P f #[] w fun v w' => v = .pointer (some ⟨w.heap.size, 0, none⟩) ∧ Below w.heap.size w w' ∧ w.heap.size < w'.heap.size ∧
 Cells w' w.heap.size 0 (.int .i16 0 :: m.fs.dz) ∧ ∀ i, i < m.fs.size + 1 → Free w' w.heap.size i
theorem c_newPtr_ok {m : Msg} {f : FuncId} {np nt npd ntd : Nat} (ht : Text P f np nt #[.tmp 0] (c_newPtr m)) (hn : 3 ≤ nt) (hd : Text P m.FD npd ntd #[] (dcode E m.TP m.TU 1 m.fs)) (hnd : 2 + m.fs.dn + m.fs.dt ≤ ntd) (hok : m.fs.okD P E m.TU 1 1 = true)
  (hz : (zeroT P m.TU).map (·.cells.toList) = some (.int .i16 0 :: m.fs.zc)) : NewC P f m := by
 intro w
 obtain ⟨z, hz0, hzc⟩ : ∃ z, zeroT P m.TU = some z ∧ z.cells.toList = .int .i16 0 :: m.fs.zc := by
  cases h : zeroT P m.TU with
  | none => rw [h] at hz; cases hz
  | some z => rw [h] at hz; exact ⟨z, rfl, by simpa using hz⟩
 have hzl : z.cells.size = m.fs.size + 1 := by
  have := congrArg List.length hzc
  simpa [Flds.zc_len] using this
 refine CallsV.enter ht (by simp) ?_
 intro a hsz hdf harg
 unfold c_newPtr
 refine vX (rA (dn (vX ?_)))
 refine r_alloc hz0 ?_
 refine dn ?_
 have hb0 : Below w.heap.size w (w.alloc (.cells z.cells m.TU)) := (Below.refl w.heap.size w).alloc (o := .cells _ _) (Nat.le_refl _)
 have hfr : ∀ i, i < m.fs.size + 1 → Free (w.alloc (.cells z.cells m.TU)) w.heap.size i := fun i hi => free_new w _ m.TU (by omega)
 have hcz : Cells (w.alloc (.cells z.cells m.TU)) w.heap.size 0 (.int .i16 0 :: m.fs.zc) := by
  intro i v hv
  rw [Nat.zero_add]
  refine cells_new w _ m.TU ?_
  rw [← hzc] at hv
  simpa using hv
 have hz1 : w.heap.size < (w.alloc (.cells z.cells m.TU)).heap.size := by simp
 generalize w.alloc (.cells z.cells m.TU) = W at *
 generalize w.heap.size = b at *
 refine vX ?_
 refine r_call' (args := #[.pointer (some ⟨b, 0, none⟩)]) ?_ (c_dflt (b := b) (o := 0) (cs := m.fs.zc) hd hnd hok (Flds.zc_len _) (hcz.dp (n := 1)) (fun i hi => by have := hfr (i + 1) (by omega); rwa [show 0 + 1 + i = i + 1 by omega])) ?_
 ·simp only [lM]
  simp (disch := (try simp only [sP]); omega) only [eV]
 rintro v W1 ⟨h1, h2⟩
 refine dn (vX (rA (dn (vS (vT ?_)))))
 refine ⟨by simp only [dF]; exact hdf, .pointer (some ⟨b, 0, none⟩), rO ?_, rfl, hb0.trans (h1.below (by omega) (by rintro k i hk ⟨h, _⟩; omega)), Nat.lt_of_lt_of_le hz1 h1.size, ?_, fun i hi => (hfr i hi).eff h1⟩
 ·simp (disch := (try simp only [sP]); omega) only [eV]
 ·rw [Flds.over_zc] at h2
  have h0 : Cells W1 b 0 [.int .i16 0] := (hcz.tk (n := 1)).eff h1 (by intro i hi ⟨_, h, _⟩; simp at hi; omega)
  exact h0.append h2
end
end Go.Km
namespace Go.Km
open Go Go.RowKit
attribute [local irreducible] vc rO_ runG runS runD
theorem OctRep.eff {M : Nat → Nat → Prop} {w w' : World} {sb : Sb} {B B' : Nat} {v : Value} {l : List UInt8} (he : Eff M w w') (hsb : ∀ i, ¬ M sb.b i) (hM : ∀ k i, B ≤ k → k < w.heap.size → ¬ M k i) (hB : B' ≤ B) (h : OctRep w sb B v l) : OctRep w' sb B' v l := by
 rcases h with h | ⟨c, o, cap, hv, hc, hs, h⟩
 ·exact .inl h
 ·refine .inr ⟨c, o, cap, hv, hc.imp id (fun h => by omega), Nat.lt_of_lt_of_le hs he.size, h.eff he (fun i _ => ?_)⟩
  rcases hc with rfl | hc
  ·exact hsb _
  ·exact hM _ _ hc hs
theorem TagsRep.eff {M : Nat → Nat → Prop} {w w' : World} {sb : Sb} {B B' : Nat} {v : Value} {l : List (Nat × List UInt8)} (he : Eff M w w') (hsb : ∀ i, ¬ M sb.b i) (hM : ∀ k i, B ≤ k → k < w.heap.size → ¬ M k i) (hB : B' ≤ B) (h : TagsRep w sb B v l) : TagsRep w' sb B' v l := by
 obtain ⟨h1, h2, h3⟩ := h
 refine ⟨h1, h2, ?_⟩
 rcases h3 with h3 | ⟨q, es, clock, hv, hq, hs, hm, hb, hn, l', hl, hsz, hel⟩
 ·exact .inl h3
 ·refine .inr ⟨q, es, clock, hv, by omega, Nat.lt_of_lt_of_le hs he.size, ?_, hb, hn, l', hl, hsz, fun i x hx => ?_⟩
  ·rw [he.blockEq hs (fun i => hM _ _ hq hs)]; exact hm
  ·obtain ⟨e, h1, h2, h3⟩ := hel i x hx
   exact ⟨e, h1, h2, h3.eff he hsb hM hB⟩
mutual
theorem Ty.Rep.eff {M : Nat → Nat → Prop} {w w' : World} {sb : Sb} (he : Eff M w w') (hsb : ∀ i, ¬ M sb.b i) : ∀ (t : Ty) (B B' : Nat) (cs : List Value) (d : D), (∀ k i, B ≤ k → k < w.heap.size → ¬ M k i) → B' ≤ B → t.Rep w sb B cs d → t.Rep w' sb B' cs d
 | .scal _ _, B, B', cs, d, hM, hB, h | .named _ _ _, B, B', cs, d, hM, hB, h => by
  cases d with
  | int n => simpa only [Ty.Rep] using h
  | _ => exact absurd h (by simp [Ty.Rep])
 | .uuid, B, B', cs, d, hM, hB, h => by
  cases d with
  | bytes o =>
   cases o with
   | some l => simpa only [Ty.Rep] using h
   | none => exact absurd h (by simp [Ty.Rep])
  | _ => exact absurd h (by simp [Ty.Rep])
 | .text, B, B', cs, d, hM, hB, h => by
  cases d with
  | bytes o =>
   cases o with
   | some l => simpa only [Ty.Rep] using h
   | none => exact absurd h (by simp [Ty.Rep])
  | _ => exact absurd h (by simp [Ty.Rep])
 | .ntext, B, B', cs, d, hM, hB, h | .ntextFrom _, B, B', cs, d, hM, hB, h => by
  cases d with
  | bytes o =>
   cases o with
   | some l =>
    simp only [Ty.Rep] at h ⊢
    obtain ⟨q, h1, h2, h3⟩ := h
    exact ⟨q, h1, by omega, he.cellSome h3 (hM _ _ h2 (lt_of_cell h3))⟩
   | none => simpa only [Ty.Rep] using h
  | _ => exact absurd h (by simp [Ty.Rep])
 | .bytes, B, B', cs, d, hM, hB, h | .nbytes, B, B', cs, d, hM, hB, h => by
  cases d with
  | bytes o =>
   cases o with
   | some l =>
    simp only [Ty.Rep] at h ⊢
    obtain ⟨q, o, cap, h1, h2, h3, h4⟩ := h
    refine ⟨q, o, cap, h1, h2.imp id (fun h => by omega), h3.eff he (fun i _ => ?_), Nat.lt_of_lt_of_le h4 he.size⟩
    rcases h2 with rfl | h2
    ·exact hsb _
    ·exact hM _ _ h2 h4
   | none => simpa only [Ty.Rep] using h
  | _ => exact absurd h (by simp [Ty.Rep])
 | .list _ _ e, B, B', cs, d, hM, hB, h => by
  cases d with
  | list o =>
   cases o with
   | some l =>
    simp only [Ty.Rep] at h ⊢
    obtain ⟨q, cap, h1, h2, h3, h4, h5⟩ := h
    refine ⟨q, cap, h1, by omega, Nat.lt_of_lt_of_le h3 he.size, h4, fun i d hd => ?_⟩
    obtain ⟨c, h6, h7, h8⟩ := h5 i d hd
    exact ⟨c, h6, h7.eff he (fun i _ => hM _ _ h2 h3), Ty.Rep.eff he hsb e (q + 1) (q + 1) c d (fun k i hk => hM k i (by omega)) (Nat.le_refl _) h8⟩
   | none => simpa only [Ty.Rep] using h
  | _ => exact absurd h (by simp [Ty.Rep])
 | .struct _ _ _ fs, B, B', cs, d, hM, hB, h => by
  cases d with
  | obj l tags => simp only [Ty.Rep] at h ⊢; exact Flds.Rep.eff he hsb fs B B' cs l tags hM hB h
  | _ => exact absurd h (by simp [Ty.Rep])
 | .nstruct _ _ _ fs _, B, B', cs, d, hM, hB, h => by
  cases d with
  | list o =>
   rcases o with _ | ⟨_ | ⟨d0, _ | ⟨d1, r⟩⟩⟩
   ·simpa only [Ty.Rep] using h
   ·exact absurd h (by simp [Ty.Rep])
   ·cases d0 with
    | obj l tags =>
     simp only [Ty.Rep] at h ⊢
     obtain ⟨q, c, h1, h2, h3, h4, h5, h6⟩ := h
     exact ⟨q, c, h1, by omega, Nat.lt_of_lt_of_le h3 he.size, h4, h5.eff he (fun i _ => hM _ _ h2 h3), Flds.Rep.eff he hsb fs (q + 1) (q + 1) c l tags (fun k i hk => hM k i (by omega)) (Nat.le_refl _) h6⟩
    | _ => exact absurd h (by simp [Ty.Rep])
   ·exact absurd h (by cases d0 <;> simp [Ty.Rep])
  | _ => exact absurd h (by simp [Ty.Rep])
theorem Flds.Rep.eff {M : Nat → Nat → Prop} {w w' : World} {sb : Sb} (he : Eff M w w') (hsb : ∀ i, ¬ M sb.b i) : ∀ (t : Flds) (B B' : Nat) (cs : List Value) (l : List D) (tags : List (Nat × List UInt8)), (∀ k i, B ≤ k → k < w.heap.size → ¬ M k i) → B' ≤ B → t.Rep w sb B cs l tags → t.Rep w' sb B' cs l tags
 | .nil b, B, B', cs, l, tags, hM, hB, h => by
  cases l with
  | cons _ _ => exact absurd h (by simp [Flds.Rep])
  | nil =>
   simp only [Flds.Rep] at h ⊢
   cases b with
   | false => simpa using h
   | true =>
    simp only [if_true] at h ⊢
    obtain ⟨v, h1, h2⟩ := h
    exact ⟨v, h1, h2.eff he hsb hM hB⟩
 | .cons _ t r, B, B', cs, l, tags, hM, hB, h => by
  cases l with
  | nil => exact absurd h (by simp [Flds.Rep])
  | cons d l =>
   simp only [Flds.Rep] at h ⊢
   exact ⟨Ty.Rep.eff he hsb t B B' _ d hM hB h.1, Flds.Rep.eff he hsb r B B' _ l tags hM hB h.2⟩
end
structure RSta (E : Env) (x : Cx) (ver : Nat) (fx : Bool) (rb sb : Nat) (ev : Value) (a : Act) (w : World) (st : RSt) : Prop where
 rd : RdS w rb sb st
 p7 : a.eval (.tmp 7) = .pointer (some ⟨rb, 0, none⟩)
 us : a.eval (.tmp 2) = .bool false
 ver : a.eval (.tmp x.vs) = .int .i16 (ver : Int)
 fl : ∀ f, x.fl = some f → a.eval (.tmp f) = .bool fx
 err : w.cell? ⟨E.vErr, 0, none⟩ = some ev
 evr : E.vErr ≠ rb
def KR (L n t : Nat) (k : Nat) : Prop := k < n ∨ (L ≤ k ∧ k < t)
theorem KR.mono {L n n' t t' : Nat} (hn : n ≤ n') (ht : t ≤ t') : ∀ k, KR L n t k → KR L n' t' k := fun k h => h.elim (fun h => .inl (by omega)) (fun h => .inr ⟨h.1, by omega⟩)
structure RSl (x : Cx) (L n t : Nat) (fx : Bool) : Prop where
 seven : 7 < n
 vs : x.vs < n
 fl : ∀ f, x.fl = some f → f < n
 no : x.fl = none → fx = false
 nL : n ≤ L
 Lt : L ≤ t
theorem RSl.kt {x : Cx} {L n t : Nat} {fx : Bool} (h : RSl x L n t fx) : ∀ d, t ≤ d → ¬ KR L n t d := by
 rintro d hd h2
 have := h.nL; have := h.Lt
 unfold KR at h2
 omega
section
variable {P : Program} {E : Env} {x : Cx} {ver : Nat} {fx : Bool} {rb sb : Nat} {ev : Value} {a a' : Act} {w w' : World} {st st' : RSt} {L n t : Nat} {Q : Exit → Act → World → Prop}
theorem RSta.fr (h : RSta E x ver fx rb sb ev a w st) (hs : RSl x L n t fx) (hf : Fr (KR L n t) a a') : RSta E x ver fx rb sb ev a' w st :=
 ⟨h.rd, by rw [hf.slot 7 (.inl hs.seven)]; exact h.p7, by rw [hf.slot 2 (.inl (by have := hs.seven; omega))]; exact h.us, by rw [hf.slot _ (.inl hs.vs)]; exact h.ver, fun f hh => by rw [hf.slot _ (.inl (hs.fl f hh))]; exact h.fl f hh, h.err, h.evr⟩
end
end Go.Km
namespace Go.Km
open Go Go.RowKit
attribute [local irreducible] vc rO_ runG runS runD
section
variable {P : Program} {E : Env} {T : List (Nat × List UInt8) → Prop}
end
end Go.Km
namespace Go.Km
open Go Go.RowKit
attribute [local irreducible] vc rO_ runG runS runD
theorem RdS.keep {M : Nat → Nat → Prop} {W W' : World} {rb sb : Nat} {st : RSt} (h : RdS W rb sb st) (he : Eff M W W') (h1 : ∀ i, ¬ M rb i) (h2 : ∀ i, ¬ M sb i) : RdS W' rb sb st := by
 obtain ⟨v, h3, h4⟩ := h.cells
 exact ⟨h.ne, Nat.lt_of_lt_of_le h.lt he.size, ⟨v, h3.eff he (fun i _ => h1 _), h4.heap (he.blockEq h.lt h2)⟩, h.f0.eff he, h.f1.eff he, h.len⟩
theorem RSta.keep {E : Env} {x : Cx} {ver : Nat} {fx : Bool} {rb sb : Nat} {ev : Value} {a a' : Act} {w w' : World} {st : RSt} {L n t : Nat} {M : Nat → Nat → Prop}
  (h : RSta E x ver fx rb sb ev a w st) (hs : RSl x L n t fx) (hf : Fr (KR L n t) a a') (he : Eff M w w') (h1 : ∀ i, ¬ M rb i) (h2 : ∀ i, ¬ M sb i) (h3 : ∀ i, ¬ M E.vErr i) : RSta E x ver fx rb sb ev a' w' st :=
 ⟨h.rd.keep he h1 h2, (h.fr hs hf).p7, (h.fr hs hf).us, (h.fr hs hf).ver, (h.fr hs hf).fl, he.cellSome h.err (h3 _), h.evr⟩
section
variable {P : Program} {E : Env} {T : List (Nat × List UInt8) → Prop}
end
section
variable {P : Program} {E : Env} {a : Act} {w : World} {r : List Oper} {Q : Exit → Act → World → Prop}
end
section
variable {P : Program} {E : Env} {T : List (Nat × List UInt8) → Prop}
end
end Go.Km
namespace Go.Km
open Go Go.RowKit
attribute [local irreducible] vc rO_ runG runS runD
section
variable {P : Program} {E : Env} {T : List (Nat × List UInt8) → Prop} {K : Nat → Prop} {a : Act} {w : World} {Q : Exit → Act → World → Prop}
end
end Go.Km
namespace Go.Km
open Go Go.RowKit
attribute [local irreducible] vc rO_ runG runS runD
section
variable {P : Program} {E : Env} {T : List (Nat × List UInt8) → Prop}
end
end Go.Km
namespace Go.Km
open Go Go.RowKit
attribute [local irreducible] vc rO_ runG runS runD
section
variable {P : Program} {E : Env} {T : List (Nat × List UInt8) → Prop}
end
end Go.Km
namespace Go.Km
open Go Go.RowKit
attribute [local irreducible] vc rO_ runG runS runD
section
variable {P : Program} {E : Env} {T : List (Nat × List UInt8) → Prop}
end
end Go.Km
namespace Go.Km
open Go Go.RowKit
attribute [local irreducible] vc rO_ runG runS runD
section
variable {P : Program} {E : Env} {T : List (Nat × List UInt8) → Prop}
end
end Go.Km
namespace Go.Km
open Go Go.RowKit
attribute [local irreducible] vc rO_ runG runS runD
section
variable {P : Program} {E : Env} {T : List (Nat × List UInt8) → Prop}
end
end Go.Km
namespace Go.Km
open Go Go.RowKit
attribute [local irreducible] vc rO_ runG runS runD
section
variable {P : Program} {E : Env} {T : List (Nat × List UInt8) → Prop}
end
end Go.Km
namespace Go.Km
open Go Go.RowKit
attribute [local irreducible] vc rO_ runG runS runD
def ifaceT (P : Program) (t : TypeId) : Bool :=
 match P.underlying t with
 | some (.interface _) => true
 | _ => false
section
variable {P : Program} {E : Env} {T : List (Nat × List UInt8) → Prop}
theorem RowB.below {w w' : World} {B : Nat} {v : Value} {l : List UInt8} (h : RowB w v l) (hb : Below B w w') (hB : B = w.heap.size := by rfl) : RowB w' v l := by
 rcases h with h | ⟨q, o, cap, hv, hc⟩
 ·exact .inl h
 ·refine .inr ⟨q, o, cap, hv, fun i u hu => ?_⟩
  have h1 := hc i u hu
  rw [hb.cell (p := ⟨q, o + i, none⟩) (show q < B by rw [hB]; exact lt_of_cell h1)]
  exact h1
end
end Go.Km
namespace Go.Km
open Go Go.RowKit
def Ext {α : Type} (g : RSt → α × RSt) : Prop := ∀ l m : List UInt8, (g (l, false)).2.2 = false → g (l ++ m, false) = ((g (l, false)).1, (g (l, false)).2.1 ++ m, false)
theorem Ext.bind {α β : Type} {g : RSt → α × RSt} {f : α → RSt → β × RSt} (hg : Ext g) (hf : ∀ x, Ext (f x)) (hm : ∀ x st, (f x st).2.2 = false → st.2 = false) : Ext fun st => f (g st).1 (g st).2 := by
 intro l m h
 have h : (f (g (l, false)).1 (g (l, false)).2).2.2 = false := h
 have h1 := hm _ _ h
 have e := hg l m h1
 show f (g (l ++ m, false)).1 (g (l ++ m, false)).2 = ((f (g (l, false)).1 (g (l, false)).2).1, (f (g (l, false)).1 (g (l, false)).2).2.1 ++ m, false)
 rw [e]
 have e2 : (g (l, false)).2 = ((g (l, false)).2.1, false) := Prod.ext rfl h1
 rw [e2] at h ⊢
 exact hf _ _ _ h
theorem Ext.map {α β : Type} {g : RSt → α × RSt} (hg : Ext g) (f : α → β) : Ext fun st => (f (g st).1, (g st).2) := by
 intro l m h
 show (f (g (l ++ m, false)).1, (g (l ++ m, false)).2) = _
 rw [hg l m h]
theorem Ext.pure {α : Type} (x : α) : Ext fun st => (x, st) := fun l m h => rfl
end Go.Km
namespace Go.Km
open Go Go.RowKit
mutual
def Ty.pos (fx : Bool) (ver : Nat) : Ty → Bool
 | .struct _ _ _ fs => fs.pos fx ver
 | _ => true
def Flds.pos (fx : Bool) (ver : Nat) : Flds → Bool
 | .nil _ => fx
 | .cons v t r => (v.has ver && t.pos fx ver) || r.pos fx ver
end
end Go.Km
namespace Go.Km
open Go Go.RowKit
end Go.Km
namespace Go.Km
open Go Go.RowKit
attribute [local irreducible] vc rO_ runG runS runD
def BytesIn (P : Program) (E : Env) (W : World) (sv : Value) (l : List UInt8) : Prop :=
 (∃ ad cap, sv = .slice ad l.length cap) ∧ ∀ w', Below W.heap.size W w' → Src P 1 E.tB sv l.length (l.map bv) w'
theorem BytesIn.below {P : Program} {E : Env} {W W' : World} {sv : Value} {l : List UInt8} (h : BytesIn P E W sv l) (hb : Below W.heap.size W W') : BytesIn P E W' sv l :=
 ⟨h.1, fun w' hb' => h.2 w' (hb.trans (hb'.mono hb.size))⟩
section
variable {P : Program} {E : Env}
end
end Go.Km
namespace Go.Km
open Go Go.RowKit
section
variable {P : Program} {E : Env}
end
end Go.Km
namespace Go.Km
open Go Go.RowKit Go.ChangeShapes Go.WideShapes Go.ChangeAt
section
variable {H : Type} {enc : TypeId × Value → H} {P : Program} {E : Env}
end
end Go.Km
namespace Go.Km
open Go Go.RowKit
structure SC where
 tNames : TypeId := 0
 tName : TypeId := 0
 tRes : TypeId := 0
 tEs : TypeId := 0
 tPEs : TypeId := 0
 Qblank : FuncId := 0
 QerrNew : FuncId := 0
 QimplOfTextA : FuncId := 0
 QimplOfTextC : FuncId := 0
 QimplParseA : FuncId := 0
 QimplParseC : FuncId := 0
 QimplStringC : FuncId := 0
 QimplTextC : FuncId := 0
 Qindex : FuncId := 0
 QmarC : FuncId := 0
 QnamesA : FuncId := 0
 QnamesC : FuncId := 0
 Qnormal : FuncId := 0
 QparseA : FuncId := 0
 QparseC : FuncId := 0
 Qparsed : FuncId := 0
 Qplain : FuncId := 0
 QreplaceAll : FuncId := 0
 QspecParsed : FuncId := 0
 QstrC : FuncId := 0
 Qstrnorm : FuncId := 0
 QunmA : FuncId := 0
 QunmC : FuncId := 0
 Qword : FuncId := 0
 TOLOW : FuncId := 0
 TRIMSP : FuncId := 0
def c_blank (E : Env) (C : SC) : Code :=
 (sq [(rg [(oQ 2 (.assign (.const (.bool false))) E.tO)]),
  (rg [(oQ 3 (.move (.tmp 0)) E.tU8),
   (oQ 4 (.binOp .eql E.tU8 (.tmp 3) (.const (.int .u8 32)) E.tU8) E.tO),
   (oQ 5 (.move (.tmp 4)) E.tO),
   ⟨some 6, .move (.tmp 0), E.tU8, "", #[], some (2, false)⟩,
   ⟨some 7, .binOp .geq E.tU8 (.tmp 6) (.const (.int .u8 9)) E.tU8, E.tO, "", #[], some (2, false)⟩,
   ⟨some 8, .move (.tmp 7), E.tO, "", #[], some (2, false)⟩,
   ⟨some 9, .move (.tmp 0), E.tU8, "", #[], some (5, true)⟩,
   ⟨some 10, .binOp .leq E.tU8 (.tmp 9) (.const (.int .u8 13)) E.tU8, E.tO, "", #[], some (5, true)⟩,
   ⟨some 11, .pick (.tmp 8) (.tmp 10) (.const (.bool false)), E.tO, "", #[], some (2, false)⟩,
   (oQ 12 (.pick (.tmp 5) (.const (.bool true)) (.tmp 11)) E.tO),
   (oQ 2 (.assign (.tmp 12)) E.tO)]),
  .ret])
def c_normal (E : Env) (C : SC) : Code :=
  (sq [(rg [(oQ 2 (.assign (.const (.string ⟨#[]⟩))) E.tStr)]),
    (rg [(oQ 3 (.assign (.const (.slice none 0 0))) E.tB)]),
    (sq [(rg [(oQ 4 (.assign (.const (.int .i64 0))) E.tI)]),
      (.block 0 (.loop (sq [(sq [(rg [(oQ 6 (.move (.tmp 4)) E.tI),
                (oQ 7 (.move (.tmp 0)) E.tStr),
                (oQ 8 (.call { callee := .builtin .len, args := #[(.tmp 7)], argTypes := #[E.tStr] }) E.tI),
                (oQ 9 (.binOp .lss E.tI (.tmp 6) (.tmp 8) E.tI) E.tO)]),
              (.cond (.tmp 9)
                .skip
                (.exit 0))]),
            (.block 1 (sq [(rg [(oQ 12 (.move (.tmp 0)) E.tStr),
                  (oQ 13 (.move (.tmp 4)) E.tI),
                  (oQ 14 (.index E.tStr (.tmp 12) (.tmp 13)) E.tU8),
                  (oQ 5 (.assign (.tmp 14)) E.tU8)]),
                (sq [(rg [(oQ 15 (.move (.tmp 5)) E.tU8),
                    (oQ 16 (.binOp .geq E.tU8 (.tmp 15) (.const (.int .u8 65)) E.tU8) E.tO),
                    (oQ 17 (.move (.tmp 16)) E.tO),
                    ⟨some 18, .move (.tmp 5), E.tU8, "", #[], some (2, true)⟩,
                    ⟨some 19, .binOp .leq E.tU8 (.tmp 18) (.const (.int .u8 90)) E.tU8, E.tO, "", #[], some (2, true)⟩,
                    (oQ 20 (.pick (.tmp 17) (.tmp 19) (.const (.bool false))) E.tO)]),
                  (.cond (.tmp 20)
                    (rg [(oQ 21 (.move (.tmp 5)) E.tU8),
                      (oQ 22 (.binOp .add E.tU8 (.tmp 21) (.const (.int .u8 32)) E.tU8) E.tU8),
                      (oQ 5 (.assign (.tmp 22)) E.tU8)])
                    .skip)]),
                (rg [(oQ 23 (.move (.tmp 5)) E.tU8),
                  (oQ 24 (.binOp .neq E.tU8 (.tmp 23) (.const (.int .u8 46)) E.tU8) E.tO),
                  (oQ 25 (.move (.tmp 24)) E.tO),
                  ⟨some 26, .move (.tmp 5), E.tU8, "", #[], some (2, true)⟩,
                  ⟨some 27, .binOp .neq E.tU8 (.tmp 26) (.const (.int .u8 95)) E.tU8, E.tO, "", #[], some (2, true)⟩,
                  (oQ 28 (.pick (.tmp 25) (.tmp 27) (.const (.bool false))) E.tO),
                  (oQ 29 (.move (.tmp 28)) E.tO),
                  ⟨some 30, .move (.tmp 5), E.tU8, "", #[], some (6, true)⟩,
                  ⟨some 31, .binOp .neq E.tU8 (.tmp 30) (.const (.int .u8 45)) E.tU8, E.tO, "", #[], some (6, true)⟩,
                  (oQ 32 (.pick (.tmp 29) (.tmp 31) (.const (.bool false))) E.tO)]),
                (.cond (.tmp 32)
                  (rg [(oQ 33 (.move (.tmp 3)) E.tB),
                    (oQ 34 (.move (.tmp 5)) E.tU8),
                    (oQ 35 (.buildSlice E.tB 1 #[(0, (.tmp 34))]) E.tB),
                    (oQ 36 (.call { callee := .builtin .append, args := #[(.tmp 33), (.tmp 35)], argTypes := #[E.tB, E.tB] }) E.tB),
                    (oQ 3 (.assign (.tmp 36)) E.tB)])
                  .skip)])),
            (rg [(oQ 10 (.move (.tmp 4)) E.tI),
              (oQ 11 (.binOp .add E.tI (.tmp 10) (.const (.int .i64 1)) E.tI) E.tI),
              (oQ 4 (.assign (.tmp 11)) E.tI)])])))]),
    (.block 2 (.loop (sq [(sq [(rg [(oQ 37 (.move (.tmp 3)) E.tB),
              (oQ 38 (.call { callee := .builtin .len, args := #[(.tmp 37)], argTypes := #[E.tB] }) E.tI),
              (oQ 39 (.binOp .gtr E.tI (.tmp 38) (.const (.int .i64 0)) E.tI) E.tO),
              (oQ 40 (.move (.tmp 39)) E.tO),
              ⟨some 41, .move (.tmp 3), E.tB, "", #[], some (3, true)⟩,
              ⟨some 42, .indexAddr E.tB (.tmp 41) (.const (.int .i64 0)), 0, "", #[], some (3, true)⟩,
              ⟨some 43, .load E.tU8 (.tmp 42), E.tU8, "", #[], some (3, true)⟩,
              ⟨some 44, .call { callee := .value (.func C.Qblank), args := #[(.tmp 43)], argTypes := #[E.tU8] }, E.tO, "", #[], some (3, true)⟩,
              (oQ 45 (.pick (.tmp 40) (.tmp 44) (.const (.bool false))) E.tO)]),
            (.cond (.tmp 45)
              .skip
              (.exit 2))]),
          (.block 3 (rg [(oQ 46 (.move (.tmp 3)) E.tB),
              (oQ 47 (.slice E.tB (.tmp 46) (some (.const (.int .i64 1))) none none) E.tB),
              (oQ 3 (.assign (.tmp 47)) E.tB)]))]))),
    (.block 4 (.loop (sq [(sq [(rg [(oQ 48 (.move (.tmp 3)) E.tB),
              (oQ 49 (.call { callee := .builtin .len, args := #[(.tmp 48)], argTypes := #[E.tB] }) E.tI),
              (oQ 50 (.binOp .gtr E.tI (.tmp 49) (.const (.int .i64 0)) E.tI) E.tO),
              (oQ 51 (.move (.tmp 50)) E.tO),
              ⟨some 52, .move (.tmp 3), E.tB, "", #[], some (3, true)⟩,
              ⟨some 53, .move (.tmp 3), E.tB, "", #[], some (3, true)⟩,
              ⟨some 54, .call { callee := .builtin .len, args := #[(.tmp 53)], argTypes := #[E.tB] }, E.tI, "", #[], some (3, true)⟩,
              ⟨some 55, .binOp .sub E.tI (.tmp 54) (.const (.int .i64 1)) E.tI, E.tI, "", #[], some (3, true)⟩,
              ⟨some 56, .indexAddr E.tB (.tmp 52) (.tmp 55), 0, "", #[], some (3, true)⟩,
              ⟨some 57, .load E.tU8 (.tmp 56), E.tU8, "", #[], some (3, true)⟩,
              ⟨some 58, .call { callee := .value (.func C.Qblank), args := #[(.tmp 57)], argTypes := #[E.tU8] }, E.tO, "", #[], some (3, true)⟩,
              (oQ 59 (.pick (.tmp 51) (.tmp 58) (.const (.bool false))) E.tO)]),
            (.cond (.tmp 59)
              .skip
              (.exit 4))]),
          (.block 5 (rg [(oQ 60 (.move (.tmp 3)) E.tB),
              (oQ 61 (.move (.tmp 3)) E.tB),
              (oQ 62 (.call { callee := .builtin .len, args := #[(.tmp 61)], argTypes := #[E.tB] }) E.tI),
              (oQ 63 (.binOp .sub E.tI (.tmp 62) (.const (.int .i64 1)) E.tI) E.tI),
              (oQ 64 (.slice E.tB (.tmp 60) none (some (.tmp 63)) none) E.tB),
              (oQ 3 (.assign (.tmp 64)) E.tB)]))]))),
    (rg [(oQ 65 (.move (.tmp 3)) E.tB),
      (oQ 66 (.convert E.tB E.tStr (.tmp 65)) E.tStr),
      (oQ 2 (.assign (.tmp 66)) E.tStr)]),
    .ret])
def c_index (E : Env) (C : SC) : Code :=
  (sq [(rg [(oQ 4 (.assign (.const (.int .i64 0))) E.tI)]),
    (sq [(rg [(oQ 5 (.assign (.const (.int .i64 0))) E.tI)]),
      (.block 0 (.loop (sq [(sq [(rg [(oQ 6 (.move (.tmp 5)) E.tI),
                (oQ 7 (.move (.tmp 1)) E.tStr),
                (oQ 8 (.call { callee := .builtin .len, args := #[(.tmp 7)], argTypes := #[E.tStr] }) E.tI),
                (oQ 9 (.binOp .add E.tI (.tmp 6) (.tmp 8) E.tI) E.tI),
                (oQ 10 (.move (.tmp 0)) E.tStr),
                (oQ 11 (.call { callee := .builtin .len, args := #[(.tmp 10)], argTypes := #[E.tStr] }) E.tI),
                (oQ 12 (.binOp .leq E.tI (.tmp 9) (.tmp 11) E.tI) E.tO)]),
              (.cond (.tmp 12)
                .skip
                (.exit 0))]),
            (.block 1 (sq [(rg [(oQ 15 (.move (.tmp 0)) E.tStr),
                  (oQ 16 (.move (.tmp 5)) E.tI),
                  (oQ 17 (.move (.tmp 5)) E.tI),
                  (oQ 18 (.move (.tmp 1)) E.tStr),
                  (oQ 19 (.call { callee := .builtin .len, args := #[(.tmp 18)], argTypes := #[E.tStr] }) E.tI),
                  (oQ 20 (.binOp .add E.tI (.tmp 17) (.tmp 19) E.tI) E.tI),
                  (oQ 21 (.slice E.tStr (.tmp 15) (some (.tmp 16)) (some (.tmp 20)) none) E.tStr),
                  (oQ 22 (.move (.tmp 1)) E.tStr),
                  (oQ 23 (.binOp .eql E.tStr (.tmp 21) (.tmp 22) E.tStr) E.tO)]),
                (.cond (.tmp 23)
                  (sq [(rg [(oQ 24 (.move (.tmp 5)) E.tI),
                      (oQ 4 (.assign (.tmp 24)) E.tI)]),
                    .ret])
                  .skip)])),
            (rg [(oQ 13 (.move (.tmp 5)) E.tI),
              (oQ 14 (.binOp .add E.tI (.tmp 13) (.const (.int .i64 1)) E.tI) E.tI),
              (oQ 5 (.assign (.tmp 14)) E.tI)])])))]),
    (rg [(oQ 4 (.assign (.const (.int .i64 (-1)))) E.tI)]),
    .ret])
def c_replaceAll (E : Env) (C : SC) : Code :=
  (sq [(rg [(oQ 6 (.assign (.const (.string ⟨#[]⟩))) E.tStr)]),
    (rg [(oQ 7 (.assign (.const (.slice none 0 0))) E.tB)]),
    (sq [(rg [(oQ 11 (.move (.tmp 1)) E.tStr),
        (oQ 12 (.call { callee := .builtin .len, args := #[(.tmp 11)], argTypes := #[E.tStr] }) E.tI),
        (oQ 13 (.binOp .eql E.tI (.tmp 12) (.const (.int .i64 0)) E.tI) E.tO)]),
      (.cond (.tmp 13)
        (sq [(rg [(oQ 14 (.move (.tmp 7)) E.tB),
            (oQ 15 (.move (.tmp 2)) E.tStr),
            (oQ 16 (.call { callee := .builtin .append, args := #[(.tmp 14), (.tmp 15)], argTypes := #[E.tB, E.tStr] }) E.tB),
            (oQ 7 (.assign (.tmp 16)) E.tB)]),
          (rg [(oQ 8 (.assign (.const (.int .i64 0))) E.tI)]),
          (sq [(rg [(oQ 17 (.move (.tmp 0)) E.tStr),
              (oQ 18 (.range E.tStr (.tmp 17)) 0)]),
            (.block 0 (.loop (sq [(rg [(oQ 19 (.next (.tmp 18) true) 0),
                    (oQ 20 (.extract (.tmp 19) 0) E.tO)]),
                  (.cond (.tmp 20)
                    .skip
                    (.exit 0)),
                  (.block 1 (sq [(rg [(oQ 21 (.extract (.tmp 19) 1) E.tI),
                        (oQ 9 (.assign (.tmp 21)) E.tI)]),
                      (rg [(oQ 22 (.move (.tmp 9)) E.tI),
                        (oQ 23 (.binOp .gtr E.tI (.tmp 22) (.const (.int .i64 0)) E.tI) E.tO)]),
                      (.cond (.tmp 23)
                        (sq [(rg [(oQ 24 (.move (.tmp 7)) E.tB),
                            (oQ 25 (.move (.tmp 0)) E.tStr),
                            (oQ 26 (.move (.tmp 8)) E.tI),
                            (oQ 27 (.move (.tmp 9)) E.tI),
                            (oQ 28 (.slice E.tStr (.tmp 25) (some (.tmp 26)) (some (.tmp 27)) none) E.tStr),
                            (oQ 29 (.call { callee := .builtin .append, args := #[(.tmp 24), (.tmp 28)], argTypes := #[E.tB, E.tStr] }) E.tB),
                            (oQ 30 (.move (.tmp 2)) E.tStr),
                            (oQ 31 (.call { callee := .builtin .append, args := #[(.tmp 29), (.tmp 30)], argTypes := #[E.tB, E.tStr] }) E.tB),
                            (oQ 7 (.assign (.tmp 31)) E.tB)]),
                          (rg [(oQ 32 (.move (.tmp 9)) E.tI),
                            (oQ 8 (.assign (.tmp 32)) E.tI)])])
                        .skip)]))])))]),
          (sq [(rg [(oQ 33 (.move (.tmp 0)) E.tStr),
              (oQ 34 (.call { callee := .builtin .len, args := #[(.tmp 33)], argTypes := #[E.tStr] }) E.tI),
              (oQ 35 (.binOp .gtr E.tI (.tmp 34) (.const (.int .i64 0)) E.tI) E.tO)]),
            (.cond (.tmp 35)
              (rg [(oQ 36 (.move (.tmp 7)) E.tB),
                (oQ 37 (.move (.tmp 0)) E.tStr),
                (oQ 38 (.move (.tmp 8)) E.tI),
                (oQ 39 (.slice E.tStr (.tmp 37) (some (.tmp 38)) none none) E.tStr),
                (oQ 40 (.call { callee := .builtin .append, args := #[(.tmp 36), (.tmp 39)], argTypes := #[E.tB, E.tStr] }) E.tB),
                (oQ 41 (.move (.tmp 2)) E.tStr),
                (oQ 42 (.call { callee := .builtin .append, args := #[(.tmp 40), (.tmp 41)], argTypes := #[E.tB, E.tStr] }) E.tB),
                (oQ 7 (.assign (.tmp 42)) E.tB)])
              .skip)]),
          (rg [(oQ 43 (.move (.tmp 7)) E.tB),
            (oQ 44 (.convert E.tB E.tStr (.tmp 43)) E.tStr),
            (oQ 6 (.assign (.tmp 44)) E.tStr)]),
          .ret])
        .skip)]),
    (.block 2 (.loop (.block 3 (sq [(rg [(oQ 45 (.move (.tmp 0)) E.tStr),
              (oQ 46 (.move (.tmp 1)) E.tStr),
              (oQ 47 (.call { callee := .value (.func C.Qindex), args := #[(.tmp 45), (.tmp 46)], argTypes := #[E.tStr, E.tStr] }) E.tI),
              (oQ 10 (.assign (.tmp 47)) E.tI)]),
            (sq [(rg [(oQ 48 (.move (.tmp 10)) E.tI),
                (oQ 49 (.binOp .lss E.tI (.tmp 48) (.const (.int .i64 0)) E.tI) E.tO)]),
              (.cond (.tmp 49)
                (sq [(rg [(oQ 50 (.move (.tmp 7)) E.tB),
                    (oQ 51 (.move (.tmp 0)) E.tStr),
                    (oQ 52 (.call { callee := .builtin .append, args := #[(.tmp 50), (.tmp 51)], argTypes := #[E.tB, E.tStr] }) E.tB),
                    (oQ 53 (.convert E.tB E.tStr (.tmp 52)) E.tStr),
                    (oQ 6 (.assign (.tmp 53)) E.tStr)]),
                  .ret])
                .skip)]),
            (rg [(oQ 54 (.move (.tmp 7)) E.tB),
              (oQ 55 (.move (.tmp 0)) E.tStr),
              (oQ 56 (.move (.tmp 10)) E.tI),
              (oQ 57 (.slice E.tStr (.tmp 55) none (some (.tmp 56)) none) E.tStr),
              (oQ 58 (.call { callee := .builtin .append, args := #[(.tmp 54), (.tmp 57)], argTypes := #[E.tB, E.tStr] }) E.tB),
              (oQ 59 (.move (.tmp 2)) E.tStr),
              (oQ 60 (.call { callee := .builtin .append, args := #[(.tmp 58), (.tmp 59)], argTypes := #[E.tB, E.tStr] }) E.tB),
              (oQ 7 (.assign (.tmp 60)) E.tB)]),
            (rg [(oQ 61 (.move (.tmp 0)) E.tStr),
              (oQ 62 (.move (.tmp 10)) E.tI),
              (oQ 63 (.move (.tmp 1)) E.tStr),
              (oQ 64 (.call { callee := .builtin .len, args := #[(.tmp 63)], argTypes := #[E.tStr] }) E.tI),
              (oQ 65 (.binOp .add E.tI (.tmp 62) (.tmp 64) E.tI) E.tI),
              (oQ 66 (.slice E.tStr (.tmp 61) (some (.tmp 65)) none none) E.tStr),
              (oQ 0 (.assign (.tmp 66)) E.tStr)])]))))])
def c_strnorm (E : Env) (C : SC) : Code :=
 (sq [(rg [(oQ 2 (.assign (.const (.string ⟨#[]⟩))) E.tStr)]),
  (rg [(oQ 3 (.move (.tmp 0)) E.tStr),
   (oQ 4 (.call { callee := .value (.func C.QreplaceAll), args := #[(.tmp 3), (.const (.string ⟨#[46]⟩)), (.const (.string ⟨#[]⟩))], argTypes := #[E.tStr, E.tStr, E.tStr] }) E.tStr),
   (oQ 0 (.assign (.tmp 4)) E.tStr)]),
  (rg [(oQ 5 (.move (.tmp 0)) E.tStr),
   (oQ 6 (.call { callee := .value (.func C.QreplaceAll), args := #[(.tmp 5), (.const (.string ⟨#[95]⟩)), (.const (.string ⟨#[]⟩))], argTypes := #[E.tStr, E.tStr, E.tStr] }) E.tStr),
   (oQ 0 (.assign (.tmp 6)) E.tStr)]),
  (rg [(oQ 7 (.move (.tmp 0)) E.tStr),
   (oQ 8 (.call { callee := .value (.func C.QreplaceAll), args := #[(.tmp 7), (.const (.string ⟨#[45]⟩)), (.const (.string ⟨#[]⟩))], argTypes := #[E.tStr, E.tStr, E.tStr] }) E.tStr),
   (oQ 0 (.assign (.tmp 8)) E.tStr)]),
  (rg [(oQ 9 (.move (.tmp 0)) E.tStr),
   (oQ 10 (.call { callee := .value (.func C.TRIMSP), args := #[(.tmp 9)], argTypes := #[E.tStr] }) E.tStr),
   (oQ 0 (.assign (.tmp 10)) E.tStr)]),
  (rg [(oQ 11 (.move (.tmp 0)) E.tStr),
   (oQ 12 (.call { callee := .value (.func C.TOLOW), args := #[(.tmp 11)], argTypes := #[E.tStr] }) E.tStr),
   (oQ 0 (.assign (.tmp 12)) E.tStr)]),
  (rg [(oQ 13 (.move (.tmp 0)) E.tStr),
   (oQ 2 (.assign (.tmp 13)) E.tStr)]),
  .ret])
def c_errNew (E : Env) (C : SC) : Code :=
 (sq [(rg [(oQ 2 (.assign (.const .nilIface)) E.tErr)]),
  (rg [(oQ 3 (.move (.tmp 0)) E.tStr),
   (oQ 4 (.build C.tEs #[(0, (.tmp 3))]) C.tEs),
   (oQ 5 (.box C.tEs (.tmp 4)) C.tPEs),
   (oQ 6 (.makeInterface C.tPEs (.tmp 5)) E.tErr),
   (oQ 2 (.assign (.tmp 6)) E.tErr)]),
  .ret])
def c_specParsed (E : Env) (C : SC) : Code :=
 (sq [(rg [(oQ 4 (.assign (.const (.int .i64 0))) E.tI),
   (oQ 5 (.assign (.const (.bool false))) E.tO)]),
  (sq [(rg [(oQ 8 (.move (.tmp 0)) C.tNames),
    (oQ 9 (.call { callee := .builtin .len, args := #[(.tmp 8)], argTypes := #[C.tNames] }) E.tI),
    (oQ 10 (.move (.const (.int .i64 0))) E.tI)]),
   (.block 0 (.loop (sq [(rg [(oQ 11 (.binOp .lss E.tI (.tmp 10) (.tmp 9) E.tI) 0)]),
      (.cond (.tmp 11)
       .skip
       (.exit 0)),
      (.block 1 (sq [(rg [(oQ 12 (.indexAddr C.tNames (.tmp 8) (.tmp 10)) 0),
         (oQ 13 (.load C.tName (.tmp 12)) C.tName),
         (oQ 7 (.alloc C.tName) 0),
         ⟨none, .store C.tName (.tmp 7) (.tmp 13), 0, "", #[], none⟩]),
        (rg [(oQ 14 (.fieldAddr C.tName (.tmp 7) 1) 0),
         (oQ 15 (.load E.tStr (.tmp 14)) E.tStr),
         (oQ 16 (.call { callee := .value (.func C.Qnormal), args := #[(.tmp 15)], argTypes := #[E.tStr] }) E.tStr),
         (oQ 17 (.move (.tmp 1)) E.tStr),
         (oQ 18 (.call { callee := .value (.func C.Qnormal), args := #[(.tmp 17)], argTypes := #[E.tStr] }) E.tStr),
         (oQ 19 (.binOp .eql E.tStr (.tmp 16) (.tmp 18) E.tStr) E.tO)]),
        (.cond (.tmp 19)
         (sq [(rg [(oQ 20 (.fieldAddr C.tName (.tmp 7) 0) 0),
           (oQ 21 (.load E.tI (.tmp 20)) E.tI),
           (oQ 4 (.assign (.tmp 21)) E.tI),
           (oQ 5 (.assign (.const (.bool true))) E.tO)]),
          .ret])
         .skip)])),
      (rg [(oQ 22 (.binOp .add E.tI (.tmp 10) (.const (.int .i64 1)) E.tI) E.tI),
       (oQ 10 (.move (.tmp 22)) E.tI)])])))]),
  (rg [(oQ 4 (.assign (.const (.int .i64 0))) E.tI),
   (oQ 5 (.assign (.const (.bool false))) E.tO)]),
  .ret])
def c_parsed (E : Env) (C : SC) : Code :=
 (sq [(rg [(oQ 8 (.assign (.const (.bool false))) E.tO)]),
  (rg [(oQ 12 (.move (.tmp 0)) C.tNames),
   (oQ 13 (.move (.tmp 1)) E.tStr),
   (oQ 14 (.call { callee := .value (.func C.QspecParsed), args := #[(.tmp 12), (.tmp 13)], argTypes := #[C.tNames, E.tStr] }) C.tRes),
   (oQ 11 (.move (.tmp 14)) C.tRes),
   (oQ 15 (.extract (.tmp 11) 0) E.tI),
   (oQ 16 (.extract (.tmp 11) 1) E.tO),
   (oQ 9 (.assign (.tmp 15)) E.tI),
   (oQ 10 (.assign (.tmp 16)) E.tO)]),
  (rg [(oQ 17 (.move (.tmp 3)) E.tO),
   (oQ 18 (.move (.tmp 10)) E.tO),
   (oQ 19 (.binOp .eql E.tO (.tmp 17) (.tmp 18) E.tO) E.tO),
   (oQ 20 (.move (.tmp 19)) E.tO),
   ⟨some 21, .move (.tmp 3), E.tO, "", #[], some (3, true)⟩,
   ⟨some 22, .unOp .not E.tO (.tmp 21), E.tO, "", #[], some (3, true)⟩,
   ⟨some 23, .move (.tmp 22), E.tO, "", #[], some (3, true)⟩,
   ⟨some 24, .move (.tmp 2), E.tI, "", #[], some (6, false)⟩,
   ⟨some 25, .move (.tmp 9), E.tI, "", #[], some (6, false)⟩,
   ⟨some 26, .binOp .eql E.tI (.tmp 24) (.tmp 25) E.tI, E.tO, "", #[], some (6, false)⟩,
   ⟨some 27, .pick (.tmp 23) (.const (.bool true)) (.tmp 26), E.tO, "", #[], some (3, true)⟩,
   (oQ 28 (.pick (.tmp 20) (.tmp 27) (.const (.bool false))) E.tO),
   (oQ 8 (.assign (.tmp 28)) E.tO)]),
  .ret])
def c_plain (E : Env) (C : SC) : Code :=
  (sq [(rg [(oQ 2 (.assign (.const (.bool false))) E.tO)]),
    (sq [(rg [(oQ 4 (.move (.tmp 0)) E.tStr),
        (oQ 5 (.call { callee := .builtin .len, args := #[(.tmp 4)], argTypes := #[E.tStr] }) E.tI),
        (oQ 6 (.binOp .gtr E.tI (.tmp 5) (.const (.int .i64 200)) E.tI) E.tO),
        (oQ 7 (.move (.tmp 6)) E.tO),
        ⟨some 8, .move (.tmp 0), E.tStr, "", #[], some (3, false)⟩,
        ⟨some 9, .call { callee := .value (.func C.Qnormal), args := #[(.tmp 8)], argTypes := #[E.tStr] }, E.tStr, "", #[], some (3, false)⟩,
        ⟨some 10, .binOp .eql E.tStr (.tmp 9) (.const (.string ⟨#[117, 110, 107, 110, 111, 119, 110]⟩)) E.tStr, E.tO, "", #[], some (3, false)⟩,
        (oQ 11 (.pick (.tmp 7) (.const (.bool true)) (.tmp 10)) E.tO)]),
      (.cond (.tmp 11)
        (sq [(rg [(oQ 2 (.assign (.const (.bool false))) E.tO)]),
          .ret])
        .skip)]),
    (sq [(rg [(oQ 3 (.assign (.const (.int .i64 0))) E.tI)]),
      (.block 0 (.loop (sq [(sq [(rg [(oQ 12 (.move (.tmp 3)) E.tI),
                (oQ 13 (.move (.tmp 0)) E.tStr),
                (oQ 14 (.call { callee := .builtin .len, args := #[(.tmp 13)], argTypes := #[E.tStr] }) E.tI),
                (oQ 15 (.binOp .lss E.tI (.tmp 12) (.tmp 14) E.tI) E.tO)]),
              (.cond (.tmp 15)
                .skip
                (.exit 0))]),
            (.block 1 (sq [(rg [(oQ 18 (.move (.tmp 0)) E.tStr),
                  (oQ 19 (.move (.tmp 3)) E.tI),
                  (oQ 20 (.index E.tStr (.tmp 18) (.tmp 19)) E.tU8),
                  (oQ 21 (.binOp .gtr E.tU8 (.tmp 20) (.const (.int .u8 127)) E.tU8) E.tO)]),
                (.cond (.tmp 21)
                  (sq [(rg [(oQ 2 (.assign (.const (.bool false))) E.tO)]),
                    .ret])
                  .skip)])),
            (rg [(oQ 16 (.move (.tmp 3)) E.tI),
              (oQ 17 (.binOp .add E.tI (.tmp 16) (.const (.int .i64 1)) E.tI) E.tI),
              (oQ 3 (.assign (.tmp 17)) E.tI)])])))]),
    (rg [(oQ 2 (.assign (.const (.bool true))) E.tO)]),
    .ret])
attribute [local irreducible] vc rO_ runG runS runD
section
variable {P : Program} {a : Act} {w : World} {r : List Oper} {Q : Exit → Act → World → Prop}
end
end Go.Km
namespace Go.Km
open Go Go.RowKit
attribute [local irreducible] vc rO_ runG runS runD
def keepB (b : UInt8) : Bool := b != 46 && b != 95 && b != 45
def normalL (l : List UInt8) : List UInt8 := Lib.trimSpace ((l.map Lib.lowerB).filter keepB)
structure YT (P : Program) (E : Env) (C : SC) : Prop where
 row : rowB P E.tB E.tU8 1 = true
 str : P.underlying E.tStr = some .string
 strB : strB P E.tStr = true
 u8 : intT P E.tU8 = some .u8
 oU8 : oneT P E.tU8 = true
 tblank : Text P C.Qblank 1 13 #[.tmp 2] (c_blank E C)
 tnormal : Text P C.Qnormal 1 67 #[.tmp 2] (c_normal E C)
 tindex : Text P C.Qindex 2 25 #[.tmp 4] (c_index E C)
 treplace : Text P C.QreplaceAll 3 67 #[.tmp 6] (c_replaceAll E C)
 tstrnorm : Text P C.Qstrnorm 1 14 #[.tmp 2] (c_strnorm E C)
section
variable {P : Program} {E : Env} {C : SC}
end
end Go.Km
namespace Go.Km
open Go Go.RowKit
attribute [local irreducible] vc rO_ runG runS runD
def RowC (w : World) (v : Value) (l : List UInt8) : Prop :=
 ∃ ad cap, v = .slice ad l.length cap ∧ l.length ≤ cap ∧ ((ad = none ∧ cap = 0 ∧ l = []) ∨ ∃ q o, ad = some ⟨q, o, none⟩ ∧ Cells w q o (l.map bv))
theorem RowC.row {w : World} {v : Value} {l : List UInt8} (h : RowC w v l) : RowB w v l := by
 obtain ⟨ad, cap, rfl, hcap, ⟨rfl, rfl, rfl⟩ | ⟨q, o, rfl, hc⟩⟩ := h
 ·exact .inl ⟨rfl, rfl⟩
 ·exact .inr ⟨q, o, cap, rfl, hc⟩
section
variable {P : Program} {E : Env} {C : SC}
end
end Go.Km
namespace Go.Km
open Go Go.RowKit
attribute [local irreducible] vc rO_ runG runS runD
structure YT2 (P : Program) (E : Env) (C : SC) : Prop extends YT P E C where
 int : intT P E.tI = some .i64
 tplain : Text P C.Qplain 1 22 #[.tmp 2] (c_plain E C)
structure ShelfY (P : Program) (C : SC) (Tab : World → Prop) : Prop where
 keep : ∀ W W' : World, Tab W → Below W.heap.size W W' → Tab W'
 trim : ∀ (l : List UInt8) (W : World), l.length ≤ 1000000 → (∀ b ∈ l, b.toNat < 128) → Tab W → CallsV P C.TRIMSP #[.string ⟨l.toArray⟩] W fun v w' => v = .string ⟨(Lib.trimSpace l).toArray⟩ ∧ Below W.heap.size W w'
 lower : ∀ (l : List UInt8) (W : World), l.length ≤ 1000000 → (∀ b ∈ l, b.toNat < 128) → CallsV P C.TOLOW #[.string ⟨l.toArray⟩] W fun v w' => v = .string ⟨(Lib.toLowerA l).toArray⟩ ∧ Below W.heap.size W w'
section
variable {P : Program} {E : Env} {C : SC} {Tab : World → Prop}
end
end Go.Km
namespace Go.Km
open Go Go.RowKit
structure KC where
 t : TypeId := 0
 tup : TypeId := 0
 tp : TypeId := 0
 k : IntKind := .i8
 nm : List (Int × List UInt8) := []
 keys : List (Int × List UInt8) := []
 msg : List UInt8 := []
 Qnames : FuncId := 0
 Qparse : FuncId := 0
 Qunm : FuncId := 0
 QimplParse : FuncId := 0
 QimplOfText : FuncId := 0
def nmBuild (C : SC) (p : (Int × List UInt8) × Nat) : Oper := ⟨some p.2, .build C.tName #[(0, (.const (.int .i64 p.1.1))), (1, (.const (.string ⟨p.1.2.toArray⟩)))], C.tName, "", #[], none⟩
def c_namesG (E : Env) (C : SC) (K : KC) : Code :=
 sq [rg [(oQ 0 (.assign (.const (.slice none 0 0))) C.tNames)],
  rg ((K.nm.zipIdx 1).map (nmBuild C) ++ [(oQ (K.nm.length + 1) (.buildSlice C.tNames K.nm.length ((List.range K.nm.length).map fun i => (i, Operand.tmp (i + 1))).toArray) C.tNames),
   (oQ 0 (.assign (.tmp (K.nm.length + 1))) C.tNames)]),
  .ret]
attribute [local irreducible] vc rO_ runG runS runD
def nameV (p : Int × List UInt8) : List Value := [.int .i64 p.1, .string ⟨p.2.toArray⟩]
def NamesAt (B : Nat) (w : World) (v : Value) (nm : List (Int × List UInt8)) : Prop := ∃ q, B ≤ q ∧ q < w.heap.size ∧ v = .slice (some ⟨q, 0, none⟩) nm.length nm.length ∧ Cells w q 0 (nm.flatMap nameV)
theorem NamesAt.below {B : Nat} {w w' : World} {v : Value} {nm} (h : NamesAt B w v nm) (hb : Below w.heap.size w w') : NamesAt B w' v nm := by
 obtain ⟨q, h1, h2, h3, h4⟩ := h
 exact ⟨q, h1, Nat.lt_of_lt_of_le h2 hb.size, h3, h4.below hb h2⟩
def lookN (f : Int × List UInt8 → Bool) (nm : List (Int × List UInt8)) : Option Int := (nm.find? f).map (·.1)
structure YT3 (P : Program) (E : Env) (C : SC) : Prop extends YT2 P E C where
 rowN : rowB P C.tNames C.tName 2 = true
 layN : lays P C.tName = some ([(0, 1), (1, 1)], #[.int .i64 0, .string ⟨#[]⟩])
 agN : aggT P C.tName = some 2
 zN : zeroT P C.tName = some (.agg #[.int .i64 0, .string ⟨#[]⟩])
 f0 : fieldOff P C.tName 0 = some 0
 f1 : fieldOff P C.tName 1 = some 1
 bool : P.underlying E.tO = some .bool
 oInt : oneT P E.tI = true
 oStr : oneT P E.tStr = true
 tspec : Text P C.QspecParsed 2 23 #[.tmp 4, .tmp 5] (c_specParsed E C)
 tparsed : Text P C.Qparsed 4 29 #[.tmp 8] (c_parsed E C)
section
variable {P : Program} {a : Act} {w : World} {r : List Oper} {Q : Exit → Act → World → Prop}
theorem r_eqBool {d T x y yt ty p af g} {b c : Bool} (hT : P.underlying T = some .bool) (hx : a.eval x = .bool b) (hy : a.eval y = .bool c) (h : rO_ P Q r (a.put (some d) (.bool (b == c))) w) :
  rO_ P Q (⟨some d, .binOp .eql T x y yt, ty, p, af, g⟩ :: r) a w := by
 refine st ?_
 have hb : (binOp .eql T (.bool b) (.bool c)).run P w = .ok (.bool (b == c)) w := by
  simp only [binOp]
  have h0 : ∀ k : Nat, (Op.equalIn (k + 1) T (.bool b) (.bool c)).run P w = .ok (b == c) w := fun k => by simp [Op.equalIn, run_underlying hT]
  simp [Op.equal, Op.maxDepth, h0 9999]
 have hg : (eqGuard .eql T x y (.bool b) (.bool c)) = pure () := rfl
 simp only [Oper.wp, execOp, hx, hy, hg, hb, Sem.run_bind, Sem.run_pure, Result.andThen_ok, Oper.upon_value]
 exact h
end
section
variable {P : Program} {E : Env} {C : SC} {K : KC} {Tab : World → Prop}
end
end Go.Km
namespace Go.Km
open Go Go.RowKit Go.ChangeMaps
attribute [local irreducible] vc rO_ runG runS runD
def MapIs (w : World) (sb q : Nat) (l : List (Nat × List UInt8)) : Prop :=
 ∃ es clock, w.heap[q]? = some (.map es clock) ∧ (∀ e ∈ es.toList, e.born < clock) ∧ (es.toList.map (·.born)).Nodup ∧ l.length = es.size ∧
  ∀ (i : Nat) (x : Nat × List UInt8), l[i]? = some x → ∃ e : MapEntry, es[i]? = some e ∧ e.key = .int .u32 x.1 ∧ SrcV w sb e.val x.2
def TagM (w : World) (sb B : Nat) (v : Value) (tags : List (Nat × List UInt8)) : Prop :=
 TagsOk tags ∧ ((v = .map none ∧ tags = []) ∨ ∃ q l, v = .map (some q) ∧ B ≤ q ∧ q < w.heap.size ∧ MapIs w sb q l ∧ l.Perm tags)
theorem TagM.heap {w w' : World} {sb B : Nat} {v : Value} {tags : List (Nat × List UInt8)} (h : TagM w sb B v tags) (hs : w'.heap[sb]? = w.heap[sb]?) (hz : w.heap.size ≤ w'.heap.size) (hk : ∀ q, v = .map (some q) → w'.heap[q]? = w.heap[q]?) : TagM w' sb B v tags := by
 obtain ⟨h1, h2⟩ := h
 refine ⟨h1, ?_⟩
 rcases h2 with h2 | ⟨q, l, hv, hq, hqs, ⟨es, clock, hm, hb, hn, hl, he⟩, hp⟩
 ·exact .inl h2
 ·refine .inr ⟨q, l, hv, hq, by omega, ⟨es, clock, by rw [hk q hv]; exact hm, hb, hn, hl, fun i x hx => ?_⟩, hp⟩
  obtain ⟨e, e1, e2, e3⟩ := he i x hx
  exact ⟨e, e1, e2, e3.heap hs⟩
section
variable {P : Program}
end
end Go.Km
namespace Go.Km
open Go Go.RowKit Go.ChangeMaps
attribute [local irreducible] vc rO_ runG runS runD
section
variable {P : Program} {a : Act} {w : World} {r : List Oper} {Q : Exit → Act → World → Prop}
end
section
variable {P : Program} {E : Env}
end
end Go.Km
namespace Go.Km
open Go Go.RowKit
def c_chain (E : Env) (C : SC) (K : KC) : List (Int × List UInt8) → Nat → Code
 | [], _ => sq [rg [(oQ 6 (.call { callee := .value (.func C.QerrNew), args := #[(.const (.string ⟨K.msg.toArray⟩))], argTypes := #[E.tStr] }) E.tErr),
   (oQ 2 (.assign (.const (.int K.k 0))) K.t),
   (oQ 3 (.assign (.tmp 6)) E.tErr)], .ret]
 | p :: r, t => sq [rg [(oQ (t + 1) (.binOp .eql E.tStr (.tmp 5) (.const (.string ⟨p.2.toArray⟩)) E.tStr) E.tO),
   (oQ t (.assign (.tmp (t + 1))) E.tO)],
   .cond (.tmp t)
    (sq [rg [(oQ 2 (.assign (.const (.int K.k p.1))) K.t),
     (oQ 3 (.assign (.const .nilIface)) E.tErr)], .ret])
    (c_chain E C K r (t + 2))]
def c_parseG (E : Env) (C : SC) (K : KC) : Code :=
 sq [rg [(oQ 2 (.assign (.const (.int K.k 0))) K.t),
   (oQ 3 (.assign (.const .nilIface)) E.tErr)],
  rg [(oQ 4 (.move (.tmp 0)) E.tStr),
   (oQ 5 (.call { callee := .value (.func C.Qstrnorm), args := #[(.tmp 4)], argTypes := #[E.tStr] }) E.tStr)],
  .block 0 (c_chain E C K K.keys 7)]
def c_unmG (E : Env) (C : SC) (K : KC) : Code :=
 sq [rg [(oQ 4 (.assign (.const .nilIface)) E.tErr)],
  rg [(oQ 8 (.move (.tmp 1)) E.tB),
   (oQ 9 (.convert E.tB E.tStr (.tmp 8)) E.tStr),
   (oQ 10 (.call { callee := .value (.func K.Qparse), args := #[(.tmp 9)], argTypes := #[E.tStr] }) K.tup),
   (oQ 7 (.move (.tmp 10)) K.tup),
   (oQ 11 (.extract (.tmp 7) 0) K.t),
   (oQ 12 (.extract (.tmp 7) 1) E.tErr),
   (oQ 5 (.assign (.tmp 11)) K.t),
   (oQ 6 (.assign (.tmp 12)) E.tErr)],
  rg [(oQ 13 (.move (.tmp 0)) K.tp),
   (oQ 14 (.move (.tmp 5)) K.t),
   (oQ 15 (.nilCheck (.tmp 13)) 0),
   ⟨none, .store K.t (.tmp 15) (.tmp 14), 0, "", #[], none⟩],
  rg [(oQ 16 (.move (.tmp 6)) E.tErr),
   (oQ 4 (.assign (.tmp 16)) E.tErr)],
  .ret]
def c_implParseG (E : Env) (C : SC) (K : KC) : Code :=
 sq [rg [(oQ 2 (.assign (.const (.int .i64 0))) E.tI),
   (oQ 3 (.assign (.const (.bool false))) E.tO)],
  rg [(oQ 7 (.move (.tmp 0)) E.tStr),
   (oQ 8 (.call { callee := .value (.func K.Qparse), args := #[(.tmp 7)], argTypes := #[E.tStr] }) K.tup),
   (oQ 6 (.move (.tmp 8)) K.tup),
   (oQ 9 (.extract (.tmp 6) 0) K.t),
   (oQ 10 (.extract (.tmp 6) 1) E.tErr),
   (oQ 4 (.assign (.tmp 9)) K.t),
   (oQ 5 (.assign (.tmp 10)) E.tErr)],
  sq [rg [(oQ 11 (.move (.tmp 5)) E.tErr),
    (oQ 12 (.binOp .neq E.tErr (.tmp 11) (.const .nilIface) E.tErr) E.tO)],
   .cond (.tmp 12)
    (sq [rg [(oQ 2 (.assign (.const (.int .i64 0))) E.tI),
      (oQ 3 (.assign (.const (.bool false))) E.tO)],
     .ret])
    .skip],
  rg [(oQ 13 (.move (.tmp 4)) K.t),
   (oQ 14 (.convert K.t E.tI (.tmp 13)) E.tI),
   (oQ 2 (.assign (.tmp 14)) E.tI),
   (oQ 3 (.assign (.const (.bool true))) E.tO)],
  .ret]
def c_implOfTextG (E : Env) (C : SC) (K : KC) : Code :=
 sq [rg [(oQ 2 (.assign (.const (.int .i64 0))) E.tI),
   (oQ 3 (.assign (.const (.bool false))) E.tO)],
  rg [(oQ 4 (.alloc K.t) 0)],
  rg [(oQ 6 (.move (.tmp 0)) E.tB),
   (oQ 7 (.call { callee := .builtin .append, args := #[(.const (.slice none 0 0)), (.tmp 6)], argTypes := #[E.tB, E.tB] }) E.tB),
   (oQ 8 (.call { callee := .value (.func K.Qunm), args := #[(.tmp 4), (.tmp 7)], argTypes := #[K.t, E.tB] }) E.tErr),
   (oQ 5 (.assign (.tmp 8)) E.tErr)],
  sq [rg [(oQ 9 (.move (.tmp 5)) E.tErr),
    (oQ 10 (.binOp .neq E.tErr (.tmp 9) (.const .nilIface) E.tErr) E.tO)],
   .cond (.tmp 10)
    (sq [rg [(oQ 2 (.assign (.const (.int .i64 0))) E.tI),
      (oQ 3 (.assign (.const (.bool false))) E.tO)],
     .ret])
    .skip],
  rg [(oQ 11 (.load K.t (.tmp 4)) K.t),
   (oQ 12 (.convert K.t E.tI (.tmp 11)) E.tI),
   (oQ 2 (.assign (.tmp 12)) E.tI),
   (oQ 3 (.assign (.const (.bool true))) E.tO)],
  .ret]
attribute [local irreducible] vc rO_ runG runS runD
structure KT (P : Program) (E : Env) (C : SC) (K : KC) (Tab : World → Prop) : Prop extends YT3 P E C where
 shelf : ShelfY P C Tab
 err : ifaceT P E.tErr = true
 layE : lays P C.tEs = some ([(0, 1)], #[.string ⟨#[]⟩])
 ptrE : ∃ e, P.underlying C.tPEs = some (.pointer e)
 kt : intT P K.t = some K.k
 oK : oneT P K.t = true
 zK : zeroT P K.t = some (.int K.k 0)
 hn0 : 0 < K.nm.length
 hn1 : K.nm.length ≤ 1000
 hnl : ∀ p ∈ K.nm, p.2.length ≤ 1000
 hnv : ∀ p ∈ K.nm, 0 ≤ p.1 ∧ p.1 ≤ 1000
 keys : K.keys = K.nm.map fun p => (p.1, normalL p.2)
 tErrNew : Text P C.QerrNew 1 7 #[.tmp 2] (c_errNew E C)
 tNames : Text P K.Qnames 0 (K.nm.length + 2) #[.tmp 0] (c_namesG E C K)
 tParse : Text P K.Qparse 1 (7 + 2 * K.keys.length) #[.tmp 2, .tmp 3] (c_parseG E C K)
 tUnm : Text P K.Qunm 2 17 #[.tmp 4] (c_unmG E C K)
 tImplParse : Text P K.QimplParse 1 15 #[.tmp 2, .tmp 3] (c_implParseG E C K)
 tImplOf : Text P K.QimplOfText 1 13 #[.tmp 2, .tmp 3] (c_implOfTextG E C K)
def KC.look (K : KC) (l : List UInt8) : Option Int := lookN (fun p => decide (normalL p.2 = normalL l)) K.nm
section
variable {P : Program} {a : Act} {w : World} {r : List Oper} {Q : Exit → Act → World → Prop}
theorem r_makeIfaceP {d t x ty p af g e} (ht : P.underlying t = some (.pointer e)) (h : rO_ P Q r (a.put (some d) (.iface t (a.eval x))) w) : rO_ P Q (⟨some d, .makeInterface t x, ty, p, af, g⟩ :: r) a w := by
 refine st ?_
 have hr : (Instr.makeInterface t (a.eval x)).run P w = .ok (.iface t (a.eval x)) w := by simp [Instr.makeInterface, run_underlying ht]
 simp only [Oper.wp, execOp, Sem.run_bind, hr, Sem.run_pure, Result.andThen_ok, Oper.upon_value]
 exact h
end
section
variable {P : Program} {E : Env} {C : SC} {K : KC} {Tab : World → Prop}
theorem KT.val (H : KT P E C K Tab) (l : List UInt8) : 0 ≤ (K.look l).getD 0 ∧ (K.look l).getD 0 ≤ 1000 := by
 unfold KC.look lookN
 cases h : K.nm.find? (fun p => decide (normalL p.2 = normalL l)) with
 | none => simp
 | some p => simpa using H.hnv p (List.mem_of_find?_eq_some h)
end
end Go.Km
namespace Go.Km
open Go Go.RowKit
structure ZC where
 tReq : TypeId := 0
 tI : List TypeId := []
 tT : List TypeId := []
 tTup : TypeId := 0
 Qknown : FuncId := 0
 Qgoes : FuncId := 0
 Qrfk : FuncId := 0
 Qadm : FuncId := 0
 Qgrp : FuncId := 0
 Qtxn : FuncId := 0
 Qshr : FuncId := 0
structure RK where
 key : Int
 np : FuncId
 TP : TypeId
def c_inC (E : Env) : List Int → Nat → Code
 | [], _ => .skip
 | k :: r, t =>
  let a := rg [(oQ t (.binOp .eql E.tI16 (.tmp 3) (.const (.int .i16 k)) E.tI16) E.tO), (oQ 4 (.assign (.tmp t)) E.tO)]
  match r with
  | [] => a
  | _ :: _ => sq [a, .cond (.tmp 4) .skip (c_inC E r (t + 1))]
def c_in (E : Env) (ks : List Int) : Code :=
 sq [rg [(oQ 2 (.assign (.const (.bool false))) E.tO)],
  sq [rg [(oQ 3 (.move (.tmp 0)) E.tI16)],
   .block 0 (sq [c_inC E ks 5, .cond (.tmp 4) (sq [rg [(oQ 2 (.assign (.const (.bool true))) E.tO)], .ret]) .skip])],
  rg [(oQ 2 (.assign (.const (.bool false))) E.tO)], .ret]
def c_rfkC (E : Env) (Z : ZC) : List RK → Nat → Code
 | [], _ => sq [rg [(oQ 2 (.assign (.const .nilIface)) Z.tReq)], .ret]
 | p :: r, t => sq [rg [(oQ (t + 1) (.binOp .eql E.tI16 (.tmp 3) (.const (.int .i16 p.key)) E.tI16) E.tO), (oQ t (.assign (.tmp (t + 1))) E.tO)],
   .cond (.tmp t)
    (sq [rg [(oQ (t + 2) (.call { callee := .value (.func p.np), args := #[], argTypes := #[] }) p.TP),
     (oQ (t + 3) (.makeInterface p.TP (.tmp (t + 2))) Z.tReq),
     (oQ 2 (.assign (.tmp (t + 3))) Z.tReq)], .ret])
    (c_rfkC E Z r (t + 4))]
def c_rfk (E : Env) (Z : ZC) (ks : List RK) : Code :=
 sq [rg [(oQ 2 (.assign (.const .nilIface)) Z.tReq)],
  rg [(oQ 3 (.move (.tmp 0)) E.tI16)],
  .block 0 (c_rfkC E Z ks 4)]
attribute [local irreducible] vc rO_ runG runS runD
def hasB (P : Program) (t T : TypeId) : Option Bool :=
 match P.underlying T, P.info? t with
 | some (.interface want), some i => some (lacking want i.methods).isEmpty
 | _, _ => none
section
variable {P : Program} {a : Act} {w : World} {r : List Oper} {Q : Exit → Act → World → Prop}
theorem r_typeAssert {d x xT T ty p af g t v b} (hT : hasB P t T = some b) (hz : zeroT P T = some .nilIface) (hx : a.eval x = .iface t v) (h : rO_ P Q r (a.put (some d) (.tuple #[if b then .iface t v else .nilIface, .bool b])) w) :
  rO_ P Q (⟨some d, .typeAssert x xT T true, ty, p, af, g⟩ :: r) a w := by
 refine st ?_
 have hr : (Instr.typeAssert (a.eval x) xT T true).run P w = .ok (.tuple #[if b then .iface t v else .nilIface, .bool b]) w := by
  unfold hasB at hT
  split at hT
  ·rename_i want i hu hi
   simp only [Option.some.injEq] at hT
   rw [hx]
   have hj : ∃ j, P.info? T = some j ∧ j.zero = some .nilIface := by
    unfold zeroT at hz
    cases h : P.info? T with
    | none => rw [h] at hz; cases hz
    | some j => rw [h] at hz; exact ⟨j, rfl, by simpa using hz⟩
   obtain ⟨j, hj1, hj2⟩ := hj
   cases b with
   | true => simpa using run_typeAssert_has hu hi (List.isEmpty_iff.1 hT) (v := v) (w := w) (xT := xT)
   | false => simpa using run_typeAssert_lacks hu hi hj1 hj2 (fun e => by rw [e] at hT; cases hT) (v := v) (w := w) (xT := xT)
  ·cases hT
 simp only [Oper.wp, execOp, Sem.run_bind, hr, Sem.run_pure, Result.andThen_ok, Oper.upon_value]
 exact h
end
section
variable {P : Program} {E : Env} {Z : ZC}
theorem c_inC_ok (key : Int) : ∀ (ks : List Int) (t : Nat) (A : Act) (W : World) (Q : Exit → Act → World → Prop), ks ≠ [] → 5 ≤ t → t + ks.length ≤ A.tmps.size → A.eval (.tmp 3) = .int .i16 key →
  (∀ A', A'.tmps.size = A.tmps.size → A'.defers = A.defers → A'.eval (.tmp 4) = .bool (ks.contains key) → Q .normal A' W) → vc P (c_inC E ks t) Q A W
 | [], t, A, W, Q, hne, ht, hs, h3, hk => absurd rfl hne
 | k :: r, t, A, W, Q, hne, ht, hs, h3, hk => by
  simp only [List.length_cons] at hs
  have one : ∀ (R : Exit → Act → World → Prop), (∀ A', A'.tmps.size = A.tmps.size → A'.defers = A.defers → A'.eval (.tmp 3) = .int .i16 key → A'.eval (.tmp 4) = .bool (key == k) → R .normal A' W) →
    vc P (rg [(oQ t (.binOp .eql E.tI16 (.tmp 3) (.const (.int .i16 k)) E.tI16) E.tO), (oQ 4 (.assign (.tmp t)) E.tO)]) R A W := by
   intro R hR
   refine vR (by simp) ?_
   refine r_eql (k := .i16) (m := key) (n := k) (by simp (disch := (try simp only [sP]); omega) only [eV, h3]) rfl ?_
   refine rA (dn ?_)
   exact hR _ (by simp only [zP]) (by simp only [dF]) (by simp (disch := (try simp only [sP]); omega) only [eV, h3]) (by simp (disch := (try simp only [sP]); omega) only [eV])
  cases r with
  | nil =>
   unfold c_inC
   refine one _ ?_
   intro A' h1 h2 h3' h4
   exact hk A' h1 h2 (by rw [h4]; by_cases h : key = k <;> simp [h])
  | cons k2 r =>
   rw [c_inC]
   refine vS (one _ ?_)
   intro A' h1 h2 h3' h4
   refine vS (vC (t := key == k) h4 (fun h => ?_) (fun h => ?_))
   ·refine vK (vN ?_)
    have : key = k := by simpa using h
    exact hk A' h1 h2 (by rw [h4, h, this]; simp)
   ·refine vc_mono _ (c_inC_ok key (k2 :: r) (t + 1) A' W (fun e A2 W2 => e = .normal ∧ Q .normal A2 W2) (by simp) (by omega) (by rw [h1]; omega) h3' ?_) ?_
    ·intro A2 g1 g2 g3
     refine ⟨rfl, hk A2 (g1.trans h1) (g2.trans h2) ?_⟩
     rw [g3]
     have hkk : ¬ key = k := by simpa using h
     simp [List.contains_cons, hkk]
    ·rintro e A2 W2 ⟨rfl, hq⟩
     exact vN hq
theorem c_in_ok {f : FuncId} {ks : List Int} {np nt : Nat} (hne : ks ≠ []) (ht : Text P f np nt #[.tmp 2] (c_in E ks)) (hn : 5 + ks.length ≤ nt) (key : Int) (w : World) : CallsV P f #[.int .i16 key] w fun v w' => v = .bool (ks.contains key) ∧ w' = w := by
 refine CallsV.enter ht (by simp; omega) ?_
 intro a hsz hdf harg
 have e0 := harg 0 (.int .i16 key) (by simp)
 unfold c_in
 refine vX (rA (dn (vS (vX (rM (dn ?_))))))
 refine vS (vc_block (vS (c_inC_ok key ks 5 _ w _ hne (Nat.le_refl _) (by simp only [zP]; omega) (by simp (disch := (try simp only [sP]); omega) only [eV, e0]) ?_)))
 intro A' h1 h2 h4
 simp only [zP] at h1
 simp only [dF] at h2
 refine vS (vC (t := ks.contains key) h4 (fun h => ?_) (fun h => ?_))
 ·refine vX ?_
  refine rA (dn (vS (vT ?_)))
  exact ⟨by simp only [dF]; rw [h2]; exact hdf, .bool true, rO (by simp (disch := (try simp only [sP]); omega) only [eV]), by rw [h], rfl⟩
 ·refine vK (vN ?_)
  simp only [Exit.then, Exit.inBlock]
  refine vN (vX (rA (dn (vS (vT ?_)))))
  exact ⟨by simp only [dF]; rw [h2]; exact hdf, .bool false, rO (by simp (disch := (try simp only [sP]); omega) only [eV]), by rw [h], rfl⟩
theorem c_rfkC_ok (key : Int) {p : RK} : ∀ (ks : List RK) (t : Nat) (A : Act) (W : World) (Q : Exit → Act → World → Prop), ks.find? (fun p => decide (p.key = key)) = some p → (∃ e, P.underlying p.TP = some (.pointer e)) → (CallsV P p.np #[] W fun v w' => Below W.heap.size W w') →
  4 ≤ t → t + 4 * ks.length ≤ A.tmps.size → A.defers = [] → A.eval (.tmp 3) = .int .i16 key → (∀ A' W' v, A'.defers = [] → A'.eval (.tmp 2) = .iface p.TP v → Below W.heap.size W W' → Q .ret A' W') → vc P (c_rfkC E Z ks t) Q A W
 | [], t, A, W, Q, hf, he, hc, ht, hs, hd, h3, hk => by simp at hf
 | p0 :: r, t, A, W, Q, hf, he, hc, ht, hs, hd, h3, hk => by
  simp only [List.length_cons] at hs
  unfold c_rfkC
  refine vX ?_
  refine r_eql (k := .i16) (m := key) (n := p0.key) (by simp (disch := (try simp only [sP]); omega) only [eV, h3]) rfl ?_
  refine rA (dn ?_)
  refine vS (vC (t := key == p0.key) (by simp (disch := (try simp only [sP]); omega) only [eV]) ?_ ?_)
  ·intro h
   have hx : p0.key = key := by
    have : key = p0.key := by simpa using h
    exact this.symm
   have : p0 = p := by
    rw [List.find?_cons, show decide (p0.key = key) = true by simpa using hx] at hf
    exact Option.some.inj hf
   subst this
   obtain ⟨e, he⟩ := he
   refine vX ?_
   refine r_call' (args := #[]) (by simp) hc ?_
   intro v w1 hb
   refine r_makeIfaceP he ?_
   refine rA (dn (vS (vT ?_)))
   exact hk _ w1 v (by simp only [dF]; exact hd) (by simp (disch := (try simp only [sP]); omega) only [eV]) hb
  ·intro h
   have hx : ¬ p0.key = key := fun e => by rw [e] at h; simp at h
   have hf' : r.find? (fun p => decide (p.key = key)) = some p := by
    rw [List.find?_cons, show decide (p0.key = key) = false by simpa using hx] at hf
    exact hf
   refine vc_mono _ (c_rfkC_ok key r (t + 4) _ W (fun e A' W' => e = .ret ∧ Q .ret A' W') hf' he hc (by omega) (by simp only [zP]; omega) (by simp only [dF]; exact hd) (by simp (disch := (try simp only [sP]); omega) only [eV, h3]) (fun A' W' v q1 q2 q3 => ⟨rfl, hk A' W' v q1 q2 q3⟩)) ?_
   rintro e A' W' ⟨rfl, hq⟩
   exact hq
theorem c_rfk_ok {ks : List RK} {key : Int} {p : RK} {np : Nat} (ht : Text P Z.Qrfk np (4 + 4 * ks.length) #[.tmp 2] (c_rfk E Z ks)) (hf : ks.find? (fun p => decide (p.key = key)) = some p) (he : ∃ e, P.underlying p.TP = some (.pointer e)) (w : World) (hc : CallsV P p.np #[] w fun v w' => Below w.heap.size w w') :
  CallsV P Z.Qrfk #[.int .i16 key] w fun v w' => (∃ u, v = .iface p.TP u) ∧ Below w.heap.size w w' := by
 refine CallsV.enter ht (by simp; omega) ?_
 intro a hsz hdf harg
 have e0 := harg 0 (.int .i16 key) (by simp)
 unfold c_rfk
 refine vX (rA (dn (vX (rM (dn ?_)))))
 refine vS (vc_block (c_rfkC_ok key ks 4 _ w _ hf he hc (Nat.le_refl _) (by simp only [zP]; omega) (by simp only [dF]; exact hdf) (by simp (disch := (try simp only [sP]); omega) only [eV, e0]) ?_))
 intro A' W' v h1 h2 hb
 exact ⟨h1, .iface p.TP v, rO h2, ⟨v, rfl⟩, hb⟩
end
end Go.Km
namespace Go.Km
open Go Go.RowKit
structure ZG extends ZC where
 T0 : TypeId := 0
 T1 : TypeId := 0
 T2 : TypeId := 0
 T3 : TypeId := 0
 U0 : TypeId := 0
 U1 : TypeId := 0
 U2 : TypeId := 0
 U3 : TypeId := 0
def c_ask (E : Env) (Z : ZG) (T U : TypeId) (t d : Nat) : Code :=
 rg [(oQ (t + 1) (.move (.tmp 6)) Z.tReq),
  (oQ (t + 2) (.typeAssert (.tmp (t + 1)) Z.tReq T true) U),
  (oQ t (.move (.tmp (t + 2))) U),
  (oQ (t + 3) (.extract (.tmp t) 0) T),
  (oQ (t + 4) (.extract (.tmp t) 1) E.tO),
  (oQ d (.assign (.tmp (t + 4))) E.tO)]
def c_goes (E : Env) (Z : ZG) : Code :=
 sq [rg [(oQ 2 (.assign (.const (.bool false))) E.tO), (oQ 3 (.assign (.const (.bool false))) E.tO), (oQ 4 (.assign (.const (.bool false))) E.tO), (oQ 5 (.assign (.const (.bool false))) E.tO)],
  rg [(oQ 7 (.move (.tmp 0)) E.tI16),
   (oQ 8 (.call { callee := .value (.func Z.Qrfk), args := #[.tmp 7], argTypes := #[E.tI16] }) Z.tReq),
   (oQ 6 (.assign (.tmp 8)) Z.tReq)],
  c_ask E Z Z.T0 Z.U0 9 2, c_ask E Z Z.T1 Z.U1 14 3, c_ask E Z Z.T2 Z.U2 19 4, c_ask E Z Z.T3 Z.U3 24 5,
  rg [(oQ 29 (.move (.tmp 2)) E.tO), (oQ 30 (.move (.tmp 3)) E.tO), (oQ 31 (.move (.tmp 4)) E.tO), (oQ 32 (.move (.tmp 5)) E.tO),
   (oQ 2 (.assign (.tmp 29)) E.tO), (oQ 3 (.assign (.tmp 30)) E.tO), (oQ 4 (.assign (.tmp 31)) E.tO), (oQ 5 (.assign (.tmp 32)) E.tO)],
  .ret]
def c_known (E : Env) : Code :=
 sq [rg [(oQ 2 (.assign (.const (.bool false))) E.tO)],
  rg [(oQ 3 (.move (.tmp 0)) E.tI16),
   (oQ 4 (.binOp .geq E.tI16 (.tmp 3) (.const (.int .i16 0)) E.tI16) E.tO),
   (oQ 5 (.move (.tmp 4)) E.tO),
   ⟨some 6, .move (.tmp 0), E.tI16, "", #[], some (2, true)⟩,
   ⟨some 7, .binOp .leq E.tI16 (.tmp 6) (.const (.int .i16 94)) E.tI16, E.tO, "", #[], some (2, true)⟩,
   (oQ 8 (.pick (.tmp 5) (.tmp 7) (.const (.bool false))) E.tO),
   (oQ 2 (.assign (.tmp 8)) E.tO)],
  .ret]
def c_lawGoes (E : Env) (Z : ZG) : Code :=
 sq [rg [(oQ 2 (.assign (.const (.bool false))) E.tO)],
  sq [rg [(oQ 7 (.move (.tmp 0)) E.tI16),
    (oQ 8 (.call { callee := .value (.func Z.Qknown), args := #[.tmp 7], argTypes := #[E.tI16] }) E.tO),
    (oQ 9 (.unOp .not E.tO (.tmp 8)) E.tO)],
   .cond (.tmp 9) (sq [rg [(oQ 2 (.assign (.const (.bool true))) E.tO)], .ret]) .skip],
  rg [(oQ 11 (.move (.tmp 0)) E.tI16),
   (oQ 12 (.call { callee := .value (.func Z.Qgoes), args := #[.tmp 11], argTypes := #[E.tI16] }) Z.tTup),
   (oQ 10 (.move (.tmp 12)) Z.tTup),
   (oQ 13 (.extract (.tmp 10) 0) E.tO), (oQ 14 (.extract (.tmp 10) 1) E.tO), (oQ 15 (.extract (.tmp 10) 2) E.tO), (oQ 16 (.extract (.tmp 10) 3) E.tO),
   (oQ 3 (.assign (.tmp 13)) E.tO), (oQ 4 (.assign (.tmp 14)) E.tO), (oQ 5 (.assign (.tmp 15)) E.tO), (oQ 6 (.assign (.tmp 16)) E.tO)],
  rg [(oQ 17 (.move (.tmp 3)) E.tO),
   (oQ 18 (.move (.tmp 0)) E.tI16),
   (oQ 19 (.call { callee := .value (.func Z.Qadm), args := #[.tmp 18], argTypes := #[E.tI16] }) E.tO),
   (oQ 20 (.binOp .eql E.tO (.tmp 17) (.tmp 19) E.tO) E.tO),
   (oQ 21 (.move (.tmp 20)) E.tO),
   ⟨some 22, .move (.tmp 4), E.tO, "", #[], some (4, true)⟩,
   ⟨some 23, .move (.tmp 0), E.tI16, "", #[], some (4, true)⟩,
   ⟨some 24, .call { callee := .value (.func Z.Qgrp), args := #[.tmp 23], argTypes := #[E.tI16] }, E.tO, "", #[], some (4, true)⟩,
   ⟨some 25, .binOp .eql E.tO (.tmp 22) (.tmp 24) E.tO, E.tO, "", #[], some (4, true)⟩,
   (oQ 26 (.pick (.tmp 21) (.tmp 25) (.const (.bool false))) E.tO),
   (oQ 27 (.move (.tmp 26)) E.tO),
   ⟨some 28, .move (.tmp 5), E.tO, "", #[], some (10, true)⟩,
   ⟨some 29, .move (.tmp 0), E.tI16, "", #[], some (10, true)⟩,
   ⟨some 30, .call { callee := .value (.func Z.Qtxn), args := #[.tmp 29], argTypes := #[E.tI16] }, E.tO, "", #[], some (10, true)⟩,
   ⟨some 31, .binOp .eql E.tO (.tmp 28) (.tmp 30) E.tO, E.tO, "", #[], some (10, true)⟩,
   (oQ 32 (.pick (.tmp 27) (.tmp 31) (.const (.bool false))) E.tO),
   (oQ 33 (.move (.tmp 32)) E.tO),
   ⟨some 34, .move (.tmp 6), E.tO, "", #[], some (16, true)⟩,
   ⟨some 35, .move (.tmp 0), E.tI16, "", #[], some (16, true)⟩,
   ⟨some 36, .call { callee := .value (.func Z.Qshr), args := #[.tmp 35], argTypes := #[E.tI16] }, E.tO, "", #[], some (16, true)⟩,
   ⟨some 37, .binOp .eql E.tO (.tmp 34) (.tmp 36) E.tO, E.tO, "", #[], some (16, true)⟩,
   (oQ 38 (.pick (.tmp 33) (.tmp 37) (.const (.bool false))) E.tO),
   (oQ 2 (.assign (.tmp 38)) E.tO)],
  .ret]
attribute [local irreducible] vc rO_ runG runS runD
theorem results_four {P : Program} {w : World} {a : Act} {t1 t2 t3 t4 : Nat} {v1 v2 v3 v4 : Value} (h1 : a.eval (.tmp t1) = v1) (h2 : a.eval (.tmp t2) = v2) (h3 : a.eval (.tmp t3) = v3) (h4 : a.eval (.tmp t4) = v4) :
  (results { (default : Func) with results := #[.tmp t1, .tmp t2, .tmp t3, .tmp t4] } a.tmps).run P w = .ok (.tuple #[v1, v2, v3, v4]) w := by
 subst h1; subst h2; subst h3; subst h4
 simp [results, Act.eval]
structure Goer (P : Program) (Z : ZG) (ks : List RK) (ad gr tx sh : List Int) (key : Int) (p : RK) : Prop where
 find : ks.find? (fun p => decide (p.key = key)) = some p
 ptr : ∃ e, P.underlying p.TP = some (.pointer e)
 new : ∀ w, CallsV P p.np #[] w fun v w' => Below w.heap.size w w'
 h0 : hasB P p.TP Z.T0 = some (ad.contains key)
 h1 : hasB P p.TP Z.T1 = some (gr.contains key)
 h2 : hasB P p.TP Z.T2 = some (tx.contains key)
 h3 : hasB P p.TP Z.T3 = some (sh.contains key)
structure GoT (P : Program) (E : Env) (Z : ZG) (ks : List RK) (ad gr tx sh : List Int) : Prop where
 bool : P.underlying E.tO = some .bool
 z0 : zeroT P Z.T0 = some .nilIface
 z1 : zeroT P Z.T1 = some .nilIface
 z2 : zeroT P Z.T2 = some .nilIface
 z3 : zeroT P Z.T3 = some .nilIface
 tKnown : Text P Z.Qknown 1 9 #[.tmp 2] (c_known E)
 tGoes : Text P Z.Qgoes 1 33 #[.tmp 2, .tmp 3, .tmp 4, .tmp 5] (c_goes E Z)
 tRfk : Text P Z.Qrfk 1 (4 + 4 * ks.length) #[.tmp 2] (c_rfk E Z.toZC ks)
 tAdm : Text P Z.Qadm 1 (5 + ad.length) #[.tmp 2] (c_in E ad)
 tGrp : Text P Z.Qgrp 1 (5 + gr.length) #[.tmp 2] (c_in E gr)
 tTxn : Text P Z.Qtxn 1 (5 + tx.length) #[.tmp 2] (c_in E tx)
 tShr : Text P Z.Qshr 1 (5 + sh.length) #[.tmp 2] (c_in E sh)
 n0 : ad ≠ []
 n1 : gr ≠ []
 n2 : tx ≠ []
 n3 : sh ≠ []
section
variable {P : Program} {E : Env} {Z : ZG} {ks : List RK} {ad gr tx sh : List Int}
theorem c_known_ok (H : GoT P E Z ks ad gr tx sh) (key : Int) (w : World) : CallsV P Z.Qknown #[.int .i16 key] w fun v w' => v = .bool (decide (0 ≤ key ∧ key ≤ 94)) ∧ w' = w := by
 refine CallsV.enter H.tKnown (by simp) ?_
 intro a hsz hdf harg
 have e0 := harg 0 (.int .i16 key) (by simp)
 unfold c_known
 refine vX (rA (dn ?_))
 refine vS (vc_runS ?_)
 refine rD rfl (wN rfl) (rM (dn (rT ?_)))
 refine rD rfl (wN rfl) (r_geq (k := .i16) (m := key) (n := 0) (by simp (disch := (try simp only [sP]); omega) only [eV, e0]) rfl (dn (rT ?_)))
 refine rD rfl (wN rfl) (rM (dn (rT ?_)))
 by_cases h0 : key ≥ 0
 ·rw [show decide (key ≥ 0) = true by simpa using h0]
  refine rD rfl (by rw [wS (b := true) rfl rfl (by simp (disch := (try simp only [sP]); omega) only [eV])]; rfl) (rM (dn (rT ?_)))
  refine rD rfl (by rw [wS (b := true) rfl rfl (by simp (disch := (try simp only [sP]); omega) only [eV])]; rfl) (r_leq (k := .i16) (m := key) (n := 94) (by simp (disch := (try simp only [sP]); omega) only [eV, e0]) rfl (dn (rT ?_)))
  refine rD rfl (wN rfl) (r_pickT (by simp (disch := (try simp only [sP]); omega) only [eV]) (dn (rT ?_)))
  refine rD rfl (wN rfl) (rA (dn (rT ?_)))
  refine runS_nil ?_
  refine vS (vT ?_)
  refine ⟨by simp only [dF]; exact hdf, .bool (decide (key ≤ 94)), rO (by simp (disch := (try simp only [sP]); omega) only [eV]), ?_, rfl⟩
  congr 1
  by_cases h : key ≤ 94 <;> simp [h] <;> omega
 ·rw [show decide (key ≥ 0) = false by simpa using h0]
  refine runS_no rfl (by rw [wS (b := false) rfl rfl (by simp (disch := (try simp only [sP]); omega) only [eV])]; rfl) ?_
  refine runS_no rfl (by rw [wS (b := false) rfl rfl (by simp (disch := (try simp only [sP]); omega) only [eV])]; rfl) ?_
  refine rD rfl (wN rfl) (r_pickF (by simp (disch := (try simp only [sP]); omega) only [eV]) (dn (rT ?_)))
  refine rD rfl (wN rfl) (rA (dn (rT ?_)))
  refine runS_nil ?_
  refine vS (vT ?_)
  refine ⟨by simp only [dF]; exact hdf, .bool false, rO (by simp (disch := (try simp only [sP]); omega) only [eV]), ?_, rfl⟩
  congr 1
  simp
  omega
theorem m_ask {T U : TypeId} {t d : Nat} {b : Bool} {TP : TypeId} {u : Value} {a : Act} {w : World} {Q : Exit → Act → World → Prop} (hT : hasB P TP T = some b) (hz : zeroT P T = some .nilIface) (h6 : a.eval (.tmp 6) = .iface TP u) (ht : 9 ≤ t) (hsz : t + 5 ≤ a.tmps.size) (hd : d < 6) (hd0 : d ≠ 0)
  (k : ∀ a', a'.tmps.size = a.tmps.size → a'.defers = a.defers → a'.eval (.tmp d) = .bool b → (∀ i, i < 9 → i ≠ d → a'.eval (.tmp i) = a.eval (.tmp i)) → Q .normal a' w) : vc P (c_ask E Z T U t d) Q a w := by
 unfold c_ask
 refine vR (by simp) ?_
 refine rM ?_
 refine r_typeAssert (v := u) hT hz (by simp (disch := (try simp only [sP]); omega) only [eV, h6]) ?_
 refine rM ?_
 refine r_extract (vs := #[if b then .iface TP u else .nilIface, .bool b]) (v := if b then .iface TP u else .nilIface) (by simp (disch := (try simp only [sP]); omega) only [eV]) rfl ?_
 refine r_extract (vs := #[if b then .iface TP u else .nilIface, .bool b]) (v := .bool b) (by simp (disch := (try simp only [sP]); omega) only [eV]) rfl ?_
 refine rA (dn ?_)
 refine k _ (by simp only [zP]) (by simp only [dF]) (by simp (disch := (try simp only [sP]); omega) only [eV]) (fun i hi hne => ?_)
 simp (disch := (try simp only [sP]); omega) only [eV]
theorem c_goes_ok (H : GoT P E Z ks ad gr tx sh) {key : Int} {p : RK} (G : Goer P Z ks ad gr tx sh key p) (w : World) :
  CallsV P Z.Qgoes #[.int .i16 key] w fun v w' => v = .tuple #[.bool (ad.contains key), .bool (gr.contains key), .bool (tx.contains key), .bool (sh.contains key)] ∧ Below w.heap.size w w' := by
 refine CallsV.enter H.tGoes (by simp) ?_
 intro a hsz hdf harg
 have e0 := harg 0 (.int .i16 key) (by simp)
 unfold c_goes
 refine vX (rA (rA (rA (rA (dn (vX (rM ?_)))))))
 refine r_call' (args := #[.int .i16 key]) ?_ (c_rfk_ok H.tRfk G.find G.ptr w (G.new w)) ?_
 ·simp only [lM]
  simp (disch := (try simp only [sP]); omega) only [eV, e0]
 rintro v W1 ⟨⟨u, rfl⟩, hb⟩
 refine rA (dn ?_)
 generalize hA : Act.put _ (some 6) _ = A
 have hsA : A.tmps.size = 33 := by rw [← hA]; simp only [zP]; exact hsz
 have hdA : A.defers = [] := by rw [← hA]; simp only [dF]; exact hdf
 have h6 : A.eval (.tmp 6) = .iface p.TP u := by rw [← hA]; simp (disch := (try simp only [sP]); omega) only [eV]
 clear hA
 refine vS (m_ask G.h0 H.z0 h6 (by omega) (by omega) (by omega) (by omega) ?_)
 intro A1 s1 d1 v1 f1
 refine vS (m_ask G.h1 H.z1 (by rw [f1 6 (by omega) (by omega)]; exact h6) (by omega) (by omega) (by omega) (by omega) ?_)
 intro A2 s2 d2 v2 f2
 refine vS (m_ask G.h2 H.z2 (by rw [f2 6 (by omega) (by omega), f1 6 (by omega) (by omega)]; exact h6) (by omega) (by omega) (by omega) (by omega) ?_)
 intro A3 s3 d3 v3 f3
 refine vS (m_ask G.h3 H.z3 (by rw [f3 6 (by omega) (by omega), f2 6 (by omega) (by omega), f1 6 (by omega) (by omega)]; exact h6) (by omega) (by omega) (by omega) (by omega) ?_)
 intro A4 s4 d4 v4 f4
 have g2 : A4.eval (.tmp 2) = .bool (ad.contains key) := by rw [f4 2 (by omega) (by omega), f3 2 (by omega) (by omega), f2 2 (by omega) (by omega)]; exact v1
 have g3 : A4.eval (.tmp 3) = .bool (gr.contains key) := by rw [f4 3 (by omega) (by omega), f3 3 (by omega) (by omega)]; exact v2
 have g4 : A4.eval (.tmp 4) = .bool (tx.contains key) := by rw [f4 4 (by omega) (by omega)]; exact v3
 have hs4 : A4.tmps.size = 33 := by omega
 have hd4 : A4.defers = [] := by rw [d4, d3, d2, d1]; exact hdA
 refine vX (rM (rM (rM (rM (rA (rA (rA (rA ?_))))))))
 refine dn (vS (vT ?_))
 exact ⟨by simp only [dF]; exact hd4, .tuple #[.bool (ad.contains key), .bool (gr.contains key), .bool (tx.contains key), .bool (sh.contains key)], results_four (by simp (disch := (try simp only [sP]); omega) only [eV, g2]) (by simp (disch := (try simp only [sP]); omega) only [eV, g3]) (by simp (disch := (try simp only [sP]); omega) only [eV, g4]) (by simp (disch := (try simp only [sP]); omega) only [eV, v4]), rfl, hb⟩
set_option maxHeartbeats 1000000 in
theorem c_lawGoes_ok (H : GoT P E Z ks ad gr tx sh) (hG : ∀ key : Int, 0 ≤ key → key ≤ 94 → ∃ p, Goer P Z ks ad gr tx sh key p) {L : FuncId} (ht : Text P L 1 39 #[.tmp 2] (c_lawGoes E Z)) (key : Int) (w : World) :
  CallsV P L #[.int .i16 key] w fun v w' => v = .bool true ∧ Below w.heap.size w w' := by
 refine CallsV.enter ht (by simp) ?_
 intro a hsz hdf harg
 have e0 := harg 0 (.int .i16 key) (by simp)
 unfold c_lawGoes
 refine vX (rA (dn (vS (vX (rM ?_)))))
 refine r_call' (args := #[.int .i16 key]) ?_ (c_known_ok H key w) ?_
 ·simp only [lM]
  simp (disch := (try simp only [sP]); omega) only [eV, e0]
 rintro v W1 ⟨rfl, hw1⟩
 rw [hw1]
 clear hw1
 refine r_not (b := decide (0 ≤ key ∧ key ≤ 94)) (by simp (disch := (try simp only [sP]); omega) only [eV]) ?_
 refine dn ?_
 refine vS (vC (t := !decide (0 ≤ key ∧ key ≤ 94)) (by simp (disch := (try simp only [sP]); omega) only [eV]) ?_ ?_)
 ·intro _
  refine vX (rA (dn (vS (vT ?_))))
  exact ⟨by simp only [dF]; exact hdf, .bool true, rO (by simp (disch := (try simp only [sP]); omega) only [eV]), rfl, Below.refl _ _⟩
 intro hk
 obtain ⟨hk0, hk1⟩ : 0 ≤ key ∧ key ≤ 94 := by simpa using hk
 obtain ⟨p, G⟩ := hG key hk0 hk1
 refine vK (vN (vX (rM ?_)))
 refine r_call' (args := #[.int .i16 key]) ?_ (c_goes_ok H G w) ?_
 ·simp only [lM]
  simp (disch := (try simp only [sP]); omega) only [eV, e0]
 rintro v W2 ⟨rfl, hb2⟩
 refine rM ?_
 refine r_extract (vs := #[.bool (ad.contains key), .bool (gr.contains key), .bool (tx.contains key), .bool (sh.contains key)]) (v := .bool (ad.contains key)) (by simp (disch := (try simp only [sP]); omega) only [eV]) rfl ?_
 refine r_extract (vs := #[.bool (ad.contains key), .bool (gr.contains key), .bool (tx.contains key), .bool (sh.contains key)]) (v := .bool (gr.contains key)) (by simp (disch := (try simp only [sP]); omega) only [eV]) rfl ?_
 refine r_extract (vs := #[.bool (ad.contains key), .bool (gr.contains key), .bool (tx.contains key), .bool (sh.contains key)]) (v := .bool (tx.contains key)) (by simp (disch := (try simp only [sP]); omega) only [eV]) rfl ?_
 refine r_extract (vs := #[.bool (ad.contains key), .bool (gr.contains key), .bool (tx.contains key), .bool (sh.contains key)]) (v := .bool (sh.contains key)) (by simp (disch := (try simp only [sP]); omega) only [eV]) rfl ?_
 refine rA (rA (rA (rA (dn ?_))))
 generalize hA : Act.put _ (some 6) _ = A
 have hsA : A.tmps.size = 39 := by rw [← hA]; simp only [zP]; exact hsz
 have hdA : A.defers = [] := by rw [← hA]; simp only [dF]; exact hdf
 have k0 : A.eval (.tmp 0) = .int .i16 key := by rw [← hA]; simp (disch := (try simp only [sP]); omega) only [eV, e0]
 have k3 : A.eval (.tmp 3) = .bool (ad.contains key) := by rw [← hA]; simp (disch := (try simp only [sP]); omega) only [eV]
 have k4 : A.eval (.tmp 4) = .bool (gr.contains key) := by rw [← hA]; simp (disch := (try simp only [sP]); omega) only [eV]
 have k5 : A.eval (.tmp 5) = .bool (tx.contains key) := by rw [← hA]; simp (disch := (try simp only [sP]); omega) only [eV]
 have k6 : A.eval (.tmp 6) = .bool (sh.contains key) := by rw [← hA]; simp (disch := (try simp only [sP]); omega) only [eV]
 clear hA
 refine vS (vc_runS ?_)
 refine rD rfl (wN rfl) (rM (dn (rT ?_)))
 refine rD rfl (wN rfl) (rM (dn (rT ?_)))
 refine rD rfl (wN rfl) (r_call' (args := #[.int .i16 key]) ?_ (c_in_ok H.n0 H.tAdm (Nat.le_refl _) key W2) ?_)
 ·simp only [lM]
  simp (disch := (try simp only [sP]); omega) only [eV, k0]
 rintro v W3 ⟨rfl, hw⟩
 rw [hw]; clear hw
 refine dn (rT ?_)
 refine rD rfl (wN rfl) (r_eqBool (b := ad.contains key) (c := ad.contains key) H.bool (by simp (disch := (try simp only [sP]); omega) only [eV, k3]) (by simp (disch := (try simp only [sP]); omega) only [eV]) (dn (rT ?_)))
 rw [show (ad.contains key == ad.contains key) = true by simp]
 refine rD rfl (wN rfl) (rM (dn (rT ?_)))
 refine rD rfl (by rw [wS (b := true) rfl rfl (by simp (disch := (try simp only [sP]); omega) only [eV])]; rfl) (rM (dn (rT ?_)))
 refine rD rfl (by rw [wS (b := true) rfl rfl (by simp (disch := (try simp only [sP]); omega) only [eV])]; rfl) (rM (dn (rT ?_)))
 refine rD rfl (by rw [wS (b := true) rfl rfl (by simp (disch := (try simp only [sP]); omega) only [eV])]; rfl) (r_call' (args := #[.int .i16 key]) ?_ (c_in_ok H.n1 H.tGrp (Nat.le_refl _) key W2) ?_)
 ·simp only [lM]
  simp (disch := (try simp only [sP]); omega) only [eV, k0]
 rintro v W4 ⟨rfl, hw⟩
 rw [hw]; clear hw
 refine dn (rT ?_)
 refine rD rfl (by rw [wS (b := true) rfl rfl (by simp (disch := (try simp only [sP]); omega) only [eV])]; rfl) (r_eqBool (b := gr.contains key) (c := gr.contains key) H.bool (by simp (disch := (try simp only [sP]); omega) only [eV, k4]) (by simp (disch := (try simp only [sP]); omega) only [eV]) (dn (rT ?_)))
 rw [show (gr.contains key == gr.contains key) = true by simp]
 refine rD rfl (wN rfl) (r_pickT (by simp (disch := (try simp only [sP]); omega) only [eV]) (dn (rT ?_)))
 refine rD rfl (wN rfl) (rM (dn (rT ?_)))
 refine rD rfl (by rw [wS (b := true) rfl rfl (by simp (disch := (try simp only [sP]); omega) only [eV])]; rfl) (rM (dn (rT ?_)))
 refine rD rfl (by rw [wS (b := true) rfl rfl (by simp (disch := (try simp only [sP]); omega) only [eV])]; rfl) (rM (dn (rT ?_)))
 refine rD rfl (by rw [wS (b := true) rfl rfl (by simp (disch := (try simp only [sP]); omega) only [eV])]; rfl) (r_call' (args := #[.int .i16 key]) ?_ (c_in_ok H.n2 H.tTxn (Nat.le_refl _) key W2) ?_)
 ·simp only [lM]
  simp (disch := (try simp only [sP]); omega) only [eV, k0]
 rintro v W5 ⟨rfl, hw⟩
 rw [hw]; clear hw
 refine dn (rT ?_)
 refine rD rfl (by rw [wS (b := true) rfl rfl (by simp (disch := (try simp only [sP]); omega) only [eV])]; rfl) (r_eqBool (b := tx.contains key) (c := tx.contains key) H.bool (by simp (disch := (try simp only [sP]); omega) only [eV, k5]) (by simp (disch := (try simp only [sP]); omega) only [eV]) (dn (rT ?_)))
 rw [show (tx.contains key == tx.contains key) = true by simp]
 refine rD rfl (wN rfl) (r_pickT (by simp (disch := (try simp only [sP]); omega) only [eV]) (dn (rT ?_)))
 refine rD rfl (wN rfl) (rM (dn (rT ?_)))
 refine rD rfl (by rw [wS (b := true) rfl rfl (by simp (disch := (try simp only [sP]); omega) only [eV])]; rfl) (rM (dn (rT ?_)))
 refine rD rfl (by rw [wS (b := true) rfl rfl (by simp (disch := (try simp only [sP]); omega) only [eV])]; rfl) (rM (dn (rT ?_)))
 refine rD rfl (by rw [wS (b := true) rfl rfl (by simp (disch := (try simp only [sP]); omega) only [eV])]; rfl) (r_call' (args := #[.int .i16 key]) ?_ (c_in_ok H.n3 H.tShr (Nat.le_refl _) key W2) ?_)
 ·simp only [lM]
  simp (disch := (try simp only [sP]); omega) only [eV, k0]
 rintro v W6 ⟨rfl, hw⟩
 rw [hw]; clear hw
 refine dn (rT ?_)
 refine rD rfl (by rw [wS (b := true) rfl rfl (by simp (disch := (try simp only [sP]); omega) only [eV])]; rfl) (r_eqBool (b := sh.contains key) (c := sh.contains key) H.bool (by simp (disch := (try simp only [sP]); omega) only [eV, k6]) (by simp (disch := (try simp only [sP]); omega) only [eV]) (dn (rT ?_)))
 rw [show (sh.contains key == sh.contains key) = true by simp]
 refine rD rfl (wN rfl) (r_pickT (by simp (disch := (try simp only [sP]); omega) only [eV]) (dn (rT ?_)))
 refine rD rfl (wN rfl) (rA (dn (rT ?_)))
 refine runS_nil ?_
 refine vS (vT ?_)
 exact ⟨by simp only [dF]; exact hdA, .bool true, rO (by simp (disch := (try simp only [sP]); omega) only [eV]), rfl, hb2⟩
end
end Go.Km
namespace Go.Km
open Go Go.RowKit
attribute [local irreducible] vc rO_ runG runS runD
section
variable {P : Program} {E : Env}
def dcodeN (E : Env) (TP TU T : TypeId) (idx : Nat) (fs : Flds) : Code :=
 sq (rg [oMove (2 + fs.dn) (.tmp 0) TP, oNil (2 + fs.dn + 1) (.tmp (2 + fs.dn)), oField (2 + fs.dn + 2) TU (.tmp (2 + fs.dn + 1)) idx, oStore T (.tmp (2 + fs.dn + 2)) (.const (.pointer none))] :: fs.dc E TP TU 0 1 2 (2 + fs.dn + 3))
theorem c_dfltN {TP TU T : TypeId} {idx off : Nat} {fs : Flds} {FD : FuncId} {np nt : Nat} (ht : Text P FD np nt #[] (dcodeN E TP TU T idx fs)) (hnt : 2 + fs.dn + 3 + fs.dt ≤ nt) (hok : fs.okD P E TU 1 1 = true)
  (ho : fieldOff P TU idx = some (off + 1)) (hT : oneT P T = true) (hlt : off < fs.size) {b : Nat} {cs : List Value} {W : World} (hzo : cs[off]? = some (.pointer none)) (hl : cs.length = fs.size) (hc : Cells W b (0 + 1) cs) (hf : ∀ i, i < fs.size → Free W b (0 + 1 + i)) :
  CallsV P FD #[.pointer (some ⟨b, 0, none⟩)] W fun v w' => Eff (fun k i => k = b ∧ 0 + 1 ≤ i ∧ i < 0 + 1 + fs.size) W w' ∧ Cells w' b (0 + 1) (fs.over cs) := by
 refine CallsV.enter ht (by simp; omega) ?_
 intro a hsz hdf harg
 have e0 := harg 0 (.pointer (some ⟨b, 0, none⟩)) (by simp)
 unfold dcodeN
 have hfo : Free W b (0 + (off + 1)) := by
  have := hf off hlt
  rwa [show 0 + 1 + off = 0 + (off + 1) by omega] at this
 refine d_store (b := b) (o0 := 0) (off := off + 1) (n := 1) e0 ho hT rfl (by omega) (by omega) (by omega) hfo ?_
 intro A1 W1 a1 a2 a3 a4 a5
 have hc1 : Cells W1 b (0 + 1) cs := by
  intro i v hv
  by_cases hi : i = off
  ·subst hi
   rw [hzo] at hv
   simp only [Option.some.injEq] at hv
   subst hv
   have := a5 0 (.pointer none) rfl
   rwa [show 0 + (i + 1) + 0 = 0 + 1 + i by omega] at this
  ·exact a4.cellSome (hc i v hv) (by rintro ⟨_, h1, h2⟩; omega)
 have := Flds.dc_ok fs (E := E) (P := P) (TP := TP) (TU := TU) (s := 0) (idx := 1) (n := 2) (t := 2 + fs.dn + 3) (b := b) (o0 := 0) (off := 1) (cs := cs) (rest := []) (Q := Out P #[] fun v w' => Eff (fun k i => k = b ∧ 0 + 1 ≤ i ∧ i < 0 + 1 + fs.size) W w' ∧ Cells w' b (0 + 1) (fs.over cs)) (A := A1) (W := W1) hok (by rw [a3 0 (by omega)]; exact e0) (by omega) (by omega) (by rw [a1]; omega) hl hc1 (fun i hi => (hf i hi).eff a4)
 rw [List.append_nil] at this
 refine this ?_
 intro A' W' b1 b2 b3 b4 b5
 refine vN ?_
 exact ⟨by rw [b2, a2]; exact hdf, .tuple #[], by simp [results], (a4.mono (fun k i _ ⟨x, y, z⟩ => ⟨x, by omega, by omega⟩)).trans b4, b5⟩
theorem c_newPtrN_ok {m : Msg} {T : TypeId} {idx off : Nat} {f : FuncId} {np nt npd ntd : Nat} (ht : Text P f np nt #[.tmp 0] (c_newPtr m)) (hn : 3 ≤ nt) (hd : Text P m.FD npd ntd #[] (dcodeN E m.TP m.TU T idx m.fs)) (hnd : 2 + m.fs.dn + 3 + m.fs.dt ≤ ntd) (hok : m.fs.okD P E m.TU 1 1 = true)
  (ho : fieldOff P m.TU idx = some (off + 1)) (hT : oneT P T = true) (hlt : off < m.fs.size) (hzo : (m.fs.zc[off]?).map (fun v => match v with | .pointer none => true | _ => false) = some true)
  (hz : (zeroT P m.TU).map (·.cells.toList) = some (.int .i16 0 :: m.fs.zc)) : NewC P f m := by
 intro w
 have hzo : m.fs.zc[off]? = some (.pointer none) := by
  cases h : m.fs.zc[off]? with
  | none => rw [h] at hzo; cases hzo
  | some v =>
   rw [h] at hzo
   simp only [Option.map_some, Option.some.injEq] at hzo
   split at hzo
   ·rfl
   ·cases hzo
 obtain ⟨z, hz0, hzc⟩ : ∃ z, zeroT P m.TU = some z ∧ z.cells.toList = .int .i16 0 :: m.fs.zc := by
  cases h : zeroT P m.TU with
  | none => rw [h] at hz; cases hz
  | some z => rw [h] at hz; exact ⟨z, rfl, by simpa using hz⟩
 have hzl : z.cells.size = m.fs.size + 1 := by
  have := congrArg List.length hzc
  simpa [Flds.zc_len] using this
 refine CallsV.enter ht (by simp) ?_
 intro a hsz hdf harg
 unfold c_newPtr
 refine vX (rA (dn (vX ?_)))
 refine r_alloc hz0 ?_
 refine dn ?_
 have hb0 : Below w.heap.size w (w.alloc (.cells z.cells m.TU)) := (Below.refl w.heap.size w).alloc (o := .cells _ _) (Nat.le_refl _)
 have hfr : ∀ i, i < m.fs.size + 1 → Free (w.alloc (.cells z.cells m.TU)) w.heap.size i := fun i hi => free_new w _ m.TU (by omega)
 have hcz : Cells (w.alloc (.cells z.cells m.TU)) w.heap.size 0 (.int .i16 0 :: m.fs.zc) := by
  intro i v hv
  rw [Nat.zero_add]
  refine cells_new w _ m.TU ?_
  rw [← hzc] at hv
  simpa using hv
 have hz1 : w.heap.size < (w.alloc (.cells z.cells m.TU)).heap.size := by simp
 generalize w.alloc (.cells z.cells m.TU) = W at *
 generalize w.heap.size = b at *
 refine vX ?_
 refine r_call' (args := #[.pointer (some ⟨b, 0, none⟩)]) ?_ (c_dfltN (b := b) (cs := m.fs.zc) hd hnd hok ho hT hlt hzo (Flds.zc_len _) (hcz.dp (n := 1)) (fun i hi => by have := hfr (i + 1) (by omega); rwa [show 0 + 1 + i = i + 1 by omega])) ?_
 ·simp only [lM]
  simp (disch := (try simp only [sP]); omega) only [eV]
 rintro v W1 ⟨h1, h2⟩
 refine dn (vX (rA (dn (vS (vT ?_)))))
 refine ⟨by simp only [dF]; exact hdf, .pointer (some ⟨b, 0, none⟩), rO ?_, rfl, hb0.trans (h1.below (by omega) (by rintro k i hk ⟨h, _⟩; omega)), Nat.lt_of_lt_of_le hz1 h1.size, ?_, fun i hi => (hfr i hi).eff h1⟩
 ·simp (disch := (try simp only [sP]); omega) only [eV]
 ·rw [Flds.over_zc] at h2
  have h0 : Cells W1 b 0 [.int .i16 0] := (hcz.tk (n := 1)).eff h1 (by intro i hi ⟨_, h, _⟩; simp at hi; omega)
  exact h0.append h2
end
end Go.Km
