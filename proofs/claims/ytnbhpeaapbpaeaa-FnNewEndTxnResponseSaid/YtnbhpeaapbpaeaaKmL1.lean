/- The spec's messages: literals of fields. -/
import Derived.Test.YtnbhpeaapbpaeaaKmS23
set_option linter.unusedSimpArgs false
set_option linter.unusedVariables false
namespace Go.Km
open Go Go.RowKit
attribute [local irreducible] vc runOps runG runS runD

/-- A field, and the function that gives the fields within. -/
abbrev FE := SF × Option FuncId
/-- What a field's literal writes down. -/
def SF.parts : SF → Option Operand → List (Nat × Operand)
  | .mk kind fr to nul tag df el _, x => [(0, .const (.int .i64 kind))] ++ (if fr = 0 then [] else [(1, .const (.int .i64 fr))]) ++ [(2, .const (.int .i64 to)), (3, .const (.int .i64 nul)), (4, .const (.int .i64 tag))] ++
      (if df = 0 then [] else [(5, .const (.int .i64 df))]) ++ (if el = 0 then [] else [(6, .const (.int .i64 el))]) ++ (match x with | none => [] | some x => [(7, x)])
def feOps (E : Env) : List FE → Nat → List Oper
  | [], _ => []
  | (f, none) :: r, t => oBuild t E.tFld (f.parts none).toArray :: feOps E r (t + 1)
  | (f, some g) :: r, t => oCall (some t) g #[] #[] E.tFlds :: oBuild (t + 1) E.tFld (f.parts (some (.tmp t))).toArray :: feOps E r (t + 2)
def feSlots : List FE → Nat → List Nat
  | [], _ => []
  | (_, none) :: r, t => t :: feSlots r (t + 1)
  | (_, some _) :: r, t => (t + 1) :: feSlots r (t + 2)
def feT : List FE → Nat → Nat
  | [], t => t
  | (_, none) :: r, t => feT r (t + 1)
  | (_, some _) :: r, t => feT r (t + 2)
/-- The slice of what lies in these slots. -/
def oSliceOf (E : Env) (d : Nat) (ss : List Nat) : Oper := oBuildSlice d E.tFlds ss.length (ss.zipIdx.map fun x => (x.2, Operand.tmp x.1)).toArray
/-- A function that gives fields. -/
def c_lit (E : Env) (l : List FE) : Code :=
  sq [rg [oAssign 0 (.const (.slice none 0 0)) E.tFlds], rg (feOps E l 1 ++ [oSliceOf E (feT l 1) (feSlots l 1), oAssign 0 (.tmp (feT l 1)) E.tFlds]), .ret]
/-- A function that gives a message. -/
def c_spec (E : Env) (l : List FE) (flex : Int) : Code :=
  let T := feT l 1
  sq [rg [oAlloc 0 E.tMsg], rg (feOps E l 1 ++ [oSliceOf E T (feSlots l 1), oBuild (T + 1) E.tMsg #[(1, .const (.int .i64 flex)), (0, .tmp T)], oStore E.tMsg (.tmp 0) (.tmp (T + 1))]), .ret]
def toSFs : List FE → SFs
  | [] => .nil
  | f :: r => .cons f.1 (toSFs r)
theorem toSFs_len : ∀ l, (toSFs l).len = l.length
  | [] => rfl
  | f :: r => by simp [toSFs, SFs.len, toSFs_len r]
/-- What such a function must give. -/
def LitC (P : Program) (g : FuncId) (fs : SFs) : Prop := ∀ w, CallsV P g #[] w fun v w' => SlF w' w'.heap.size v fs ∧ Below w.heap.size w w'
/-- The fields within come from functions that give them. -/
def SubsC (P : Program) (l : List FE) : Prop := ∀ f ∈ l, match f.2 with | none => f.1.sub = .nil | some g => LitC P g f.1.sub
def FVals (A : Act) (W : World) : List Nat → List FE → Prop
  | [], [] => True
  | s :: ss, f :: fs => (∃ cells : List Value, A.eval (.tmp s) = .agg cells.toArray ∧ f.1.Rep W W.heap.size cells) ∧ FVals A W ss fs
  | _, _ => False

theorem fill_fld (kind fr to nul tag df el : Int) (sub : SFs) (ρ : Operand → Value) (hρ : ∀ v, ρ (.const v) = v) (x : Option Operand) (sv : Value) (hx : match x with | none => sv = .slice none 0 0 | some x => ρ x = sv) (h1 : sv.cells = #[sv]) :
    Instr.fill (([(0, 1), (1, 1), (2, 1), (3, 1), (4, 1), (5, 1), (6, 1), (7, 1)] : List (Nat × Nat)).toArray[·]?) #[.int .i64 0, .int .i64 0, .int .i64 0, .int .i64 0, .int .i64 0, .int .i64 0, .int .i64 0, .slice none 0 0]
      ((((SF.mk kind fr to nul tag df el sub).parts x).toArray.map fun (y : Nat × Operand) => (y.1, ρ y.2))).toList = some #[.int .i64 kind, .int .i64 fr, .int .i64 to, .int .i64 nul, .int .i64 tag, .int .i64 df, .int .i64 el, sv] := by
  have hc : ∀ n : Int, (Value.int .i64 n).cells = #[.int .i64 n] := fun _ => rfl
  cases x with
  | none =>
    simp only at hx
    subst hx
    by_cases h1 : fr = 0 <;> by_cases h2 : df = 0 <;> by_cases h3 : el = 0 <;> simp [SF.parts, h1, h2, h3, Instr.fill, hρ, hc]
  | some x =>
    simp only at hx
    by_cases h4 : fr = 0 <;> by_cases h2 : df = 0 <;> by_cases h3 : el = 0 <;> simp [SF.parts, h4, h2, h3, Instr.fill, hρ, hc, hx, h1]

theorem FVals.keep {A A' : Act} {W W' : World} (hW : Below W.heap.size W W') : ∀ {ss : List Nat} {l : List FE}, (∀ s ∈ ss, A'.eval (.tmp s) = A.eval (.tmp s)) → FVals A W ss l → FVals A' W' ss l
  | [], [], _, _ => trivial
  | s :: ss, f :: l, hs, ⟨⟨c, h1, h2⟩, h3⟩ => ⟨⟨c, by rw [hs s (by simp)]; exact h1, (h2.below hW).mono hW.size⟩, FVals.keep hW (fun s h => hs s (by simp [h])) h3⟩
  | [], _ :: _, _, h => h.elim
  | _ :: _, [], _, h => h.elim
theorem feSlots_ge : ∀ (l : List FE) (t : Nat), ∀ s ∈ feSlots l t, t ≤ s ∧ s < feT l t
  | [], t, s, h => by simp [feSlots] at h
  | (f, none) :: r, t, s, h => by
    have hm : ∀ (l : List FE) (t : Nat), t ≤ feT l t := by
      intro l
      induction l with
      | nil => exact fun t => Nat.le_refl _
      | cons x r ih => intro t; rcases x with ⟨f, _ | g⟩ <;> simp only [feT] <;> first | (have := ih (t + 1); omega) | (have := ih (t + 2); omega)
    simp only [feSlots, List.mem_cons] at h
    simp only [feT]
    rcases h with rfl | h
    · have := hm r (s + 1); omega
    · have := feSlots_ge r (t + 1) s h; omega
  | (f, some g) :: r, t, s, h => by
    have hm : ∀ (l : List FE) (t : Nat), t ≤ feT l t := by
      intro l
      induction l with
      | nil => exact fun t => Nat.le_refl _
      | cons x r ih => intro t; rcases x with ⟨f, _ | g⟩ <;> simp only [feT] <;> first | (have := ih (t + 1); omega) | (have := ih (t + 2); omega)
    simp only [feSlots, List.mem_cons] at h
    simp only [feT]
    rcases h with rfl | h
    · have := hm r (t + 2); omega
    · have := feSlots_ge r (t + 2) s h; omega
theorem feT_ge (l : List FE) (t : Nat) : t ≤ feT l t := by
  induction l generalizing t with
  | nil => exact Nat.le_refl _
  | cons x r ih => rcases x with ⟨f, _ | g⟩ <;> simp only [feT] <;> first | (have := ih (t + 1); omega) | (have := ih (t + 2); omega)
theorem feSlots_len : ∀ (l : List FE) (t : Nat), (feSlots l t).length = l.length
  | [], t => rfl
  | (f, none) :: r, t => by simp [feSlots, feSlots_len r]
  | (f, some g) :: r, t => by simp [feSlots, feSlots_len r]

section
variable {P : Program} {E : Env}
theorem fe_run (HL : SLay P E) : ∀ (l : List FE) {t : Nat} {rest : List Oper} {Q : Exit → Act → World → Prop} {A : Act} {W : World}, SubsC P l → feT l t ≤ A.tmps.size →
    (∀ A' W', A'.tmps.size = A.tmps.size → A'.defers = A.defers → (∀ k : Nat, k < t → A'.eval (.tmp k) = A.eval (.tmp k)) → Below W.heap.size W W' → FVals A' W' (feSlots l t) l → runOps P Q rest A' W') → runOps P Q (feOps E l t ++ rest) A W
  | [], t, rest, Q, A, W, _, _, h => h A W rfl rfl (fun _ _ => rfl) (Below.refl _ _) trivial
  | (.mk kind fr to nul tag df el sub, none) :: r, t, rest, Q, A, W, hS, ht, h => by
    have hs := hS _ (List.mem_cons_self ..)
    simp only [SF.sub] at hs
    have hTr := feT_ge r (t + 1)
    simp only [feT] at ht
    refine r_build (cells := #[.int .i64 kind, .int .i64 fr, .int .i64 to, .int .i64 nul, .int .i64 tag, .int .i64 df, .int .i64 el, .slice none 0 0]) HL.fld (fill_fld kind fr to nul tag df el sub A.eval (fun _ => rfl) none _ rfl rfl) ?_
    refine fe_run HL r (fun f hf => hS f (List.mem_cons_of_mem _ hf)) (by simp only [size_put]; exact ht) ?_
    intro A' W' a1 a2 a3 a4 a5
    refine h A' W' (by rw [a1]; simp only [size_put]) (by rw [a2]; simp only [defers_put]) (fun k hk => ?_) a4 ⟨⟨[.int .i64 kind, .int .i64 fr, .int .i64 to, .int .i64 nul, .int .i64 tag, .int .i64 df, .int .i64 el, .slice none 0 0], ?_, ?_⟩, a5⟩
    · rw [a3 k (by omega)]
      simp (disch := (first | omega | (simp only [sP]; omega))) only [eS, eN, eC]
    · rw [a3 t (by omega)]
      simp (disch := (first | omega | (simp only [sP]; omega))) only [eS, eN, eC]
    · refine ⟨_, rfl, .inl ⟨rfl, ?_⟩⟩
      rw [hs]
      rfl
  | (.mk kind fr to nul tag df el sub, some g) :: r, t, rest, Q, A, W, hS, ht, h => by
    have hs := hS _ (List.mem_cons_self ..)
    simp only [SF.sub] at hs
    have hTr := feT_ge r (t + 2)
    simp only [feT] at ht
    refine r_call' (args := #[]) (by simp) (hs W) ?_
    rintro v W1 ⟨hsl, hb1⟩
    have hv1 : v.cells = #[v] := by rcases hsl with ⟨rfl, _⟩ | ⟨q, o, cap, rfl, _⟩ <;> rfl
    refine r_build (cells := #[.int .i64 kind, .int .i64 fr, .int .i64 to, .int .i64 nul, .int .i64 tag, .int .i64 df, .int .i64 el, v]) HL.fld (fill_fld kind fr to nul tag df el sub (A.put (some t) v).eval (fun _ => rfl) (some (.tmp t)) v (by simp (disch := (first | omega | (simp only [sP]; omega))) only [eS, eN, eC]) hv1) ?_
    refine fe_run HL r (fun f hf => hS f (List.mem_cons_of_mem _ hf)) (by simp only [size_put]; exact ht) ?_
    intro A' W' a1 a2 a3 a4 a5
    refine h A' W' (by rw [a1]; simp only [size_put]) (by rw [a2]; simp only [defers_put]) (fun k hk => ?_) (hb1.trans (a4.mono hb1.size)) ⟨⟨[.int .i64 kind, .int .i64 fr, .int .i64 to, .int .i64 nul, .int .i64 tag, .int .i64 df, .int .i64 el, v], ?_, ?_⟩, a5⟩
    · rw [a3 k (by omega)]
      simp (disch := (first | omega | (simp only [sP]; omega))) only [eS, eN, eC]
    · rw [a3 (t + 1) (by omega)]
      simp (disch := (first | omega | (simp only [sP]; omega))) only [eS, eN, eC]
    · refine ⟨v, rfl, ?_⟩
      exact (hsl.below a4).mono a4.size
end
end Go.Km
