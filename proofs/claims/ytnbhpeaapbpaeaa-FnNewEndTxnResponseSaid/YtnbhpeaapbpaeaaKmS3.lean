/- The trees and the fields of the spec in memory; has, null, whole, things, at, Same. -/
import Derived.Test.YtnbhpeaapbpaeaaKmS2
set_option linter.unusedSimpArgs false
set_option linter.unusedVariables false
namespace Go.Km
open Go Go.RowKit
attribute [local irreducible] vc runOps runG runS runD

mutual
/-- What a message or a field says, as the spec has it: a number, octets, null?, the things, unknown tags. -/
inductive Tr where
  | mk (n : Int) (s : List UInt8) (nl : Bool) (l : Trs) (u : List (Nat × List UInt8))
inductive Trs where
  | nil
  | cons (t : Tr) (r : Trs)
end
mutual
/-- A field of the spec: Kind, From, To, Null, Tag, Def, Of, Sub. -/
inductive SF where
  | mk (kind fr to nul tag df el : Int) (sub : SFs)
inductive SFs where
  | nil
  | cons (f : SF) (r : SFs)
end
def Trs.len : Trs → Nat
  | .nil => 0
  | .cons _ r => r.len + 1
def Trs.get : Trs → Nat → Option Tr
  | .nil, _ => none
  | .cons t _, 0 => some t
  | .cons _ r, i + 1 => r.get i
def SFs.len : SFs → Nat
  | .nil => 0
  | .cons _ r => r.len + 1
def SFs.get : SFs → Nat → Option SF
  | .nil, _ => none
  | .cons t _, 0 => some t
  | .cons _ r, i + 1 => r.get i
def Tr.zero : Tr := .mk 0 [] false .nil []
def Tr.at (t : Tr) (i : Nat) : Tr := match t with | .mk _ _ _ l _ => (l.get i).getD .zero

/-- A slice of octets below U. -/
def OctsB (w : World) (U : Nat) (v : Value) (l : List UInt8) : Prop :=
  (v = .slice none 0 0 ∧ l = []) ∨ ∃ q o cap, v = .slice (some ⟨q, o, none⟩) l.length cap ∧ l.length ≤ cap ∧ q < U ∧ Cells w q o (l.map bv)
/-- A slice of unknown tags below U: two cells each. -/
def UnkB (w : World) (U : Nat) (v : Value) (u : List (Nat × List UInt8)) : Prop :=
  (v = .slice none 0 0 ∧ u = []) ∨ ∃ q o cap, v = .slice (some ⟨q, o, none⟩) u.length cap ∧ u.length ≤ cap ∧ q < U ∧
    ∀ (i : Nat) (x : Nat × List UInt8), u[i]? = some x → ∃ sv, x.1 < 4294967296 ∧ Cells w q (o + i * 2) [.int .u32 x.1, sv] ∧ OctsB w U sv x.2
mutual
def Tr.Rep (w : World) (U : Nat) : Tr → List Value → Prop
  | .mk n s nl l u, cs => ∃ sv lv uv, cs = [.int .i64 n, sv, .bool nl, lv, uv] ∧ OctsB w U sv s ∧ UnkB w U uv u ∧
      ((lv = .slice none 0 0 ∧ l.len = 0) ∨ ∃ q o cap, lv = .slice (some ⟨q, o, none⟩) l.len cap ∧ l.len ≤ cap ∧ q < U ∧ l.Rep w U q o)
def Trs.Rep (w : World) (U q : Nat) : Trs → Nat → Prop
  | .nil, _ => True
  | .cons t r, o => (∃ c, Cells w q o c ∧ t.Rep w U c) ∧ r.Rep w U q (o + 5)
end
mutual
def SF.Rep (w : World) (U : Nat) : SF → List Value → Prop
  | .mk kind fr to nul tag df el sub, cs => ∃ sv, cs = [.int .i64 kind, .int .i64 fr, .int .i64 to, .int .i64 nul, .int .i64 tag, .int .i64 df, .int .i64 el, sv] ∧
      ((sv = .slice none 0 0 ∧ sub.len = 0) ∨ ∃ q o cap, sv = .slice (some ⟨q, o, none⟩) sub.len cap ∧ sub.len ≤ cap ∧ q < U ∧ sub.Rep w U q o)
def SFs.Rep (w : World) (U q : Nat) : SFs → Nat → Prop
  | .nil, _ => True
  | .cons f r, o => (∃ c, Cells w q o c ∧ f.Rep w U c) ∧ r.Rep w U q (o + 8)
end
theorem Tr.Rep.len {w : World} {U : Nat} {t : Tr} {cs : List Value} (h : t.Rep w U cs) : cs.length = 5 := by
  cases t with
  | mk n s nl l u => obtain ⟨_, _, _, rfl, _⟩ := h; rfl
theorem SF.Rep.len {w : World} {U : Nat} {f : SF} {cs : List Value} (h : f.Rep w U cs) : cs.length = 8 := by
  cases f with
  | mk => obtain ⟨_, rfl, _⟩ := h; rfl
theorem Trs.Rep.get {w : World} {U q : Nat} : ∀ {l : Trs} {o : Nat}, l.Rep w U q o → ∀ {i : Nat} {t : Tr}, l.get i = some t → ∃ c, Cells w q (o + i * 5) c ∧ t.Rep w U c
  | .nil, _, _, _, _, h => by cases h
  | .cons t r, o, ⟨h1, h2⟩, i, u, h => by
    cases i with
    | zero =>
      simp only [Trs.get, Option.some.injEq] at h
      subst h
      simpa using h1
    | succ i =>
      obtain ⟨c, h3, h4⟩ := Trs.Rep.get (l := r) h2 (i := i) h
      exact ⟨c, by rwa [show o + 5 + i * 5 = o + (i + 1) * 5 by omega] at h3, h4⟩
theorem SFs.Rep.get {w : World} {U q : Nat} : ∀ {l : SFs} {o : Nat}, l.Rep w U q o → ∀ {i : Nat} {t : SF}, l.get i = some t → ∃ c, Cells w q (o + i * 8) c ∧ t.Rep w U c
  | .nil, _, _, _, _, h => by cases h
  | .cons t r, o, ⟨h1, h2⟩, i, u, h => by
    cases i with
    | zero =>
      simp only [SFs.get, Option.some.injEq] at h
      subst h
      simpa using h1
    | succ i =>
      obtain ⟨c, h3, h4⟩ := SFs.Rep.get (l := r) h2 (i := i) h
      exact ⟨c, by rwa [show o + 8 + i * 8 = o + (i + 1) * 8 by omega] at h3, h4⟩
theorem Trs.get_lt : ∀ (l : Trs) (i : Nat), i < l.len → ∃ t, l.get i = some t
  | .nil, i, h => by simp [Trs.len] at h
  | .cons t r, 0, _ => ⟨t, rfl⟩
  | .cons t r, i + 1, h => Trs.get_lt r i (by simp [Trs.len] at h; omega)
theorem Trs.get_ge : ∀ (l : Trs) (i : Nat), l.len ≤ i → l.get i = none
  | .nil, i, h => rfl
  | .cons t r, 0, h => by simp [Trs.len] at h
  | .cons t r, i + 1, h => Trs.get_ge r i (by simp [Trs.len] at h; omega)
theorem SFs.get_lt : ∀ (l : SFs) (i : Nat), i < l.len → ∃ t, l.get i = some t
  | .nil, i, h => by simp [SFs.len] at h
  | .cons t r, 0, _ => ⟨t, rfl⟩
  | .cons t r, i + 1, h => SFs.get_lt r i (by simp [SFs.len] at h; omega)
/-! what is below U stays, where the world below U stays -/
theorem OctsB.below {w w' : World} {U : Nat} {v : Value} {l : List UInt8} (h : OctsB w U v l) (hw : Below U w w') : OctsB w' U v l := by
  rcases h with h | ⟨q, o, cap, h1, h2, h3, h4⟩
  · exact .inl h
  · exact .inr ⟨q, o, cap, h1, h2, h3, h4.below hw h3⟩
theorem UnkB.below {w w' : World} {U : Nat} {v : Value} {u : List (Nat × List UInt8)} (h : UnkB w U v u) (hw : Below U w w') : UnkB w' U v u := by
  rcases h with h | ⟨q, o, cap, h1, h2, h3, h4⟩
  · exact .inl h
  · refine .inr ⟨q, o, cap, h1, h2, h3, fun i x hx => ?_⟩
    obtain ⟨sv, h0, h5, h6⟩ := h4 i x hx
    exact ⟨sv, h0, h5.below hw h3, h6.below hw⟩
mutual
theorem Tr.Rep.below {w w' : World} {U : Nat} (hw : Below U w w') : ∀ {t : Tr} {cs : List Value}, t.Rep w U cs → t.Rep w' U cs
  | .mk n s nl l u, cs, ⟨sv, lv, uv, h1, h2, h3, h4⟩ => by
    refine ⟨sv, lv, uv, h1, h2.below hw, h3.below hw, ?_⟩
    rcases h4 with h4 | ⟨q, o, cap, h5, h6, h7, h8⟩
    · exact .inl h4
    · exact .inr ⟨q, o, cap, h5, h6, h7, Trs.Rep.below hw h7 h8⟩
theorem Trs.Rep.below {w w' : World} {U q : Nat} (hw : Below U w w') (hq : q < U) : ∀ {l : Trs} {o : Nat}, l.Rep w U q o → l.Rep w' U q o
  | .nil, _, _ => trivial
  | .cons t r, o, ⟨⟨c, h1, h2⟩, h3⟩ => ⟨⟨c, h1.below hw hq, Tr.Rep.below hw h2⟩, Trs.Rep.below hw hq h3⟩
end
mutual
theorem SF.Rep.below {w w' : World} {U : Nat} (hw : Below U w w') : ∀ {t : SF} {cs : List Value}, t.Rep w U cs → t.Rep w' U cs
  | .mk kind fr to nul tag df el sub, cs, ⟨sv, h1, h4⟩ => by
    refine ⟨sv, h1, ?_⟩
    rcases h4 with h4 | ⟨q, o, cap, h5, h6, h7, h8⟩
    · exact .inl h4
    · exact .inr ⟨q, o, cap, h5, h6, h7, SFs.Rep.below hw h7 h8⟩
theorem SFs.Rep.below {w w' : World} {U q : Nat} (hw : Below U w w') (hq : q < U) : ∀ {l : SFs} {o : Nat}, l.Rep w U q o → l.Rep w' U q o
  | .nil, _, _ => trivial
  | .cons t r, o, ⟨⟨c, h1, h2⟩, h3⟩ => ⟨⟨c, h1.below hw hq, SF.Rep.below hw h2⟩, SFs.Rep.below hw hq h3⟩
end

section
variable {P : Program} {a : Act} {w : World} {r : List Oper} {Q : Exit → Act → World → Prop}
theorem r_min {d x y t ty p af g k m n} (hx : a.eval x = .int k m) (hy : a.eval y = .int k n) (h : runOps P Q r (a.put (some d) (.int k (if n < m then n else m))) w) :
    runOps P Q (⟨some d, .call { callee := .builtin .min, args := #[x, y], argTypes := t }, ty, p, af, g⟩ :: r) a w := by
  refine st ?_
  have hr : (Builtin.min_ t ty #[a.eval x, a.eval y]).run P w = .ok (.int k (if n < m then n else m)) w := by
    rw [hx, hy]
    simp [Builtin.min_, Builtin.min2]
  simp only [Oper.wp, execOp, resolve, invoke, builtin, Sem.run_bind, Sem.run_pure, Result.andThen_ok, List.map_toArray, List.map_cons, List.map_nil, hr, Oper.upon_value]
  exact h
end

/-- Field f of the struct type lies f cells from its beginning. -/
def offs (P : Program) (t : TypeId) (n : Nat) : Bool := (List.range n).all fun i => fieldOff P t i == some i
theorem offs_inv {P : Program} {t : TypeId} {n i : Nat} (h : offs P t n = true) (hi : i < n) : fieldOff P t i = some i := by
  have := List.all_eq_true.1 h i (List.mem_range.2 hi)
  simpa using this

def SF.has : SF → Int → Bool
  | .mk _ fr to _ _ _ _ _, v => decide (fr ≤ v) && (decide (to < 0) || decide (v ≤ to))
def SF.isNull : SF → Int → Tr → Bool
  | .mk _ _ _ nul _ _ _ _, v, .mk _ _ nl _ _ => nl && decide (nul ≥ 0) && decide (v ≥ nul)

section
variable {P : Program} {E : Env} {w : World} {U : Nat}

/-- The facts on the types of the spec. -/
structure SEnv (P : Program) (E : Env) : Prop where
  row : rowB P E.tBytes E.tU8 1 = true
  u8 : intT P E.tU8 = some .u8
  int : intT P E.tInt = some .i64
  i64 : intT P E.tI64 = some .i64
  u32 : intT P E.tU32 = some .u32
  u64 : intT P E.tU64 = some .u64
  oInt : oneT P E.tInt = true
  oI64 : oneT P E.tI64 = true
  oU32 : oneT P E.tU32 = true
  oU8 : oneT P E.tU8 = true
  oBool : oneT P E.tBool = true
  oBytes : oneT P E.tBytes = true
  oTrees : oneT P E.tTrees = true
  oFlds : oneT P E.tFlds = true
  oUnks : oneT P E.tUnks = true
  fFld : offs P E.tFld 8 = true
  fTree : offs P E.tTree 5 = true
  fUnk : offs P E.tUnk 2 = true
  aFld : aggT P E.tFld = some 8
  aTree : aggT P E.tTree = some 5
  aUnk : aggT P E.tUnk = some 2
  sFlds : sliceT P E.tFlds = some (E.tFld, 8)
  rTrees : rowB P E.tTrees E.tTree 5 = true
  rUnks : rowB P E.tUnks E.tUnk 2 = true

theorem one_i64 (n : Int) : (Value.int .i64 n).oneCell' = true := rfl

theorem s_has (H : SEnv P E) (ht : Text P E.sHas 2 20 #[.tmp 4] (c_sHas E)) {f : SF} {cs : List Value} {v : Int} (hr : f.Rep w U cs) (hU : U ≤ w.heap.size) :
    CallsV P E.sHas #[.agg cs.toArray, .int .i64 v] w fun r w' => r = .bool (f.has v) ∧ Below U w w' := by
  refine CallsV.enter ht (by simp) ?_
  intro a hsz hdf harg
  have e0 := harg 0 (.agg cs.toArray) (by simp)
  have e1 := harg 1 (.int .i64 v) (by simp)
  cases f with
  | mk kind fr to nul tag df el sub =>
  obtain ⟨sv, rfl, _⟩ := hr
  unfold c_sHas
  refine vc_sq (vc_rg (by simp) ?_)
  refine r_box (v := .agg [Value.int .i64 kind, .int .i64 fr, .int .i64 to, .int .i64 nul, .int .i64 tag, .int .i64 df, .int .i64 el, sv].toArray) (by simp (disch := (first | omega | (simp only [sP]; omega))) only [eS, eN, eC, e0]) ?_
  refine r_assign ?_
  refine dn ?_
  have hbl : Below U w (w.alloc (.cells (Value.agg [Value.int .i64 kind, .int .i64 fr, .int .i64 to, .int .i64 nul, .int .i64 tag, .int .i64 df, .int .i64 el, sv].toArray).cells E.tFld)) := (Below.refl U w).alloc (o := .cells _ _) hU
  have c1 := cells_new w (Value.agg [Value.int .i64 kind, .int .i64 fr, .int .i64 to, .int .i64 nul, .int .i64 tag, .int .i64 df, .int .i64 el, sv].toArray).cells E.tFld (i := 1) (v := .int .i64 fr) rfl
  have c2 := cells_new w (Value.agg [Value.int .i64 kind, .int .i64 fr, .int .i64 to, .int .i64 nul, .int .i64 tag, .int .i64 df, .int .i64 el, sv].toArray).cells E.tFld (i := 2) (v := .int .i64 to) rfl
  refine vc_sq (vc_rgS [0, 1, 2, 3, 4, 5, 6, 7, 8, 9, 10, 11, 12, 13, 14, 15] rfl ?_)
  have fin : ∀ (A : Act) (b : Bool), A.defers = [] → A.eval (.tmp 4) = .bool b → b = (SF.mk kind fr to nul tag df el sub).has v → vc P (sq [.ret]) (Out P #[.tmp 4] fun r w' => r = .bool ((SF.mk kind fr to nul tag df el sub).has v) ∧ Below U w w') A (w.alloc (.cells (Value.agg [Value.int .i64 kind, .int .i64 fr, .int .i64 to, .int .i64 nul, .int .i64 tag, .int .i64 df, .int .i64 el, sv].toArray).cells E.tFld)) := by
    intro A b hd h4 hb
    refine vc_ret ?_
    exact ⟨hd, .bool b, results_one h4, by rw [hb], hbl⟩
  refine runS_do rfl (wants_none rfl) (r_field (b := w.heap.size) (o := 0) (by simp (disch := (first | omega | (simp only [sP]; omega))) only [eS, eN, eC]) (offs_inv H.fFld (by decide)) (dn (runS_then ?_)))
  refine runS_do rfl (wants_none rfl) (r_load (b := w.heap.size) (o := 1) (v := .int .i64 fr) (by (try simp (disch := (first | omega | (simp only [sP]; omega))) only [eS, eN, eC]) <;> (first | rfl | assumption)) H.oInt c1 (dn (runS_then ?_)))
  (refine runS_do rfl (wants_none rfl) ?_; refine r_move ?_; refine dn (runS_then ?_))
  refine runS_do rfl (wants_none rfl) (r_leq (k := .i64) (m := fr) (n := v) (by simp (disch := (first | omega | (simp only [sP]; omega))) only [eS, eN, eC]) (by simp (disch := (first | omega | (simp only [sP]; omega))) only [eS, eN, eC, e1]) (dn (runS_then ?_)))
  (refine runS_do rfl (wants_none rfl) ?_; refine r_move ?_; refine dn (runS_then ?_))
  by_cases h1 : fr ≤ v
  · have d1 : decide (fr ≤ v) = true := by simpa using h1
    rw [d1]
    refine runS_do rfl (by rw [wants_some (b := true) rfl rfl (by (try simp (disch := (first | omega | (simp only [sP]; omega))) only [eS, eN, eC]) <;> (first | rfl | assumption))]; rfl) (r_field (b := w.heap.size) (o := 0) (by simp (disch := (first | omega | (simp only [sP]; omega))) only [eS, eN, eC]) (offs_inv H.fFld (by decide)) (dn (runS_then ?_)))
    refine runS_do rfl (by rw [wants_some (b := true) rfl rfl (by (try simp (disch := (first | omega | (simp only [sP]; omega))) only [eS, eN, eC]) <;> (first | rfl | assumption))]; rfl) (r_load (b := w.heap.size) (o := 2) (v := .int .i64 to) (by (try simp (disch := (first | omega | (simp only [sP]; omega))) only [eS, eN, eC]) <;> (first | rfl | assumption)) H.oInt c2 (dn (runS_then ?_)))
    refine runS_do rfl (by rw [wants_some (b := true) rfl rfl (by (try simp (disch := (first | omega | (simp only [sP]; omega))) only [eS, eN, eC]) <;> (first | rfl | assumption))]; rfl) (r_lss (k := .i64) (m := to) (n := 0) (by simp (disch := (first | omega | (simp only [sP]; omega))) only [eS, eN, eC]) rfl (dn (runS_then ?_)))
    (refine runS_do rfl (by rw [wants_some (b := true) rfl rfl (by (try simp (disch := (first | omega | (simp only [sP]; omega))) only [eS, eN, eC]) <;> (first | rfl | assumption))]; rfl) ?_; refine r_move ?_; refine dn (runS_then ?_))
    by_cases h2 : to < 0
    · have d2 : decide (to < 0) = true := by simpa using h2
      rw [d2]
      (refine runS_no rfl (by rw [wants_some (b := true) rfl rfl (by (try simp (disch := (first | omega | (simp only [sP]; omega))) only [eS, eN, eC]) <;> (first | rfl | assumption))]; rfl) ?_)
      (refine runS_no rfl (by rw [wants_some (b := true) rfl rfl (by (try simp (disch := (first | omega | (simp only [sP]; omega))) only [eS, eN, eC]) <;> (first | rfl | assumption))]; rfl) ?_)
      (refine runS_no rfl (by rw [wants_some (b := true) rfl rfl (by (try simp (disch := (first | omega | (simp only [sP]; omega))) only [eS, eN, eC]) <;> (first | rfl | assumption))]; rfl) ?_)
      (refine runS_no rfl (by rw [wants_some (b := true) rfl rfl (by (try simp (disch := (first | omega | (simp only [sP]; omega))) only [eS, eN, eC]) <;> (first | rfl | assumption))]; rfl) ?_)
      (refine runS_do rfl (by rw [wants_some (b := true) rfl rfl (by (try simp (disch := (first | omega | (simp only [sP]; omega))) only [eS, eN, eC]) <;> (first | rfl | assumption))]; rfl) ?_; (refine r_pickT ?_ ?_; (try simp (disch := (first | omega | (simp only [sP]; omega))) only [eS, eN, eC]) <;> (first | rfl | assumption)); refine dn (runS_then ?_))
      (refine runS_do rfl (wants_none rfl) ?_; (refine r_pickT ?_ ?_; (try simp (disch := (first | omega | (simp only [sP]; omega))) only [eS, eN, eC]) <;> (first | rfl | assumption)); refine dn (runS_then ?_))
      (refine runS_do rfl (wants_none rfl) ?_; refine r_assign ?_; refine dn (runS_then ?_))
      refine runS_nil ?_
      exact fin _ true (by simp only [defers_put]; exact hdf) (by (try simp (disch := (first | omega | (simp only [sP]; omega))) only [eS, eN, eC]) <;> (first | rfl | assumption)) (by simp [SF.has, h1, h2])
    · have d2 : decide (to < 0) = false := by simpa using h2
      rw [d2]
      (refine runS_do rfl (by rw [wants_some (b := false) rfl rfl (by (try simp (disch := (first | omega | (simp only [sP]; omega))) only [eS, eN, eC]) <;> (first | rfl | assumption))]; rfl) ?_; refine r_move ?_; refine dn (runS_then ?_))
      refine runS_do rfl (by rw [wants_some (b := false) rfl rfl (by (try simp (disch := (first | omega | (simp only [sP]; omega))) only [eS, eN, eC]) <;> (first | rfl | assumption))]; rfl) (r_field (b := w.heap.size) (o := 0) (by simp (disch := (first | omega | (simp only [sP]; omega))) only [eS, eN, eC]) (offs_inv H.fFld (by decide)) (dn (runS_then ?_)))
      refine runS_do rfl (by rw [wants_some (b := false) rfl rfl (by (try simp (disch := (first | omega | (simp only [sP]; omega))) only [eS, eN, eC]) <;> (first | rfl | assumption))]; rfl) (r_load (b := w.heap.size) (o := 2) (v := .int .i64 to) (by (try simp (disch := (first | omega | (simp only [sP]; omega))) only [eS, eN, eC]) <;> (first | rfl | assumption)) H.oInt c2 (dn (runS_then ?_)))
      refine runS_do rfl (by rw [wants_some (b := false) rfl rfl (by (try simp (disch := (first | omega | (simp only [sP]; omega))) only [eS, eN, eC]) <;> (first | rfl | assumption))]; rfl) (r_leq (k := .i64) (m := v) (n := to) (by simp (disch := (first | omega | (simp only [sP]; omega))) only [eS, eN, eC, e1]) (by simp (disch := (first | omega | (simp only [sP]; omega))) only [eS, eN, eC]) (dn (runS_then ?_)))
      (refine runS_do rfl (by rw [wants_some (b := true) rfl rfl (by (try simp (disch := (first | omega | (simp only [sP]; omega))) only [eS, eN, eC]) <;> (first | rfl | assumption))]; rfl) ?_; (refine r_pickF ?_ ?_; (try simp (disch := (first | omega | (simp only [sP]; omega))) only [eS, eN, eC]) <;> (first | rfl | assumption)); refine dn (runS_then ?_))
      (refine runS_do rfl (wants_none rfl) ?_; (refine r_pickT ?_ ?_; (try simp (disch := (first | omega | (simp only [sP]; omega))) only [eS, eN, eC]) <;> (first | rfl | assumption)); refine dn (runS_then ?_))
      (refine runS_do rfl (wants_none rfl) ?_; refine r_assign ?_; refine dn (runS_then ?_))
      refine runS_nil ?_
      exact fin _ (decide (v ≤ to)) (by simp only [defers_put]; exact hdf) (by (try simp (disch := (first | omega | (simp only [sP]; omega))) only [eS, eN, eC]) <;> (first | rfl | assumption)) (by simp [SF.has, h1, h2])
  · have d1 : decide (fr ≤ v) = false := by simpa using h1
    rw [d1]
    (refine runS_no rfl (by rw [wants_some (b := false) rfl rfl (by (try simp (disch := (first | omega | (simp only [sP]; omega))) only [eS, eN, eC]) <;> (first | rfl | assumption))]; rfl) ?_)
    (refine runS_no rfl (by rw [wants_some (b := false) rfl rfl (by (try simp (disch := (first | omega | (simp only [sP]; omega))) only [eS, eN, eC]) <;> (first | rfl | assumption))]; rfl) ?_)
    (refine runS_no rfl (by rw [wants_some (b := false) rfl rfl (by (try simp (disch := (first | omega | (simp only [sP]; omega))) only [eS, eN, eC]) <;> (first | rfl | assumption))]; rfl) ?_)
    (refine runS_no rfl (by rw [wants_some (b := false) rfl rfl (by (try simp (disch := (first | omega | (simp only [sP]; omega))) only [eS, eN, eC]) <;> (first | rfl | assumption))]; rfl) ?_)
    (refine runS_no rfl (wants_undef rfl rfl (by (try simp (disch := (first | omega | (simp only [sP]; omega))) only [eS, eN, eC]) <;> (first | rfl | assumption)) (by simp only [size_put, hsz]; decide)) ?_)
    (refine runS_no rfl (wants_undef rfl rfl (by (try simp (disch := (first | omega | (simp only [sP]; omega))) only [eS, eN, eC]) <;> (first | rfl | assumption)) (by simp only [size_put, hsz]; decide)) ?_)
    (refine runS_no rfl (wants_undef rfl rfl (by (try simp (disch := (first | omega | (simp only [sP]; omega))) only [eS, eN, eC]) <;> (first | rfl | assumption)) (by simp only [size_put, hsz]; decide)) ?_)
    (refine runS_no rfl (wants_undef rfl rfl (by (try simp (disch := (first | omega | (simp only [sP]; omega))) only [eS, eN, eC]) <;> (first | rfl | assumption)) (by simp only [size_put, hsz]; decide)) ?_)
    (refine runS_no rfl (by rw [wants_some (b := false) rfl rfl (by (try simp (disch := (first | omega | (simp only [sP]; omega))) only [eS, eN, eC]) <;> (first | rfl | assumption))]; rfl) ?_)
    (refine runS_do rfl (wants_none rfl) ?_; (refine r_pickF ?_ ?_; (try simp (disch := (first | omega | (simp only [sP]; omega))) only [eS, eN, eC]) <;> (first | rfl | assumption)); refine dn (runS_then ?_))
    (refine runS_do rfl (wants_none rfl) ?_; refine r_assign ?_; refine dn (runS_then ?_))
    refine runS_nil ?_
    exact fin _ false (by simp only [defers_put]; exact hdf) (by (try simp (disch := (first | omega | (simp only [sP]; omega))) only [eS, eN, eC]) <;> (first | rfl | assumption)) (by simp [SF.has, h1])

theorem s_null (H : SEnv P E) (ht : Text P E.sNull 3 20 #[.tmp 6] (c_sNull E)) {f : SF} {cs ts : List Value} {v : Int} {t : Tr} (hr : f.Rep w U cs) (hrt : t.Rep w U ts) (hU : U ≤ w.heap.size) :
    CallsV P E.sNull #[.agg cs.toArray, .int .i64 v, .agg ts.toArray] w fun r w' => r = .bool (f.isNull v t) ∧ Below U w w' := by
  refine CallsV.enter ht (by simp) ?_
  intro a hsz hdf harg
  have e0 := harg 0 (.agg cs.toArray) (by simp)
  have e1 := harg 1 (.int .i64 v) (by simp)
  have e2 := harg 2 (.agg ts.toArray) (by simp)
  cases f with
  | mk kind fr to nul tag df el sub =>
  cases t with
  | mk n s nl l u =>
  obtain ⟨sv, rfl, _⟩ := hr
  obtain ⟨s1, s2, s3, rfl, _⟩ := hrt
  unfold c_sNull
  refine vc_sq (vc_rg (by simp) ?_)
  refine r_box (v := .agg [Value.int .i64 kind, .int .i64 fr, .int .i64 to, .int .i64 nul, .int .i64 tag, .int .i64 df, .int .i64 el, sv].toArray) (by simp (disch := (first | omega | (simp only [sP]; omega))) only [eS, eN, eC, e0]) ?_
  refine r_box (v := .agg [Value.int .i64 n, s1, .bool nl, s2, s3].toArray) (by simp (disch := (first | omega | (simp only [sP]; omega))) only [eS, eN, eC, e2]) ?_
  refine r_assign ?_
  refine dn ?_
  generalize hw1 : w.alloc (.cells (Value.agg [Value.int .i64 kind, .int .i64 fr, .int .i64 to, .int .i64 nul, .int .i64 tag, .int .i64 df, .int .i64 el, sv].toArray).cells E.tFld) = w1
  have hb1 : Below U w w1 := by rw [← hw1]; exact (Below.refl U w).alloc (o := .cells _ _) hU
  have hz1 : w1.heap.size = w.heap.size + 1 := by rw [← hw1]; simp
  have c3 : w1.cell? ⟨w.heap.size, 3, none⟩ = some (.int .i64 nul) := by rw [← hw1]; exact cells_new w _ E.tFld (i := 3) rfl
  clear hw1
  generalize hw2 : w1.alloc (.cells (Value.agg [Value.int .i64 n, s1, .bool nl, s2, s3].toArray).cells E.tTree) = w2
  have hb2 : Below U w w2 := by rw [← hw2]; exact hb1.trans ((Below.refl U w1).alloc (o := .cells _ _) (by omega))
  have d3 : w2.cell? ⟨w.heap.size, 3, none⟩ = some (.int .i64 nul) := by rw [← hw2]; exact (Eff.refl (fun _ _ => False) w1 |>.alloc _).cellSome c3 (fun h => h)
  have d2 : w2.cell? ⟨w1.heap.size, 2, none⟩ = some (.bool nl) := by rw [← hw2]; exact cells_new w1 _ E.tTree (i := 2) rfl
  clear hw2
  refine vc_sq (vc_rgS [0, 1, 2, 3, 4, 5, 6, 7, 8, 9, 10, 11, 12, 13] rfl ?_)
  have fin : ∀ (A : Act) (b : Bool), A.defers = [] → A.eval (.tmp 6) = .bool b → b = (SF.mk kind fr to nul tag df el sub).isNull v (.mk n s nl l u) → vc P (sq [.ret]) (Out P #[.tmp 6] fun r w' => r = .bool ((SF.mk kind fr to nul tag df el sub).isNull v (.mk n s nl l u)) ∧ Below U w w') A w2 := by
    intro A b hd h4 hb
    refine vc_ret ?_
    exact ⟨hd, .bool b, results_one h4, by rw [hb], hb2⟩
  refine runS_do rfl (wants_none rfl) (r_field (b := w1.heap.size) (o := 0) (by simp (disch := (first | omega | (simp only [sP]; omega))) only [eS, eN, eC]) (offs_inv H.fTree (by decide)) (dn (runS_then ?_)))
  refine runS_do rfl (wants_none rfl) (r_load (b := w1.heap.size) (o := 2) (v := .bool nl) (by (try simp (disch := (first | omega | (simp only [sP]; omega))) only [eS, eN, eC]) <;> (first | rfl | assumption)) H.oBool d2 (dn (runS_then ?_)))
  (refine runS_do rfl (wants_none rfl) ?_; refine r_move ?_; refine dn (runS_then ?_))
  cases nl with
  | true =>
    refine runS_do rfl (by rw [wants_some (b := true) rfl rfl (by (try simp (disch := (first | omega | (simp only [sP]; omega))) only [eS, eN, eC]) <;> (first | rfl | assumption))]; rfl) (r_field (b := w.heap.size) (o := 0) (by simp (disch := (first | omega | (simp only [sP]; omega))) only [eS, eN, eC]) (offs_inv H.fFld (by decide)) (dn (runS_then ?_)))
    refine runS_do rfl (by rw [wants_some (b := true) rfl rfl (by (try simp (disch := (first | omega | (simp only [sP]; omega))) only [eS, eN, eC]) <;> (first | rfl | assumption))]; rfl) (r_load (b := w.heap.size) (o := 3) (v := .int .i64 nul) (by (try simp (disch := (first | omega | (simp only [sP]; omega))) only [eS, eN, eC]) <;> (first | rfl | assumption)) H.oInt d3 (dn (runS_then ?_)))
    refine runS_do rfl (by rw [wants_some (b := true) rfl rfl (by (try simp (disch := (first | omega | (simp only [sP]; omega))) only [eS, eN, eC]) <;> (first | rfl | assumption))]; rfl) (r_geq (k := .i64) (m := nul) (n := 0) (by simp (disch := (first | omega | (simp only [sP]; omega))) only [eS, eN, eC]) rfl (dn (runS_then ?_)))
    (refine runS_do rfl (wants_none rfl) ?_; (refine r_pickT ?_ ?_; (try simp (disch := (first | omega | (simp only [sP]; omega))) only [eS, eN, eC]) <;> (first | rfl | assumption)); refine dn (runS_then ?_))
    (refine runS_do rfl (wants_none rfl) ?_; refine r_move ?_; refine dn (runS_then ?_))
    by_cases h1 : nul ≥ 0
    · have g1 : decide (nul ≥ 0) = true := by simpa using h1
      rw [g1]
      (refine runS_do rfl (by rw [wants_some (b := true) rfl rfl (by (try simp (disch := (first | omega | (simp only [sP]; omega))) only [eS, eN, eC, e1]) <;> (first | rfl | assumption))]; rfl) ?_; refine r_move ?_; refine dn (runS_then ?_))
      refine runS_do rfl (by rw [wants_some (b := true) rfl rfl (by (try simp (disch := (first | omega | (simp only [sP]; omega))) only [eS, eN, eC]) <;> (first | rfl | assumption))]; rfl) (r_field (b := w.heap.size) (o := 0) (by simp (disch := (first | omega | (simp only [sP]; omega))) only [eS, eN, eC]) (offs_inv H.fFld (by decide)) (dn (runS_then ?_)))
      refine runS_do rfl (by rw [wants_some (b := true) rfl rfl (by (try simp (disch := (first | omega | (simp only [sP]; omega))) only [eS, eN, eC]) <;> (first | rfl | assumption))]; rfl) (r_load (b := w.heap.size) (o := 3) (v := .int .i64 nul) (by (try simp (disch := (first | omega | (simp only [sP]; omega))) only [eS, eN, eC]) <;> (first | rfl | assumption)) H.oInt d3 (dn (runS_then ?_)))
      refine runS_do rfl (by rw [wants_some (b := true) rfl rfl (by (try simp (disch := (first | omega | (simp only [sP]; omega))) only [eS, eN, eC]) <;> (first | rfl | assumption))]; rfl) (r_geq (k := .i64) (m := v) (n := nul) (by simp (disch := (first | omega | (simp only [sP]; omega))) only [eS, eN, eC, e1]) (by simp (disch := (first | omega | (simp only [sP]; omega))) only [eS, eN, eC]) (dn (runS_then ?_)))
      (refine runS_do rfl (wants_none rfl) ?_; (refine r_pickT ?_ ?_; (try simp (disch := (first | omega | (simp only [sP]; omega))) only [eS, eN, eC]) <;> (first | rfl | assumption)); refine dn (runS_then ?_))
      (refine runS_do rfl (wants_none rfl) ?_; refine r_assign ?_; refine dn (runS_then ?_))
      refine runS_nil ?_
      exact fin _ (decide (v ≥ nul)) (by simp only [defers_put]; exact hdf) (by (try simp (disch := (first | omega | (simp only [sP]; omega))) only [eS, eN, eC]) <;> (first | rfl | assumption)) (by simp [SF.isNull, h1])
    · have g1 : decide (nul ≥ 0) = false := by simpa using h1
      rw [g1]
      (refine runS_no rfl (by rw [wants_some (b := false) rfl rfl (by (try simp (disch := (first | omega | (simp only [sP]; omega))) only [eS, eN, eC]) <;> (first | rfl | assumption))]; rfl) ?_)
      (refine runS_no rfl (by rw [wants_some (b := false) rfl rfl (by (try simp (disch := (first | omega | (simp only [sP]; omega))) only [eS, eN, eC]) <;> (first | rfl | assumption))]; rfl) ?_)
      (refine runS_no rfl (by rw [wants_some (b := false) rfl rfl (by (try simp (disch := (first | omega | (simp only [sP]; omega))) only [eS, eN, eC]) <;> (first | rfl | assumption))]; rfl) ?_)
      (refine runS_no rfl (by rw [wants_some (b := false) rfl rfl (by (try simp (disch := (first | omega | (simp only [sP]; omega))) only [eS, eN, eC]) <;> (first | rfl | assumption))]; rfl) ?_)
      (refine runS_do rfl (wants_none rfl) ?_; (refine r_pickF ?_ ?_; (try simp (disch := (first | omega | (simp only [sP]; omega))) only [eS, eN, eC]) <;> (first | rfl | assumption)); refine dn (runS_then ?_))
      (refine runS_do rfl (wants_none rfl) ?_; refine r_assign ?_; refine dn (runS_then ?_))
      refine runS_nil ?_
      exact fin _ false (by simp only [defers_put]; exact hdf) (by (try simp (disch := (first | omega | (simp only [sP]; omega))) only [eS, eN, eC]) <;> (first | rfl | assumption)) (by simp [SF.isNull, h1])
  | false =>
    (refine runS_no rfl (by rw [wants_some (b := false) rfl rfl (by (try simp (disch := (first | omega | (simp only [sP]; omega))) only [eS, eN, eC]) <;> (first | rfl | assumption))]; rfl) ?_)
    (refine runS_no rfl (by rw [wants_some (b := false) rfl rfl (by (try simp (disch := (first | omega | (simp only [sP]; omega))) only [eS, eN, eC]) <;> (first | rfl | assumption))]; rfl) ?_)
    (refine runS_no rfl (by rw [wants_some (b := false) rfl rfl (by (try simp (disch := (first | omega | (simp only [sP]; omega))) only [eS, eN, eC]) <;> (first | rfl | assumption))]; rfl) ?_)
    (refine runS_do rfl (wants_none rfl) ?_; (refine r_pickF ?_ ?_; (try simp (disch := (first | omega | (simp only [sP]; omega))) only [eS, eN, eC]) <;> (first | rfl | assumption)); refine dn (runS_then ?_))
    (refine runS_do rfl (wants_none rfl) ?_; refine r_move ?_; refine dn (runS_then ?_))
    (refine runS_no rfl (by rw [wants_some (b := false) rfl rfl (by (try simp (disch := (first | omega | (simp only [sP]; omega))) only [eS, eN, eC]) <;> (first | rfl | assumption))]; rfl) ?_)
    (refine runS_no rfl (by rw [wants_some (b := false) rfl rfl (by (try simp (disch := (first | omega | (simp only [sP]; omega))) only [eS, eN, eC]) <;> (first | rfl | assumption))]; rfl) ?_)
    (refine runS_no rfl (by rw [wants_some (b := false) rfl rfl (by (try simp (disch := (first | omega | (simp only [sP]; omega))) only [eS, eN, eC]) <;> (first | rfl | assumption))]; rfl) ?_)
    (refine runS_no rfl (by rw [wants_some (b := false) rfl rfl (by (try simp (disch := (first | omega | (simp only [sP]; omega))) only [eS, eN, eC]) <;> (first | rfl | assumption))]; rfl) ?_)
    (refine runS_do rfl (wants_none rfl) ?_; (refine r_pickF ?_ ?_; (try simp (disch := (first | omega | (simp only [sP]; omega))) only [eS, eN, eC]) <;> (first | rfl | assumption)); refine dn (runS_then ?_))
    (refine runS_do rfl (wants_none rfl) ?_; refine r_assign ?_; refine dn (runS_then ?_))
    refine runS_nil ?_
    exact fin _ false (by simp only [defers_put]; exact hdf) (by (try simp (disch := (first | omega | (simp only [sP]; omega))) only [eS, eN, eC]) <;> (first | rfl | assumption)) (by simp [SF.isNull])
end
end Go.Km
