/- The statements of AppendTo, one by one. -/
import Derived.Test.YtnbhpeaapbpaeaaKmSem
set_option linter.unusedSimpArgs false
set_option linter.unusedVariables false
namespace Go.Km
open Go Go.RowKit
attribute [local irreducible] vc runOps

section
variable {P : Program} {Q : Exit → Act → World → Prop} {a : Act} {w : World} {K : Nat → Prop}

theorem then_then {A B : Act → World → Prop} {e : Exit} {a : Act} {w : World} (h : Exit.then A (Exit.then B Q) e a w) (hn : A a w → Exit.then B Q .normal a w) : Exit.then B Q e a w := by
  cases e <;> first | exact hn h | exact h
theorem vc_sq {c : Code} {r : List Code} (h : vc P c (Exit.then (vc P (sq r) Q) Q) a w) : vc P (sq (c :: r)) Q a w := by
  cases r with
  | nil =>
    refine vc_mono _ h ?_
    intro e a w h
    cases e <;> first | exact vc_skip_inv h | exact h
  | cons d r => exact vc_seq h
theorem vc_sq_nil (h : Q .normal a w) : vc P (sq []) Q a w := vc_skip h
theorem vc_sq_append {l r : List Code} (h : vc P (sq l) (Exit.then (vc P (sq r) Q) Q) a w) : vc P (sq (l ++ r)) Q a w := by
  induction l generalizing a w with
  | nil => exact vc_skip_inv h
  | cons c l ih =>
    have hh : vc P c (Exit.then (vc P (sq l) (Exit.then (vc P (sq r) Q) Q)) (Exit.then (vc P (sq r) Q) Q)) a w := by
      cases l with
      | nil => exact vc_mono c h (fun e a w h => by cases e <;> first | exact vc_skip h | exact h)
      | cons d l => exact vc_seq_inv h
    refine vc_sq (vc_mono _ hh ?_)
    intro e a w h
    cases e <;> first | exact ih h | exact h
theorem vc_sq_flat {l : List Code} {r : List Code} (h : vc P (sq (l ++ r)) Q a w) : vc P (sq (sq l :: r)) Q a w := by
  have hh : vc P (sq l) (Exit.then (vc P (sq r) Q) Q) a w := by
    induction l generalizing a w with
    | nil => exact vc_skip h
    | cons c l ih =>
      have hc : vc P c (Exit.then (vc P (sq (l ++ r)) Q) Q) a w := by
        cases hlr : l ++ r with
        | nil =>
          have : vc P (sq (c :: (l ++ r))) Q a w := h
          rw [hlr] at this
          exact vc_mono c this (fun e a w h => by cases e <;> first | exact vc_skip h | exact h)
        | cons d m =>
          have : vc P (sq (c :: (l ++ r))) Q a w := h
          rw [hlr] at this
          exact vc_seq_inv this
      refine vc_sq (vc_mono c hc ?_)
      intro e a w h
      cases e <;> first | exact ih h | exact h
  exact vc_sq hh
theorem vc_normal {c : Code} {N : Act → World → Prop} (h : vc P c (fun | .normal => N | _ => fun _ _ => False) a w) (hq : ∀ a w, N a w → Q .normal a w) : vc P c Q a w :=
  vc_mono c h (fun e a w h => by cases e <;> first | exact hq _ _ h | exact h.elim)
theorem vc_rg {l : List Oper} (hg : ∀ o ∈ l, o.guard = none) (h : runOps P Q l a w) : vc P (rg l) Q a w := vc_run hg h

set_option maxHeartbeats 400000 in
theorem m_load {TP TU T : TypeId} {x s f t b o off : Nat} {val : Value} (hs : a.eval (.tmp s) = .pointer (some ⟨b, o, none⟩)) (hf : fieldOff P TU f = some off) (hT : oneT P T = true)
    (hc : w.cell? ⟨b, o + off, none⟩ = some val) (hx : ¬ K x) (ht : ∀ d, t ≤ d → ¬ K d) (hxt : x < t) (hsz : t + 4 ≤ a.tmps.size)
    (k : ∀ a', Fr K a a' → a'.eval (.tmp x) = val → Q .normal a' w) : vc P (wLoad TP TU T x s f t) Q a w := by
  refine vc_rg (by simp) ?_
  refine r_move ?_
  refine r_nil (ad := ⟨b, o, none⟩) (by simp (disch := (first | omega | (simp only [sP]; omega))) only [eS, eN, eC, hs]) ?_
  refine r_field (b := b) (o := o) (by simp (disch := (first | omega | (simp only [sP]; omega))) only [eS, eN, eC]) hf ?_
  refine r_load (b := b) (o := o + off) (by simp (disch := (first | omega | (simp only [sP]; omega))) only [eS, eN, eC]) hT hc ?_
  refine r_assign ?_
  refine dn ?_
  refine k _ ?_ (by simp (disch := (first | omega | (simp only [sP]; omega))) only [eS, eN, eC])
  exact (((((Fr.refl K a).put _ (ht _ (by omega))).put _ (ht _ (by omega))).put _ (ht _ (by omega))).put _ (ht _ (by omega))).put _ hx

set_option maxHeartbeats 400000 in
/-- The same of an array, whose variable lies in memory. -/
theorem m_loadArr {TP TU T : TypeId} {x s f t b o off : Nat} {cs z : List Value} (hs : a.eval (.tmp s) = .pointer (some ⟨b, o, none⟩)) (hf : fieldOff P TU f = some off) (hT : aggT P T = some cs.length)
    (hz : zeroT P T = some (.agg z.toArray)) (hzl : z.length = cs.length) (h1 : ∀ v ∈ cs, v.oneCell' = true)
    (hc : Cells w b (o + off) cs) (hx : ¬ K x) (ht : ∀ d, t ≤ d → ¬ K d) (hxt : x < t) (hsz : t + 4 ≤ a.tmps.size)
    (k : ∀ a' w' q, Fr K a a' → a'.eval (.tmp x) = .pointer (some ⟨q, 0, none⟩) → w.heap.size ≤ q → Cells w' q 0 cs → Grow w w' → Q .normal a' w') : vc P (wLoadArr TP TU T x s f t) Q a w := by
  refine vc_rg (by simp) ?_
  refine r_move ?_
  refine r_nil (ad := ⟨b, o, none⟩) (by simp (disch := (first | omega | (simp only [sP]; omega))) only [eS, eN, eC, hs]) ?_
  refine r_field (b := b) (o := o) (by simp (disch := (first | omega | (simp only [sP]; omega))) only [eS, eN, eC]) hf ?_
  refine r_loadAgg (b := b) (o := o + off) (by simp (disch := (first | omega | (simp only [sP]; omega))) only [eS, eN, eC]) hT hc ?_
  refine r_alloc hz ?_
  have hfree : ∀ i, i < cs.length → Free (w.alloc (.cells (Value.agg z.toArray).cells T)) w.heap.size (0 + i) := by
    exact fun i hi => free_new w _ T (by simp [Value.cells]; omega)
  refine r_storeAgg (b := w.heap.size) (o := 0) (cs := cs) (by simp (disch := (first | omega | (simp only [sP]; omega))) only [eS, eN, eC]) (by simp (disch := (first | omega | (simp only [sP]; omega))) only [eS, eN, eC]) h1 hT hfree ?_
  refine dn ?_
  refine k _ _ w.heap.size ?_ (by simp (disch := (first | omega | (simp only [sP]; omega))) only [eS, eN, eC]) (Nat.le_refl _) ?_ ?_
  · exact (((((Fr.refl K a).put _ (ht _ (by omega))).put _ (ht _ (by omega))).put _ (ht _ (by omega))).put _ (ht _ (by omega))).put _ hx
  · intro i v hv
    exact setCells_cell _ _ _ _ (fun j hj => (hfree j hj).1) i v hv
  · refine ((Eff.refl _ w).alloc _).trans' (setCells_eff _ _ _ _) ?_
    rintro k i hk ⟨rfl, _⟩
    omega

/-- 'dst = F(dst, x)' -/
theorem m_app {E : Env} {F : FuncId} {T : TypeId} {x t : Nat} {dv arg : Value} {S : Value → World → Prop} (hd : a.eval (.tmp 1) = dv) (hx : a.eval (.tmp x) = arg) (hc : CallsV P F #[dv, arg] w S)
    (ht : ∀ d, t ≤ d → ¬ K d) (hk1 : ¬ K 1) (h1 : 1 < t) (hxt : x < t) (hsz : t + 3 ≤ a.tmps.size) (k : ∀ a' v' w', Fr K a a' → a'.eval (.tmp 1) = v' → S v' w' → Q .normal a' w') : vc P (wApp E F T x t) Q a w := by
  refine vc_rg (by simp) ?_
  refine r_move ?_
  refine r_move ?_
  refine r_call' (args := #[dv, arg]) ?_ hc ?_
  · simp only [List.map_toArray, List.map_cons, List.map_nil]
    simp (disch := (first | omega | (simp only [sP]; omega))) only [eS, eN, eC, hd, hx]
  intro v' w' hs
  refine r_assign ?_
  refine dn ?_
  refine k _ v' _ ?_ (by simp (disch := (first | omega | (simp only [sP]; omega))) only [eS, eN, eC]) hs
  exact ((((Fr.refl K a).put _ (ht _ (by omega))).put _ (ht _ (by omega))).put _ (ht _ (by omega))).put _ hk1

theorem m_appArr {E : Env} {F : FuncId} {T : TypeId} {x t q : Nat} {dv : Value} {cs : List Value} {S : Value → World → Prop} (hd : a.eval (.tmp 1) = dv) (hx : a.eval (.tmp x) = .pointer (some ⟨q, 0, none⟩))
    (hT : aggT P T = some cs.length) (hcs : Cells w q 0 cs) (hc : CallsV P F #[dv, .agg cs.toArray] w S)
    (ht : ∀ d, t ≤ d → ¬ K d) (hk1 : ¬ K 1) (h1 : 1 < t) (hxt : x < t) (hsz : t + 3 ≤ a.tmps.size) (k : ∀ a' v' w', Fr K a a' → a'.eval (.tmp 1) = v' → S v' w' → Q .normal a' w') : vc P (wAppArr E F T x t) Q a w := by
  refine vc_rg (by simp) ?_
  refine r_move ?_
  refine r_loadAgg (b := q) (o := 0) (by simp (disch := (first | omega | (simp only [sP]; omega))) only [eS, eN, eC, hx]) hT hcs ?_
  refine r_call' (args := #[dv, .agg cs.toArray]) ?_ hc ?_
  · simp only [List.map_toArray, List.map_cons, List.map_nil]
    simp (disch := (first | omega | (simp only [sP]; omega))) only [eS, eN, eC, hd]
  intro v' w' hs
  refine r_assign ?_
  refine dn ?_
  refine k _ v' _ ?_ (by simp (disch := (first | omega | (simp only [sP]; omega))) only [eS, eN, eC]) hs
  exact ((((Fr.refl K a).put _ (ht _ (by omega))).put _ (ht _ (by omega))).put _ (ht _ (by omega))).put _ hk1

/-- 'dst = F(dst, len(x))' -/
theorem m_lens {E : Env} {F : FuncId} {T e : TypeId} {s x t len cap : Nat} {ad : Option Addr} {dv : Value} {S : Value → World → Prop} (hd : a.eval (.tmp 1) = dv) (hx : a.eval (.tmp x) = .slice ad len cap)
    (hT : sliceT P T = some (e, s)) (hc : CallsV P F #[dv, .int .i64 len] w S)
    (ht : ∀ d, t ≤ d → ¬ K d) (hk1 : ¬ K 1) (h1 : 1 < t) (hxt : x < t) (hsz : t + 4 ≤ a.tmps.size) (k : ∀ a' v' w', Fr K a a' → a'.eval (.tmp 1) = v' → S v' w' → Q .normal a' w') : vc P (wLens E F T x t) Q a w := by
  refine vc_rg (by simp) ?_
  refine r_move ?_
  refine r_move ?_
  refine r_len (ad := ad) (n := len) (c := cap) hT (by simp (disch := (first | omega | (simp only [sP]; omega))) only [eS, eN, eC, hx]) ?_
  refine r_call' (args := #[dv, .int .i64 len]) ?_ hc ?_
  · simp only [List.map_toArray, List.map_cons, List.map_nil]
    simp (disch := (first | omega | (simp only [sP]; omega))) only [eS, eN, eC, hd]
  intro v' w' hs
  refine r_assign ?_
  refine dn ?_
  refine k _ v' _ ?_ (by simp (disch := (first | omega | (simp only [sP]; omega))) only [eS, eN, eC]) hs
  exact (((((Fr.refl K a).put _ (ht _ (by omega))).put _ (ht _ (by omega))).put _ (ht _ (by omega))).put _ (ht _ (by omega))).put _ hk1

/-- A slice against nil. -/
theorem r_eqNil {d T x ty p af g e s ad len cap r} (hT : sliceT P T = some (e, s)) (hx : a.eval x = .slice ad len cap) (h : runOps P Q r (a.put (some d) (.bool ad.isNone)) w) :
    runOps P Q (⟨some d, .binOp .eql T x (.const (.slice none 0 0)) T, ty, p, af, g⟩ :: r) a w := by
  obtain ⟨hu, _⟩ := sliceT_inv hT
  refine st ?_
  have hb : (binOp .eql T (.slice ad len cap) (.slice none 0 0)).run P w = .ok (.bool ad.isNone) w := by
    have h0 : ∀ k : Nat, (Op.equalIn (k + 1) T (.slice ad len cap) (.slice none 0 0)).run P w = .ok ad.isNone w := fun k => by
      cases ad <;> simp [Op.equalIn, run_underlying hu]
    simp only [binOp]
    simp [Op.equal, Op.maxDepth, h0 9999]
  simp only [Oper.wp, execOp, hx, eval_const, eqGuard_at_slice, hb, Sem.run_bind, Sem.run_pure, Result.andThen_ok, Oper.upon_value]
  exact h

/-- 'dst = F(dst, len(x), x == nil)' -/
theorem m_nlens {E : Env} {F : FuncId} {T e : TypeId} {s x t len cap : Nat} {ad : Option Addr} {dv : Value} {S : Value → World → Prop} (hd : a.eval (.tmp 1) = dv) (hx : a.eval (.tmp x) = .slice ad len cap)
    (hT : sliceT P T = some (e, s)) (hc : CallsV P F #[dv, .int .i64 len, .bool ad.isNone] w S)
    (ht : ∀ d, t ≤ d → ¬ K d) (hk1 : ¬ K 1) (h1 : 1 < t) (hxt : x < t) (hsz : t + 6 ≤ a.tmps.size) (k : ∀ a' v' w', Fr K a a' → a'.eval (.tmp 1) = v' → S v' w' → Q .normal a' w') : vc P (wNLens E F T x t) Q a w := by
  refine vc_rg (by simp) ?_
  refine r_move ?_
  refine r_move ?_
  refine r_len (ad := ad) (n := len) (c := cap) hT (by simp (disch := (first | omega | (simp only [sP]; omega))) only [eS, eN, eC, hx]) ?_
  refine r_move ?_
  refine r_eqNil (ad := ad) (len := len) (cap := cap) hT (by simp (disch := (first | omega | (simp only [sP]; omega))) only [eS, eN, eC, hx]) ?_
  refine r_call' (args := #[dv, .int .i64 len, .bool ad.isNone]) ?_ hc ?_
  · simp only [List.map_toArray, List.map_cons, List.map_nil]
    simp (disch := (first | omega | (simp only [sP]; omega))) only [eS, eN, eC, hd]
  intro v' w' hs
  refine r_assign ?_
  refine dn ?_
  refine k _ v' _ ?_ (by simp (disch := (first | omega | (simp only [sP]; omega))) only [eS, eN, eC]) hs
  exact (((((((Fr.refl K a).put _ (ht _ (by omega))).put _ (ht _ (by omega))).put _ (ht _ (by omega))).put _ (ht _ (by omega))).put _ (ht _ (by omega))).put _ (ht _ (by omega))).put _ hk1

/-! ### guarded operations: all guards by operation 2 -/
def runG (P : Program) (dj : Nat) (Q : Exit → Act → World → Prop) : List Oper → Act → World → Prop
  | [], a, w => Q .normal a w
  | o :: r, a, w => match o.guard with
    | none => o.wp P a w (runG P dj Q r) Q
    | some (_, want) => ∃ b, a.eval (.tmp dj) = .bool b ∧ (if b = want then o.wp P a w (runG P dj Q r) Q else runG P dj Q r (a.put o.dst undef) w)
theorem yielded_of {ops : Array Oper} {j dj : Nat} {o : Oper} {b : Bool} (hj : ops[j]? = some o) (hd : o.dst = some dj) (h : a.eval (.tmp dj) = .bool b) : yielded ops a.tmps j = some b := by
  unfold yielded
  simp only [hj, Option.bind_some, hd]
  simp only [Act.eval, Array.getD_eq_getD_getElem?] at h
  cases ht : a.tmps[dj]? with
  | none => simp [ht, undef] at h
  | some v => simp only [ht, Option.getD_some] at h; subst h; rfl
theorem vc_runG {l : List Oper} {dj : Nat} (hg : ∀ o ∈ l, o.guard = none ∨ ∃ want, o.guard = some (2, want)) (hd : (l[2]?).bind (·.dst) = some dj) (h : runG P dj Q l a w) : vc P (rg l) Q a w := by
  refine vc_ops ?_
  simp only [List.size_toArray]
  have key : ∀ (suf pre : List Oper) (a : Act) (w : World), l = pre ++ suf → runG P dj Q suf a w → wpOps P l.toArray Q (List.range' pre.length suf.length) a w := by
    intro suf
    induction suf with
    | nil => exact fun pre a w _ h => h
    | cons o r ih =>
      intro pre a w hl h
      have hi : l.toArray[pre.length]? = some o := by simp [hl]
      simp only [List.length_cons, List.range'_succ, wpOps, hi]
      have hn : ∀ a w, runG P dj Q r a w → wpOps P l.toArray Q (List.range' (pre.length + 1) r.length) a w := by
        intro a w h
        have := ih (pre ++ [o]) a w (by simp [hl]) h
        simpa using this
      have hwp : o.wp P a w (runG P dj Q r) Q → o.wp P a w (wpOps P l.toArray Q (List.range' (pre.length + 1) r.length)) Q := by
        intro h
        unfold Oper.wp at h ⊢
        revert h
        generalize (execOp a.eval o).run P w = res
        intro h
        unfold Oper.upon at h ⊢
        split at h <;> first
          | exact hn _ _ h
          | exact h
          | (exact Calls.mono h (fun e w' hh => by cases e <;> first | exact hn _ _ hh | exact hh))
          | (exact Rows.mono h (fun _ _ hh => hn _ _ hh))
      rcases hg o (by simp [hl]) with ho | ⟨want, ho⟩
      · simp only [runG, ho] at h
        rw [if_pos (by simp [Region.wanted, ho])]
        exact .inl (hwp h)
      · simp only [runG, ho] at h
        obtain ⟨b, hb, h⟩ := h
        cases h2 : l[2]? with
        | none => simp [h2] at hd
        | some o2 =>
          simp only [h2, Option.bind_some] at hd
          have hy := yielded_of (ops := l.toArray) (j := 2) (by simpa using h2) hd hb
          have hwt : Region.wanted o (yielded l.toArray a.tmps) = (b == want) := by simp [Region.wanted, ho, hy]
          rw [hwt]
          by_cases hbw : b = want
          · rw [if_pos hbw] at h
            rw [if_pos (by simpa using hbw)]
            exact .inl (hwp h)
          · rw [if_neg hbw] at h
            rw [if_neg (by simpa using hbw)]
            exact hn _ _ h
  have := key l [] a w rfl h
  simpa [List.range_eq_range'] using this
section
variable {dj : Nat} {r : List Oper}
theorem g_dn (h : Q .normal a w) : runG P dj Q [] a w := h
theorem g_want {d op t p af k want b} (hb : a.eval (.tmp dj) = .bool b) (hw : b = want) (h : runG P dj Q (⟨d, op, t, p, af, none⟩ :: r) a w) : runG P dj Q (⟨d, op, t, p, af, some (k, want)⟩ :: r) a w :=
  ⟨b, hb, by rw [if_pos hw]; exact h⟩
theorem g_skip {d op t p af k want b} (hb : a.eval (.tmp dj) = .bool b) (hw : b ≠ want) (h : runG P dj Q r (a.put d undef) w) : runG P dj Q (⟨d, op, t, p, af, some (k, want)⟩ :: r) a w :=
  ⟨b, hb, by rw [if_neg hw]; exact h⟩
theorem g_mv {d : Nat} {x t p af} (h : runG P dj Q r (a.put (some d) (a.eval x)) w) : runG P dj Q (⟨some d, .move x, t, p, af, none⟩ :: r) a w := h
theorem g_geq {d : Nat} {xt x y yt ty p af k m n} (hx : a.eval x = .int k m) (hy : a.eval y = .int k n) (h : runG P dj Q r (a.put (some d) (.bool (decide (m ≥ n)))) w) : runG P dj Q (⟨some d, .binOp .geq xt x y yt, ty, p, af, none⟩ :: r) a w := by
  show Oper.wp P _ a w (runG P dj Q r) Q
  simp only [Oper.wp, execOp, hx, hy, eqGuard_at_int, binOp_geq, Sem.run_bind, Sem.run_pure, Result.andThen_ok, Oper.upon_value]
  exact h
theorem g_leq {d : Nat} {xt x y yt ty p af k m n} (hx : a.eval x = .int k m) (hy : a.eval y = .int k n) (h : runG P dj Q r (a.put (some d) (.bool (decide (m ≤ n)))) w) : runG P dj Q (⟨some d, .binOp .leq xt x y yt, ty, p, af, none⟩ :: r) a w := by
  show Oper.wp P _ a w (runG P dj Q r) Q
  simp only [Oper.wp, execOp, hx, hy, eqGuard_at_int, binOp_leq, Sem.run_bind, Sem.run_pure, Result.andThen_ok, Oper.upon_value]
  exact h
theorem g_lss {d : Nat} {xt x y yt ty p af k m n} (hx : a.eval x = .int k m) (hy : a.eval y = .int k n) (h : runG P dj Q r (a.put (some d) (.bool (decide (m < n)))) w) : runG P dj Q (⟨some d, .binOp .lss xt x y yt, ty, p, af, none⟩ :: r) a w := by
  show Oper.wp P _ a w (runG P dj Q r) Q
  simp only [Oper.wp, execOp, hx, hy, eqGuard_at_int, binOp_lss, Sem.run_bind, Sem.run_pure, Result.andThen_ok, Oper.upon_value]
  exact h
theorem g_eql {d : Nat} {xt x y yt ty p af k m n} (hx : a.eval x = .int k m) (hy : a.eval y = .int k n) (h : runG P dj Q r (a.put (some d) (.bool (m == n))) w) : runG P dj Q (⟨some d, .binOp .eql xt x y yt, ty, p, af, none⟩ :: r) a w := by
  show Oper.wp P _ a w (runG P dj Q r) Q
  simp only [Oper.wp, execOp, hx, hy, eqGuard_at_int, binOp_eql, Sem.run_bind, Sem.run_pure, Result.andThen_ok, Oper.upon_value]
  exact h
theorem g_pick {d : Nat} {c x y ty p af v b} (hc : a.eval c = .bool b) (hv : (if b = true then a.eval x else a.eval y) = v) (h : runG P dj Q r (a.put (some d) v) w) : runG P dj Q (⟨some d, .pick c x y, ty, p, af, none⟩ :: r) a w := by
  show Oper.wp P _ a w (runG P dj Q r) Q
  simp only [Oper.wp, execOp, hc, asBool, Sem.run_bind, Sem.run_pure, Result.andThen_ok, Oper.upon_value, hv]
  exact h
end
attribute [local irreducible] runG

/-- 'if isFlexible { A } else { B }': what either leaves. -/
theorem m_flex {E : Env} {x : Cx} {t m : Nat} {A B : Tmp → Code} {fx : Bool} (hfl : ∀ f, x.fl = some f → a.eval (.tmp f) = .bool fx ∧ f < t) (hno : x.fl = none → fx = false) (ht : ∀ d, t ≤ d → ¬ K d) (h1 : 1 < t) (hsz : t + x.nt m ≤ a.tmps.size)
    (hA : fx = true → ∀ a' t', Fr K a a' → t ≤ t' → t' + m ≤ a.tmps.size → (∀ k, k < t → a'.eval (.tmp k) = a.eval (.tmp k)) → vc P (A t') Q a' w)
    (hB : fx = false → ∀ a' t', Fr K a a' → t ≤ t' → t' + m ≤ a.tmps.size → (∀ k, k < t → a'.eval (.tmp k) = a.eval (.tmp k)) → vc P (B t') Q a' w) : vc P (wFlex E x t m A B) Q a w := by
  unfold wFlex
  cases hx : x.fl with
  | none =>
    simp only [hx, Cx.nt] at hsz ⊢
    exact hB (hno hx) a t (Fr.refl _ _) (Nat.le_refl _) hsz (fun _ _ => rfl)
  | some f =>
    simp only [hx, Cx.nt] at hsz ⊢
    obtain ⟨hf, hfn⟩ := hfl f hx
    refine vc_sq (vc_rg (by simp) ?_)
    refine r_move ?_
    refine dn ?_
    have hfr : Fr K a (a.put (some t) (a.eval (.tmp f))) := (Fr.refl K a).put _ (ht _ (by omega))
    have he : ∀ k, k < t → (a.put (some t) (a.eval (.tmp f))).eval (.tmp k) = a.eval (.tmp k) := fun k hk => eval_put_ne _ _ _ _ (by omega)
    refine vc_sq (vc_cond (t := fx) (by simp (disch := (first | omega | (simp only [sP]; omega))) only [eS, eN, eC, hf]) ?_ ?_)
    · exact fun h => vc_mono _ (hA h _ (t + 1) hfr (by omega) (by omega) he) (fun e a w h => by cases e <;> first | exact vc_sq_nil h | exact h)
    · exact fun h => vc_mono _ (hB h _ (t + 1 + m) hfr (by omega) (by omega) he) (fun e a w h => by cases e <;> first | exact vc_sq_nil h | exact h)

/-- 'if version >= n { body }' and its like. -/
theorem m_ver {E : Env} {x : Cx} {v : Ver} {t ver : Nat} {body : Code} (hv : a.eval (.tmp x.vs) = .int .i16 (ver : Int)) (hvs : x.vs < t) (ht : ∀ d, t ≤ d → ¬ K d) (hsz : t + v.nt ≤ a.tmps.size)
    (hyes : v.has ver = true → ∀ a', Fr K a a' → (∀ k, k < t → a'.eval (.tmp k) = a.eval (.tmp k)) → vc P body Q a' w)
    (hno : v.has ver = false → ∀ a', Fr K a a' → (∀ k, k < t → a'.eval (.tmp k) = a.eval (.tmp k)) → Q .normal a' w) : vc P (ifVer E x v t body) Q a w := by
  unfold ifVer
  cases v with
  | all => exact hyes rfl a (Fr.refl _ _) (fun _ _ => rfl)
  | ge m =>
    simp only [Ver.nt] at hsz
    refine vc_sq (vc_rg (by simp) ?_)
    refine r_move ?_
    refine r_geq (k := .i16) (m := ver) (n := m) (by simp (disch := (first | omega | (simp only [sP]; omega))) only [eS, eN, eC, hv]) rfl ?_
    refine dn ?_
    refine vc_sq (vc_cond (t := decide ((ver : Int) ≥ m)) (by simp (disch := (first | omega | (simp only [sP]; omega))) only [eS, eN, eC]) ?_ ?_)
    · intro h
      have hd : (Ver.ge m).has ver = true := by simp only [Ver.has, decide_eq_true_eq] at h ⊢; omega
      exact vc_mono _ (hyes hd _ (((Fr.refl K a).put _ (ht _ (by omega))).put _ (ht _ (by omega))) (fun k hk => by rw [eval_put_ne _ _ _ _ (by omega), eval_put_ne _ _ _ _ (by omega)])) (fun e a w h => by cases e <;> first | exact vc_sq_nil h | exact h)
    · intro h
      have hd : (Ver.ge m).has ver = false := by simp only [Ver.has, decide_eq_false_iff_not] at h ⊢; omega
      exact vc_skip (vc_sq_nil (hno hd _ (((Fr.refl K a).put _ (ht _ (by omega))).put _ (ht _ (by omega))) (fun k hk => by rw [eval_put_ne _ _ _ _ (by omega), eval_put_ne _ _ _ _ (by omega)])))
  | btw m m' =>
    simp only [Ver.nt] at hsz
    refine vc_sq (vc_runG (dj := t + 2) (by simp) rfl ?_)
    refine g_mv ?_
    refine g_geq (k := .i16) (m := ver) (n := m) (by simp (disch := (first | omega | (simp only [sP]; omega))) only [eS, eN, eC, hv]) rfl ?_
    refine g_mv ?_
    have hfr : Fr K a ((a.put (some t) (a.eval (.tmp x.vs))).put (some (t + 1)) (.bool (decide ((ver : Int) ≥ m)))) := ((Fr.refl K a).put _ (ht _ (by omega))).put _ (ht _ (by omega))
    by_cases h : (ver : Int) ≥ m
    · refine g_want (b := decide ((ver : Int) ≥ m)) (by simp (disch := (first | omega | (simp only [sP]; omega))) only [eS, eN, eC]) (by simpa using h) ?_
      refine g_mv ?_
      refine g_want (b := decide ((ver : Int) ≥ m)) (by simp (disch := (first | omega | (simp only [sP]; omega))) only [eS, eN, eC]) (by simpa using h) ?_
      refine g_leq (k := .i16) (m := ver) (n := m') (by simp (disch := (first | omega | (simp only [sP]; omega))) only [eS, eN, eC, hv]) rfl ?_
      refine g_pick (b := decide ((ver : Int) ≥ m)) (v := .bool (decide ((ver : Int) ≤ m'))) (by simp (disch := (first | omega | (simp only [sP]; omega))) only [eS, eN, eC]) (by rw [if_pos (by simpa using h)]; simp (disch := (first | omega | (simp only [sP]; omega))) only [eS, eN, eC]) ?_
      refine g_dn ?_
      refine vc_sq (vc_cond (t := decide ((ver : Int) ≤ m')) (by simp (disch := (first | omega | (simp only [sP]; omega))) only [eS, eN, eC]) ?_ ?_)
      · intro h'
        have hd : (Ver.btw m m').has ver = true := by simp only [Ver.has, Bool.and_eq_true, decide_eq_true_eq] at h' ⊢; omega
        refine vc_mono _ (hyes hd _ ((((hfr.put _ (ht _ (by omega))).put _ (ht _ (by omega))).put _ (ht _ (by omega))).put _ (ht _ (by omega))) ?_) (fun e a w h => by cases e <;> first | exact vc_sq_nil h | exact h)
        intro k hk
        simp (disch := (first | omega | (simp only [sP]; omega))) only [eS, eN, eC]
      · intro h'
        have hd : (Ver.btw m m').has ver = false := by simp only [Ver.has, Bool.and_eq_false_iff, decide_eq_false_iff_not] at h' ⊢; omega
        refine vc_skip (vc_sq_nil (hno hd _ ((((hfr.put _ (ht _ (by omega))).put _ (ht _ (by omega))).put _ (ht _ (by omega))).put _ (ht _ (by omega))) ?_))
        intro k hk
        simp (disch := (first | omega | (simp only [sP]; omega))) only [eS, eN, eC]
    · refine g_skip (b := decide ((ver : Int) ≥ m)) (by simp (disch := (first | omega | (simp only [sP]; omega))) only [eS, eN, eC]) (by simpa using h) ?_
      refine g_skip (b := decide ((ver : Int) ≥ m)) (by simp (disch := (first | omega | (simp only [sP]; omega))) only [eS, eN, eC]) (by simpa using h) ?_
      refine g_pick (b := decide ((ver : Int) ≥ m)) (v := .bool false) (by simp (disch := (first | omega | (simp only [sP]; omega))) only [eS, eN, eC]) (by rw [if_neg (by simpa using h)]; rfl) ?_
      refine g_dn ?_
      refine vc_sq (vc_cond (t := false) (by simp (disch := (first | omega | (simp only [sP]; omega))) only [eS, eN, eC]) (fun h => by cases h) ?_)
      intro _
      have hd : (Ver.btw m m').has ver = false := by simp only [Ver.has, Bool.and_eq_false_iff, decide_eq_false_iff_not]; omega
      refine vc_skip (vc_sq_nil (hno hd _ ((((hfr.put _ (ht _ (by omega))).put _ (ht _ (by omega))).put _ (ht _ (by omega))).put _ (ht _ (by omega))) ?_))
      intro k hk
      simp (disch := (first | omega | (simp only [sP]; omega))) only [eS, eN, eC]
end
end Go.Km
