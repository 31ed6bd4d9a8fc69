/- What AppendTo writes: every shape; the whole function. -/
import Derived.Test.YtnbhpeaapbpaeaaKmW3
set_option linter.unusedSimpArgs false
set_option linter.unusedVariables false
namespace Go.Km
open Go Go.RowKit
attribute [local irreducible] vc runOps runG

theorem rep_one {w : World} {sb : Sb} (ty : Ty) : ∀ cs B d, ty.Rep w sb B cs d → ty.tp = none → ty.arr = false → ∃ u, cs = [u] := by
  intro cs B d h ht ha
  cases ty <;> first | (cases d <;> simp_all [Ty.Rep, Ty.tp, Ty.arr]; done) | skip
  all_goals
    cases d with
    | bytes o => cases o <;> simp only [Ty.Rep, Ty.tp, Ty.arr, reduceCtorEq] at h ht ha <;> first | exact ⟨_, h⟩ | exact ⟨_, h.1⟩ | (obtain ⟨_, h, _⟩ := h; exact ⟨_, h⟩) | (obtain ⟨_, _, h, _⟩ := h; exact ⟨_, h⟩) | (obtain ⟨_, _, _, h, _⟩ := h; exact ⟨_, h⟩)
    | list o => cases o <;> simp only [Ty.Rep, Ty.tp, Ty.arr, reduceCtorEq] at h ht ha <;> first | exact ⟨_, h⟩ | (obtain ⟨_, _, h, _⟩ := h; exact ⟨_, h⟩) | (obtain ⟨_, h, _⟩ := h; exact ⟨_, h⟩)
    | int m => simp [Ty.Rep, Ty.tp, Ty.arr] at h ht ha
    | obj l t => simp [Ty.Rep, Ty.tp, Ty.arr] at h ht ha

section
variable {P : Program} {E : Env} {W0 : World} {sb : Sb}

mutual
theorem wok_ty (H : EnvW P E sb.T) (HI : EnvI P E) : ∀ (ty : Ty), ty.WOk P E W0 sb
  | .scal s df => wok_scal H s df
  | .named s T df => wok_named H s T df
  | .uuid => wok_uuid H
  | .text => wok_text H
  | .ntext => wok_ntext H
  | .ntextFrom _ => by
    intro x ver fx L v n t b B a w xs cs d Q hok
    simp [Ty.okW] at hok
  | .bytes => wok_bytes H
  | .nbytes => wok_nbytes H
  | .list TS null e => wok_list H TS null e (wok_ty H HI e) (rep_one e)
  | .struct TP TU FD fs => wok_struct TP TU FD fs (wok_flds H HI fs)
theorem wok_flds (H : EnvW P E sb.T) (HI : EnvI P E) : ∀ (fs : Flds), fs.WOk P E W0 sb
  | .nil tg => wok_nil H HI tg
  | .cons v ty r => wok_cons v ty r (wok_ty H HI ty) (wok_flds H HI r) (rep_one ty)
end

/-- How many temporaries AppendTo has. -/
def Msg.wtop (m : Msg) : Nat := m.wlocals + (match m.flex with | none => 5 | some _ => 8) + m.wfs.wt m.wx + 1
/-- Is this version flexible? -/
def Msg.isFlex (m : Msg) (ver : Nat) : Bool := match m.flex with | none => false | some f => decide (f ≤ ver)
/-- What is asked of a message, that AppendTo be as it is thought. -/
def Msg.okW (P : Program) (E : Env) (m : Msg) : Bool :=
  oneT P E.tI16 && fieldOff P m.TU 0 == some 0 && m.wfs.okW P E m.wx m.TU m.wi m.wi

theorem results_one {P : Program} {w : World} {a : Act} {t : Nat} {v : Value} (h : a.eval (.tmp t) = v) : (results { (default : Func) with results := #[.tmp t] } a.tmps).run P w = .ok v w := by
  subst h
  simp [results, Act.eval]

/-- To prove a call: the frame at the beginning is any that has the arguments in its first slots. -/
theorem CallsV.enter {P : Program} {f : FuncId} {np nt : Nat} {res : Array ResultVar} {c : Code} (ht : Text P f np nt res c) {args : Array Value} {w : World} {S : Value → World → Prop} (hn : args.size ≤ nt)
    (h : ∀ a, a.tmps.size = nt → a.defers = [] → (∀ i v, args[i]? = some v → a.eval (.tmp i) = v) → vc P c (Out P res S) a w) : CallsV P f args w S := by
  refine CallsV.of_vc ht (h _ (by simp; omega) rfl ?_)
  intro i v hv
  have hi : i < args.size := by
    rcases Nat.lt_or_ge i args.size with h | h
    · exact h
    · simp [Array.getElem?_eq_none h] at hv
  simp [Act.eval, Array.getElem?_append_left hi, hv]

/-- What AppendTo(nil) gives. -/
theorem appendTo (H : EnvW P E sb.T) (HI : EnvI P E) {m : Msg} {f : FuncId} {np ntmps : Nat} (ht : Text P f np ntmps #[.tmp 4] (m.wcode E)) (hn : m.wtop ≤ ntmps) (hok : m.okW P E = true)
    {pb po ver : Nat} {cs : List Value} {ds : List D} {tags : List (Nat × List UInt8)} {B : Nat}
    (hver : W0.cell? ⟨pb, po, none⟩ = some (.int .i16 (ver : Int))) (hc : Cells W0 pb (po + m.wi) cs) (hr : m.wfs.Rep W0 sb B cs ds tags) (hb : (m.wfs.wr (m.isFlex ver) ver ds tags).length ≤ big) :
    CallsV P f #[.pointer (some ⟨pb, po, none⟩), .slice none 0 0] W0 fun v w => w.ownsRow W0.heap.size E.tU8 1 v (m.wfs.wr (m.isFlex ver) ver ds tags).length ((m.wfs.wr (m.isFlex ver) ver ds tags).map bv) ∧ Below W0.heap.size W0 w := by
  simp only [Msg.okW, Bool.and_eq_true, beq_iff_eq] at hok
  obtain ⟨⟨ho16, hof⟩, hokf⟩ := hok
  have hlw : 6 ≤ m.wlocals := by unfold Msg.wlocals; cases m.flex <;> simp <;> omega
  have hnt : m.wlocals + 6 ≤ ntmps := by unfold Msg.wtop at hn; cases hfl : m.flex <;> rw [hfl] at hn <;> simp only at hn <;> omega
  refine CallsV.enter ht (by simp; omega) ?_
  intro a0 hs0 hd0 hargs
  have e0 : a0.eval (.tmp 0) = .pointer (some ⟨pb, po, none⟩) := hargs 0 _ rfl
  have e1 : a0.eval (.tmp 1) = .slice none 0 0 := hargs 1 _ rfl
  unfold Msg.wcode
  have htop : m.wlocals + (match m.flex with | none => 5 | some _ => 8) + m.wfs.wt m.wx + 1 ≤ ntmps := hn
  have hloc : m.wlocals = (match m.flex with | none => 6 | some _ => 7) + m.wfs.wn := rfl
  generalize hL : m.wlocals = L at *
  simp only [List.cons_append, List.nil_append, List.append_assoc]
  refine vc_sq (vc_rg (by simp) ?_)
  refine r_assign ?_
  refine dn ?_
  refine vc_sq ?_
  refine m_load (K := fun k => k < L ∧ k ≠ 5) (b := pb) (o := po) (off := 0) (val := .int .i16 (ver : Int)) (by simp (disch := (first | omega | (simp only [sP]; omega))) only [eS, eN, eC, e0]) hof ho16 hver (by simp) (fun d hd => by omega) (by omega) (by simp only [size_put]; omega) ?_
  intro a1 hf1 he5
  have hs1 : a1.tmps.size = ntmps := by rw [hf1.size, size_put, hs0]
  have hd1 : a1.defers = [] := by rw [hf1.defers, defers_put, hd0]
  have e10 : a1.eval (.tmp 0) = .pointer (some ⟨pb, po, none⟩) := by rw [hf1.slot 0 (by omega), eval_put_ne _ _ _ _ (by omega), e0]
  have e11 : a1.eval (.tmp 1) = .slice none 0 0 := by rw [hf1.slot 1 (by omega), eval_put_ne _ _ _ _ (by omega), e1]
  refine vc_sq (vc_rg (by simp) ?_)
  refine r_move ?_
  refine dn ?_
  have hown : W0.ownsRow W0.heap.size E.tU8 1 (.slice none 0 0) 0 [] := World.ownsRow_nil _ _ _ _
  have hbel : Below W0.heap.size W0 W0 := Grow.below (Eff.refl _ _)
  have hend : ∀ (t1 : Nat) (a2 : Act) (w2 : World), L ≤ t1 → t1 < ntmps → a2.tmps.size = ntmps → a2.defers = [] → WSt P E W0 m.wx ver (m.isFlex ver) a2 w2 ([] ++ m.wfs.wr (m.isFlex ver) ver ds tags) →
      vc P (sq [rg [oMove t1 (.tmp 1) E.tBytes, oAssign 4 (.tmp t1) E.tBytes], .ret]) (Out P #[.tmp 4] fun v w => w.ownsRow W0.heap.size E.tU8 1 v (m.wfs.wr (m.isFlex ver) ver ds tags).length ((m.wfs.wr (m.isFlex ver) ver ds tags).map bv) ∧ Below W0.heap.size W0 w) a2 w2 := by
    intro t1 a2 w2 hLt htn hs2 hd2 hst
    refine vc_sq (vc_rg (by simp) ?_)
    refine r_move ?_
    refine r_assign ?_
    refine dn ?_
    refine vc_sq (vc_ret ?_)
    refine ⟨by simp only [defers_put]; exact hd2, a2.eval (.tmp 1), results_one (by simp (disch := (first | omega | (simp only [sP]; omega))) only [eS, eN, eC]), ?_, hst.below⟩
    simpa using hst.own
  cases hfl : m.flex with
  | none =>
    simp only [hfl] at htop hloc ⊢
    have hfx : m.isFlex ver = false := by simp [Msg.isFlex, hfl]
    have hx : m.wx = ⟨5, none⟩ := by simp [Msg.wx, hfl]
    refine vc_sq_append ?_
    generalize hA : a1.put (some (L + 4)) (a1.eval (.tmp 5)) = A
    have hAe : ∀ k, k < L → A.eval (.tmp k) = a1.eval (.tmp k) := fun k hk => by rw [← hA, eval_put_ne _ _ _ _ (by omega)]
    have hAs : A.tmps.size = ntmps := by rw [← hA, size_put, hs1]
    have hAd : A.defers = a1.defers := by rw [← hA, defers_put]
    refine wok_flds (W0 := W0) (sb := sb) H HI m.wfs m.wx ver (m.isFlex ver) L m.TP m.TU 0 m.wi m.wi 6 (L + 5) 0 B pb po A W0 [] cs ds tags _ hokf ⟨by omega, by rw [hx]; exact ⟨by decide, by decide⟩, by rw [hx]; simp, fun _ => hfx, by omega, by omega⟩ (by omega) (by omega) (by omega) (by omega) ?_ (by rw [hAe 0 (by omega), e10]) hc hr (by simpa using hb) ?_
    · exact ⟨hbel, by rw [hAe 1 (by omega), e11]; exact hown, by rw [hx]; exact (hAe 5 (by omega)).trans he5, by rw [hx]; simp⟩
    · intro a2 w2 hf2 hst
      exact hend _ a2 w2 (by omega) (by omega) (by rw [hf2.size, hAs]) (by rw [hf2.defers, hAd, hd1]) hst
  | some f =>
    simp only [hfl] at htop hloc ⊢
    have hfx : m.isFlex ver = decide ((ver : Int) ≥ (f : Int)) := by simp [Msg.isFlex, hfl]
    have hx : m.wx = ⟨5, some 6⟩ := by simp [Msg.wx, hfl]
    simp only [List.cons_append, List.nil_append, List.append_assoc]
    refine vc_sq (vc_rg (by simp) ?_)
    refine r_move ?_
    refine r_geq (k := .i16) (m := (ver : Int)) (n := (f : Int)) (by simp (disch := (first | omega | (simp only [sP]; omega))) only [eS, eN, eC, he5]) rfl ?_
    refine r_assign ?_
    refine dn ?_
    generalize hB : (((a1.put (some (L + 4)) (a1.eval (.tmp 5))).put (some (L + 5)) _).put (some (L + 6)) (Value.bool (decide ((ver : Int) ≥ (f : Int))))).put (some 6) _ = Bf
    have hBe : ∀ k, k < L → k ≠ 6 → Bf.eval (.tmp k) = a1.eval (.tmp k) := fun k hk hk' => by rw [← hB]; simp (disch := (first | omega | (simp only [sP]; omega))) only [eS, eN, eC]
    have hB6 : Bf.eval (.tmp 6) = .bool (m.isFlex ver) := by rw [← hB, hfx]; simp (disch := (first | omega | (simp only [sP]; omega))) only [eS, eN, eC]
    have hBs : Bf.tmps.size = ntmps := by rw [← hB]; simp only [size_put]; exact hs1
    have hBd : Bf.defers = a1.defers := by rw [← hB]; simp only [defers_put]
    clear hB
    refine vc_sq (vc_rg (by simp) ?_)
    refine r_move ?_
    refine dn ?_
    refine vc_sq_append ?_
    generalize hA : Bf.put (some (L + 7)) (Bf.eval (.tmp 6)) = A
    have hAe : ∀ k, k < L → A.eval (.tmp k) = Bf.eval (.tmp k) := fun k hk => by rw [← hA, eval_put_ne _ _ _ _ (by omega)]
    have hAs : A.tmps.size = ntmps := by rw [← hA, size_put, hBs]
    have hAd : A.defers = a1.defers := by rw [← hA, defers_put, hBd]
    refine wok_flds (W0 := W0) (sb := sb) H HI m.wfs m.wx ver (m.isFlex ver) L m.TP m.TU 0 m.wi m.wi 7 (L + 8) 0 B pb po A W0 [] cs ds tags _ hokf ⟨by omega, by rw [hx]; exact ⟨by decide, by decide⟩, by rw [hx]; simp, by rw [hx]; simp, by omega, by omega⟩ (by omega) (by omega) (by omega) (by omega) ?_ (by rw [hAe 0 (by omega), hBe 0 (by omega) (by omega), e10]) hc hr (by simpa using hb) ?_
    · exact ⟨hbel, by rw [hAe 1 (by omega), hBe 1 (by omega) (by omega), e11]; exact hown, by rw [hx]; exact (hAe 5 (by omega)).trans ((hBe 5 (by omega) (by omega)).trans he5), by rw [hx]; intro f' hf'; simp only [Option.some.injEq] at hf'; subst hf'; exact (hAe 6 (by omega)).trans hB6⟩
    · intro a2 w2 hf2 hst
      exact hend _ a2 w2 (by omega) (by omega) (by rw [hf2.size, hAs]) (by rw [hf2.defers, hAd, hd1]) hst
end
end Go.Km
