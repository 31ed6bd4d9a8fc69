/- The loop 'for i := range x' of AppendTo. -/
import Derived.Test.YtnbhpeaapbpaeaaKmMac
import Derived.IntWalk
set_option linter.unusedSimpArgs false
set_option linter.unusedVariables false
namespace Go.Km
open Go Go.RowKit
attribute [local irreducible] vc runOps runG

theorem wrap_i64 {n : Int} (h0 : -9223372036854775808 ≤ n) (h1 : n ≤ 9223372036854775807) : IntKind.i64.wrap n = n := IntWalk.i64_in n ⟨h0, h1⟩

section
variable {P : Program} {Q : Exit → Act → World → Prop} {a : Act} {w : World}

set_option maxHeartbeats 1000000 in
theorem m_wloop {E : Env} {T e : TypeId} {s x t b post len cap : Nat} {ad : Option Addr} {body : Code} (hx : a.eval (.tmp x) = .slice ad len cap) (hT : sliceT P T = some (e, s)) (hlen : len ≤ 9223372036854775806)
    (hxt : x < t) (hpost : t + 4 ≤ post) (hsz : post < a.tmps.size) (I : Nat → Act → World → Prop)
    (stab : ∀ i a a' w, I i a w → a'.tmps.size = a.tmps.size → a'.defers = a.defers → (∀ k, k < t → a'.eval (.tmp k) = a.eval (.tmp k)) → I i a' w)
    (h0 : I 0 a w)
    (step : ∀ i a' w', i < len → I i a' w' → a'.eval (.tmp (t + 2)) = .int .i64 (i : Int) → a'.tmps.size = a.tmps.size →
      vc P body (fun | .normal => fun a2 w2 => I (i + 1) a2 w2 ∧ a2.eval (.tmp (t + 2)) = a'.eval (.tmp (t + 2)) ∧ a2.eval (.tmp (t + 1)) = a'.eval (.tmp (t + 1)) ∧ a2.tmps.size = a'.tmps.size | _ => fun _ _ => False) a' w')
    (done : ∀ a' w', I len a' w' → Q .normal a' w') : vc P (wLoop E T x t b post body) Q a w := by
  unfold wLoop
  refine vc_sq (vc_rg (by simp) ?_)
  refine r_move ?_
  refine r_len (ad := ad) (n := len) (c := cap) hT (by simp (disch := (first | omega | (simp only [sP]; omega))) only [eS, eN, eC, hx]) ?_
  refine r_move ?_
  refine dn ?_
  refine vc_sq (vc_block ?_)
  refine vc_loop (fun a' w' => ∃ i, i ≤ len ∧ I i a' w' ∧ a'.eval (.tmp (t + 2)) = .int .i64 (i : Int) ∧ a'.eval (.tmp (t + 1)) = .int .i64 (len : Int) ∧ a'.tmps.size = a.tmps.size)
    (fun a' _ => len - (intOf (a'.eval (.tmp (t + 2)))).toNat) ?_ ?_
  · refine ⟨0, Nat.zero_le _, stab 0 a _ w h0 (by simp only [size_put]) (by simp only [defers_put]) (fun k hk => by simp (disch := (first | omega | (simp only [sP]; omega))) only [eS, eN, eC]), ?_, ?_, by simp only [size_put]⟩
    · simp (disch := (first | omega | (simp only [size_put]; omega))) only [eval_put_same]; rfl
    · simp (disch := (first | omega | (simp only [sP]; omega))) only [eS, eN, eC]
  rintro a1 w1 ⟨i, hi, hI, h2, h1, hs1⟩
  refine vc_sq (vc_rg (by simp) ?_)
  refine r_lss (k := .i64) (m := i) (n := len) h2 h1 ?_
  refine dn ?_
  refine vc_sq (vc_cond (t := decide ((i : Int) < len)) (by simp (disch := (first | omega | (simp only [sP]; omega))) only [eS, eN, eC]) ?_ ?_)
  · intro hlt
    have hlt' : i < len := by simpa using hlt
    refine vc_skip ?_
    refine vc_sq (vc_block ?_)
    have hI' : I i (a1.put (some (t + 3)) (.bool (decide ((i : Int) < len)))) w1 := stab i a1 _ w1 hI (size_put _ _ _) (defers_put _ _ _) (fun k hk => eval_put_ne _ _ _ _ (by omega))
    refine vc_mono _ (step i _ w1 hlt' hI' (by rw [eval_put_ne _ _ _ _ (by omega)]; exact h2) (by rw [size_put]; exact hs1)) ?_
    intro ex a2 w2 h
    cases ex with
    | normal =>
      obtain ⟨hI2, e2, e1, hs2⟩ := h
      have e2' : a2.eval (.tmp (t + 2)) = .int .i64 (i : Int) := by rw [e2, eval_put_ne _ _ _ _ (by omega)]; exact h2
      have e1' : a2.eval (.tmp (t + 1)) = .int .i64 (len : Int) := by rw [e1, eval_put_ne _ _ _ _ (by omega)]; exact h1
      have hs2' : a2.tmps.size = a.tmps.size := by rw [hs2, size_put]; exact hs1
      refine vc_sq (vc_rg (by simp) ?_)
      refine r_add (k := .i64) (m := i) (n := 1) e2' rfl ?_
      refine r_move ?_
      refine dn ?_
      refine vc_sq_nil ?_
      have hw : IntKind.i64.wrap ((i : Int) + 1) = ((i + 1 : Nat) : Int) := by rw [wrap_i64 (by omega) (by omega)]; omega
      have hps : post < a2.tmps.size := by omega
      have e3 : ((a2.put (some post) (.int .i64 (IntKind.i64.wrap ((i : Int) + 1)))).put (some (t + 2)) ((a2.put (some post) (.int .i64 (IntKind.i64.wrap ((i : Int) + 1)))).eval (.tmp post))).eval (.tmp (t + 2)) = .int .i64 ((i + 1 : Nat) : Int) := by
        rw [eval_put_same _ _ _ (by rw [size_put]; omega), eval_put_same _ _ _ hps, hw]
      refine ⟨⟨i + 1, hlt', stab (i + 1) a2 _ w2 hI2 (by simp only [size_put]) (by simp only [defers_put]) (fun k hk => by simp (disch := (first | omega | (simp only [sP]; omega))) only [eS, eN, eC]), e3, ?_, by simp only [size_put]; exact hs2'⟩, ?_⟩
      · rw [eval_put_ne _ _ _ _ (by omega), eval_put_ne _ _ _ _ (by omega)]; exact e1'
      · show len - (intOf _).toNat < len - (intOf _).toNat
        rw [e3, h2]
        simp only [intOf, Int.toNat_natCast]
        omega
    | _ => exact h.elim
  · intro hge
    have hi' : i = len := by simp at hge; omega
    subst hi'
    refine vc_exit ?_
    show Exit.inBlock b _ (.exit b) _ _
    simp only [Exit.inBlock, if_true]
    exact vc_sq_nil (done _ _ (stab i a1 _ w1 hI (size_put _ _ _) (defers_put _ _ _) (fun k hk => eval_put_ne _ _ _ _ (by omega))))
end
end Go.Km
