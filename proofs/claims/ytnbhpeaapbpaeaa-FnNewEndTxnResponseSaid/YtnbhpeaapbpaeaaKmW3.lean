/- What AppendTo writes: lists, structs; every shape; the whole function. -/
import Derived.Test.YtnbhpeaapbpaeaaKmW2
set_option linter.unusedSimpArgs false
set_option linter.unusedVariables false
namespace Go.Km
open Go Go.RowKit
attribute [local irreducible] vc runOps runG

section
variable {P : Program} {E : Env} {W0 : World} {sb : Sb}

theorem wok_struct (TP TU : TypeId) (FD : FuncId) (fs : Flds) (h : fs.WOk P E W0 sb) : (Ty.struct TP TU FD fs).WOk P E W0 sb := by
  intro x ver fx L v n t b B a w xs cs d Q hok hs hv hv1 hn ht hst hh hr hb k
  cases d with
  | obj ds tags =>
    simp only [Ty.Rep] at hr
    simp only [Ty.Holds, Ty.tp] at hh
    obtain ⟨pb, po, hp, hc⟩ := hh
    simp only [Ty.wr] at hb k
    simp only [Ty.wc]
    exact h x ver fx L TP TU v 0 0 n t b B pb po a w xs cs ds tags Q hok hs hv hv1 hn ht hst hp (by simpa using hc) hr hb k
  | _ => exact absurd hr (by simp [Ty.Rep])

/-- The count ahead of a list. -/
def listHead (null : Bool) (fx : Bool) (o : Option (List D)) : List UInt8 := if null && o.isNone then wrNull fx else wrLen fx (o.getD []).length
theorem wr_list (fx : Bool) (ver : Nat) (TS : TypeId) (null : Option Nat) (e : Ty) (o : Option (List D)) :
    (Ty.list TS null e).wr fx ver (.list o) = listHead null.isSome fx o ++ ((o.getD []).map fun d => e.wr fx ver d).flatten := by
  cases o with
  | none => cases null <;> simp [Ty.wr, listHead]
  | some l => simp [Ty.wr, listHead]

theorem w_lens (H : EnvW P E sb.T) {x : Cx} {ver : Nat} {fx : Bool} {TS e : TypeId} {sz L v n t len cap : Nat} {ad : Option Addr} {a : Act} {w : World} {xs : List UInt8} {o : Option (List D)} {null : Bool} {Q : Exit → Act → World → Prop}
    (hok : (if null then x.ok E.wCNLen E.wNLen else x.ok E.wCLen E.wLen) = true) (hT : sliceT P TS = some (e, sz))
    (hs : WSl x L n t fx) (hv : v < n) (hv1 : v ≠ 1) (hsz : t + x.nt (if null then 6 else 4) ≤ a.tmps.size) (hst : WSt P E W0 x ver fx a w xs) (ha : a.eval (.tmp v) = .slice ad len cap)
    (hlen : len = (o.getD []).length) (had : ad.isNone = o.isNone) (hbig : len ≤ big) (hb : xs.length + (listHead null fx o).length ≤ big)
    (k : ∀ a' w', Fr (KW L n t) a a' → WSt P E W0 x ver fx a' w' (xs ++ listHead null fx o) → Q .normal a' w') :
    vc P (if null = true then wFlex E x t 6 (wNLens E E.wCNLen TS v) (wNLens E E.wNLen TS v) else wFlex E x t 4 (wLens E E.wCLen TS v) (wLens E E.wLen TS v)) Q a w := by
  have h1 := hs.one; have h2 := hs.nL; have h3 := hs.Lt
  cases null with
  | true =>
    simp only [if_true] at hok hsz ⊢
    obtain ⟨hG, hF⟩ := Cx.ok_inv hok
    have hd : ∀ f, listHead true f o = if ad.isNone = true then wrNull f else wrLen f len := by
      intro f
      rw [had, hlen]
      cases o <;> simp [listHead]
    rw [hd] at hb
    refine m_flex (K := KW L n t) (fx := fx) (fun f hf => ⟨hst.fl f hf, by have := (hs.fl f hf).1; omega⟩) hs.no hs.kt (by omega) hsz ?_ ?_
    · intro hfx a' t' hf ht' hsz' he
      subst hfx
      have hs' := hs.up (Nat.le_refl n) hs.nL ht'
      have hst' := hst.fr hs hf (he 1 (by omega))
      refine m_nlens (K := KW L n t') rfl (by rw [he v (by omega)]; exact ha) hT (H.cnlen (hF _ hs.no rfl) len ad.isNone _ _ hbig _ xs hst'.own hst'.size hb) hs'.kt hs'.k1 (by omega) (by omega) (by rw [hf.size]; exact hsz') ?_
      intro a2 v2 w2 hf2 e2 hS
      rw [← hd] at hS
      exact k a2 w2 (hf.trans (hf2.mono (KW.mono (Nat.le_refl _) ht'))) (hst'.step hs' hf2 e2 hS)
    · intro hfx a' t' hf ht' hsz' he
      subst hfx
      have hs' := hs.up (Nat.le_refl n) hs.nL ht'
      have hst' := hst.fr hs hf (he 1 (by omega))
      refine m_nlens (K := KW L n t') rfl (by rw [he v (by omega)]; exact ha) hT (H.nlen hG len ad.isNone _ _ hbig _ xs hst'.own hst'.size hb) hs'.kt hs'.k1 (by omega) (by omega) (by rw [hf.size]; exact hsz') ?_
      intro a2 v2 w2 hf2 e2 hS
      rw [← hd] at hS
      exact k a2 w2 (hf.trans (hf2.mono (KW.mono (Nat.le_refl _) ht'))) (hst'.step hs' hf2 e2 hS)
  | false =>
    simp only [Bool.false_eq_true, if_false] at hok hsz ⊢
    obtain ⟨hG, hF⟩ := Cx.ok_inv hok
    have hd : ∀ f, listHead false f o = wrLen f len := by
      intro f
      rw [hlen]
      simp [listHead]
    rw [hd] at hb
    refine m_flex (K := KW L n t) (fx := fx) (fun f hf => ⟨hst.fl f hf, by have := (hs.fl f hf).1; omega⟩) hs.no hs.kt (by omega) hsz ?_ ?_
    · intro hfx a' t' hf ht' hsz' he
      subst hfx
      have hs' := hs.up (Nat.le_refl n) hs.nL ht'
      have hst' := hst.fr hs hf (he 1 (by omega))
      refine m_lens (K := KW L n t') rfl (by rw [he v (by omega)]; exact ha) hT (H.clen (hF _ hs.no rfl) len _ _ hbig _ xs hst'.own hst'.size hb) hs'.kt hs'.k1 (by omega) (by omega) (by rw [hf.size]; exact hsz') ?_
      intro a2 v2 w2 hf2 e2 hS
      rw [← hd] at hS
      exact k a2 w2 (hf.trans (hf2.mono (KW.mono (Nat.le_refl _) ht'))) (hst'.step hs' hf2 e2 hS)
    · intro hfx a' t' hf ht' hsz' he
      subst hfx
      have hs' := hs.up (Nat.le_refl n) hs.nL ht'
      have hst' := hst.fr hs hf (he 1 (by omega))
      refine m_lens (K := KW L n t') rfl (by rw [he v (by omega)]; exact ha) hT (H.len hG len _ _ hbig _ xs hst'.own hst'.size hb) hs'.kt hs'.k1 (by omega) (by omega) (by rw [hf.size]; exact hsz') ?_
      intro a2 v2 w2 hf2 e2 hS
      rw [← hd] at hS
      exact k a2 w2 (hf.trans (hf2.mono (KW.mono (Nat.le_refl _) ht'))) (hst'.step hs' hf2 e2 hS)

theorem flatten_take {α : Type} (l : List D) (f : D → List α) (i : Nat) (h : i < l.length) : ((l.take (i + 1)).map f).flatten = ((l.take i).map f).flatten ++ f l[i] := by
  rw [List.take_succ_eq_append_getElem h, List.map_append, List.flatten_append]
  simp
theorem flatten_take_le {α : Type} (l : List D) (f : D → List α) (i : Nat) : ((l.take i).map f).flatten.length ≤ ((l.map f).flatten).length := by
  have : l = l.take i ++ l.drop i := (List.take_append_drop i l).symm
  conv => rhs; rw [this]
  rw [List.map_append, List.flatten_append, List.length_append]
  omega

set_option maxHeartbeats 1000000 in
theorem wok_list (H : EnvW P E sb.T) (TS : TypeId) (null : Option Nat) (e : Ty) (he : e.WOk P E W0 sb) (hrep : ∀ cs B d, e.Rep W0 sb B cs d → e.tp = none → e.arr = false → ∃ u, cs = [u]) : (Ty.list TS null e).WOk P E W0 sb := by
  intro x ver fx L v n t b B a w xs cs d Q hok hs hv hv1 hn ht hst hh hr hb k
  have h1 := hs.one; have h2 := hs.nL; have h3 := hs.Lt
  simp only [Ty.okW, Bool.and_eq_true, Bool.not_eq_true'] at hok
  obtain ⟨⟨⟨⟨hfn, hTS⟩, hslice⟩, hearr⟩, hoke⟩ := hok
  obtain ⟨te, hT⟩ := sliceB_inv hslice
  have hh' : cs = [a.eval (.tmp v)] := by simpa [Ty.Holds, Ty.tp, Ty.arr] using hh
  subst hh'
  simp only [Ty.wn] at hn
  simp only [Ty.wt] at ht
  cases d with
  | list o =>
    rw [wr_list] at hb k
    -- what the slot holds
    obtain ⟨ad, cap, ha, had, hbig, hel⟩ : ∃ ad cap, a.eval (.tmp v) = .slice ad (o.getD []).length cap ∧ ad.isNone = o.isNone ∧ (o.getD []).length ≤ big ∧
        ∀ (i : Nat) (h : i < (o.getD []).length), ∃ q, ad = some ⟨q, 0, none⟩ ∧ q < W0.heap.size ∧ ∃ c : List Value, c.length = e.size ∧ Cells W0 q (i * e.size) c ∧ e.Rep W0 sb (q + 1) c (o.getD [])[i] := by
      cases o with
      | none =>
        simp only [Ty.Rep, List.cons.injEq, and_true] at hr
        exact ⟨none, 0, hr, rfl, Nat.zero_le _, fun i h => by simp at h⟩
      | some l =>
        simp only [Ty.Rep] at hr
        obtain ⟨q, cap, hv', hB, hq, hbg, hall⟩ := hr
        simp only [List.cons.injEq, and_true] at hv'
        refine ⟨some ⟨q, 0, none⟩, cap, hv', rfl, hbg, fun i h => ⟨q, rfl, hq, ?_⟩⟩
        exact hall i _ (List.getElem?_eq_getElem h)
    generalize hl : o.getD [] = l at *
    have hh0 : (listHead null.isSome fx o).length ≤ (listHead null.isSome fx o ++ (l.map fun d => e.wr fx ver d).flatten).length := by simp
    simp only [Ty.wc]
    generalize ht1 : t + x.nt (if null.isSome = true then 6 else 4) = t1 at *
    have htt1 : t ≤ t1 := by omega
    refine vc_sq (w_lens H hfn hT hs hv hv1 (by rw [ht1]; omega) hst ha (by rw [hl]) had hbig (by omega) ?_)
    intro a1 w1 hf1 hst1
    have hav1 : a1.eval (.tmp v) = .slice ad l.length cap := by rw [hf1.slot v ⟨hv1, .inl hv⟩]; exact ha
    have hs1 : WSl x L n t1 fx := hs.up (Nat.le_refl _) hs.nL htt1
    -- the state at the head of round i
    let I : Nat → Act → World → Prop := fun i a' w' => Fr (KW L n t) a a' ∧ WSt P E W0 x ver fx a' w' (xs ++ listHead null.isSome fx o ++ ((l.take i).map fun d => e.wr fx ver d).flatten)
    have stab : ∀ i a' a2 w', I i a' w' → a2.tmps.size = a'.tmps.size → a2.defers = a'.defers → (∀ k, k < t1 → a2.eval (.tmp k) = a'.eval (.tmp k)) → I i a2 w' := by
      rintro i a' a2 w' ⟨hfr, hw⟩ hsz hdf hsl
      refine ⟨⟨hsz.trans hfr.size, hdf.trans hfr.defers, fun k hk => ?_⟩, ⟨hw.below, by rw [hsl 1 (by omega)]; exact hw.own, by rw [hsl x.vs (by have := hs.vs.1; omega)]; exact hw.ver, fun f hf => by rw [hsl f (by have := (hs.fl f hf).1; omega)]; exact hw.fl f hf⟩⟩
      rw [hsl k (by have := hk.2; omega)]
      exact hfr.slot k hk
    have hI0 : I 0 a1 w1 := ⟨hf1, by simpa using hst1⟩
    have hdone : ∀ a' w', I l.length a' w' → vc P (sq []) Q a' w' := by
      rintro a' w' ⟨hfr, hw⟩
      refine vc_sq_nil (k a' w' hfr ?_)
      rw [List.take_length] at hw
      simpa [List.append_assoc] using hw
    have hsize1 : a1.tmps.size = a.tmps.size := hf1.size
    refine vc_sq ?_
    cases htp : e.tp with
    | some TP' =>
      have hh : e.h = 3 := by simp [Ty.h, htp]
      rw [hh] at ht
      refine m_wloop hav1 hT (by unfold big at hbig; omega) (by omega) (by omega) (by omega) I stab hI0 ?_ hdone
      intro i a2 w2 hi ⟨hfr2, hw2⟩ hcnt hsz2
      obtain ⟨q, rfl, hq, c, hcl, hcc, hrc⟩ := hel i hi
      have hav2 : a2.eval (.tmp v) = .slice (some ⟨q, 0, none⟩) l.length cap := by rw [hfr2.slot v ⟨hv1, .inl hv⟩]; exact ha
      refine vc_sq (vc_rg (by simp) ?_)
      refine r_move ?_
      refine r_assign ?_
      refine dn ?_
      refine vc_sq (vc_rg (by simp) ?_)
      refine r_move ?_
      refine r_move ?_
      refine r_index (j := i) (k := .i64) (b := q) (o := 0) (len := l.length) (cap := cap) hT (by simp (disch := (first | omega | (simp only [sP]; omega))) only [eS, eN, eC, hav2]) (by simp (disch := (first | omega | (simp only [sP]; omega))) only [eS, eN, eC, hcnt]) hi ?_
      refine r_assign ?_
      refine dn ?_
      generalize hA : ((((((a2.put (some (t1 + 4)) (a2.eval (.tmp (t1 + 2)))).put (some n) ((a2.put (some (t1 + 4)) (a2.eval (.tmp (t1 + 2)))).eval (.tmp (t1 + 4))))).put (some (t1 + 5)) _).put (some (t1 + 6)) _).put (some (t1 + 7)) (.pointer (some ⟨q, 0 + i * e.size, none⟩))) = A
      have hA7 : A.eval (.tmp (t1 + 7)) = .pointer (some ⟨q, 0 + i * e.size, none⟩) := by rw [← hA]; simp (disch := (first | omega | (simp only [sP]; omega))) only [eS, eN, eC]
      have hAk : ∀ k, k ≠ n → k < t1 + 4 → A.eval (.tmp k) = a2.eval (.tmp k) := by intro k hk hkt; rw [← hA]; simp (disch := (first | omega | (simp only [sP]; omega))) only [eS, eN, eC]
      have hAs : A.tmps.size = a2.tmps.size := by rw [← hA]; simp only [size_put]
      have hAd : A.defers = a2.defers := by rw [← hA]; simp only [defers_put]
      have hB1 : ∀ k, k ≠ n → k ≠ n + 1 → k < t1 + 4 → (A.put (some (n + 1)) (A.eval (.tmp (t1 + 7)))).eval (.tmp k) = a2.eval (.tmp k) := by
        intro k h h' h''
        rw [eval_put_ne _ _ _ _ (by omega)]
        exact hAk k h h''
      have hBf : Fr (KW L n t) a2 (A.put (some (n + 1)) (A.eval (.tmp (t1 + 7)))) := ⟨by rw [size_put, hAs], by rw [defers_put, hAd], fun k hk => hB1 k (by have := hk.2; omega) (by have := hk.2; omega) (by have := hk.2; omega)⟩
      have hstB := hw2.fr hs hBf (hB1 1 (by omega) (by omega) (by omega))
      refine he x ver fx L (n + 1) (n + 2) (t1 + 8) (b + 2) (q + 1) _ w2 _ c l[i] _ hoke (hs.up (by omega) (by omega) (by omega)) (by omega) (by omega) (by omega) (by rw [hBf.size]; omega) hstB ?_ hrc ?_ ?_
      · simp only [Ty.Holds, htp]
        refine ⟨q, 0 + i * e.size, ?_, by rw [Nat.zero_add]; exact hcc⟩
        rw [eval_put_same _ _ _ (by rw [hAs]; omega), hA7]
      · have := flatten_take_le l (fun d => e.wr fx ver d) (i + 1)
        rw [flatten_take _ _ _ hi] at this
        simp only [List.length_append] at this hb ⊢
        omega
      · intro a3 w3 hf3 hst3
        refine ⟨⟨(hfr2.trans hBf).trans (hf3.mono (KW.mono (by omega) (by omega))), ?_⟩, ?_, ?_, ?_⟩
        · rw [flatten_take _ _ _ hi]
          simpa [List.append_assoc] using hst3
        · rw [hf3.slot (t1 + 2) ⟨by omega, .inr ⟨by omega, by omega⟩⟩]; exact hB1 _ (by omega) (by omega) (by omega)
        · rw [hf3.slot (t1 + 1) ⟨by omega, .inr ⟨by omega, by omega⟩⟩]; exact hB1 _ (by omega) (by omega) (by omega)
        · rw [hf3.size, hBf.size]
    | none =>
      have hh : e.h = 4 := by simp [Ty.h, htp]
      rw [hh] at ht
      obtain ⟨hone, hsz1⟩ := okW_one hoke htp hearr
      refine m_wloop hav1 hT (by unfold big at hbig; omega) (by omega) (by omega) (by omega) I stab hI0 ?_ hdone
      intro i a2 w2 hi ⟨hfr2, hw2⟩ hcnt hsz2
      obtain ⟨q, rfl, hq, c, hcl, hcc, hrc⟩ := hel i hi
      have hav2 : a2.eval (.tmp v) = .slice (some ⟨q, 0, none⟩) l.length cap := by rw [hfr2.slot v ⟨hv1, .inl hv⟩]; exact ha
      obtain ⟨u, rfl⟩ := hrep _ _ _ hrc htp hearr
      have hcu : w2.cell? ⟨q, 0 + i * e.size, none⟩ = some u := by
        have := hcc 0 u rfl
        rw [Nat.add_zero] at this
        rw [Nat.zero_add, hw2.below.cell (p := ⟨q, i * e.size, none⟩) hq]
        exact this
      refine vc_sq (vc_rg (by simp) ?_)
      refine r_move ?_
      refine r_assign ?_
      refine dn ?_
      refine vc_sq (vc_rg (by simp) ?_)
      refine r_move ?_
      refine r_move ?_
      refine r_index (j := i) (k := .i64) (b := q) (o := 0) (len := l.length) (cap := cap) hT (by simp (disch := (first | omega | (simp only [sP]; omega))) only [eS, eN, eC, hav2]) (by simp (disch := (first | omega | (simp only [sP]; omega))) only [eS, eN, eC, hcnt]) hi ?_
      refine r_load (b := q) (o := 0 + i * e.size) (by simp (disch := (first | omega | (simp only [sP]; omega))) only [eS, eN, eC]) hone hcu ?_
      refine r_assign ?_
      refine dn ?_
      generalize hA : (((((((a2.put (some (t1 + 4)) (a2.eval (.tmp (t1 + 2)))).put (some n) ((a2.put (some (t1 + 4)) (a2.eval (.tmp (t1 + 2)))).eval (.tmp (t1 + 4))))).put (some (t1 + 5)) _).put (some (t1 + 6)) _).put (some (t1 + 7)) (.pointer (some ⟨q, 0 + i * e.size, none⟩))).put (some (t1 + 8)) u) = A
      have hA7 : A.eval (.tmp (t1 + 8)) = u := by rw [← hA]; simp (disch := (first | omega | (simp only [sP]; omega))) only [eS, eN, eC]
      have hAk : ∀ k, k ≠ n → k < t1 + 4 → A.eval (.tmp k) = a2.eval (.tmp k) := by intro k hk hkt; rw [← hA]; simp (disch := (first | omega | (simp only [sP]; omega))) only [eS, eN, eC]
      have hAs : A.tmps.size = a2.tmps.size := by rw [← hA]; simp only [size_put]
      have hAd : A.defers = a2.defers := by rw [← hA]; simp only [defers_put]
      have hB1 : ∀ k, k ≠ n → k ≠ n + 1 → k < t1 + 4 → (A.put (some (n + 1)) (A.eval (.tmp (t1 + 8)))).eval (.tmp k) = a2.eval (.tmp k) := by
        intro k h h' h''
        rw [eval_put_ne _ _ _ _ (by omega)]
        exact hAk k h h''
      have hBf : Fr (KW L n t) a2 (A.put (some (n + 1)) (A.eval (.tmp (t1 + 8)))) := ⟨by rw [size_put, hAs], by rw [defers_put, hAd], fun k hk => hB1 k (by have := hk.2; omega) (by have := hk.2; omega) (by have := hk.2; omega)⟩
      have hstB := hw2.fr hs hBf (hB1 1 (by omega) (by omega) (by omega))
      refine he x ver fx L (n + 1) (n + 2) (t1 + 9) (b + 2) (q + 1) _ w2 _ [u] l[i] _ hoke (hs.up (by omega) (by omega) (by omega)) (by omega) (by omega) (by omega) (by rw [hBf.size]; omega) hstB ?_ hrc ?_ ?_
      · simp only [Ty.Holds, htp, hearr, Bool.false_eq_true, if_false]
        rw [eval_put_same _ _ _ (by rw [hAs]; omega), hA7]
      · have := flatten_take_le l (fun d => e.wr fx ver d) (i + 1)
        rw [flatten_take _ _ _ hi] at this
        simp only [List.length_append] at this hb ⊢
        omega
      · intro a3 w3 hf3 hst3
        refine ⟨⟨(hfr2.trans hBf).trans (hf3.mono (KW.mono (by omega) (by omega))), ?_⟩, ?_, ?_, ?_⟩
        · rw [flatten_take _ _ _ hi]
          simpa [List.append_assoc] using hst3
        · rw [hf3.slot (t1 + 2) ⟨by omega, .inr ⟨by omega, by omega⟩⟩]; exact hB1 _ (by omega) (by omega) (by omega)
        · rw [hf3.slot (t1 + 1) ⟨by omega, .inr ⟨by omega, by omega⟩⟩]; exact hB1 _ (by omega) (by omega) (by omega)
        · rw [hf3.size, hBf.size]
  | _ => exact absurd hr (by simp [Ty.Rep])
end
end Go.Km
