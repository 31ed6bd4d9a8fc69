/- What AppendTo writes: tags, fields, lists, structs; every shape. -/
import Derived.Test.YtnbhpeaapbpaeaaKmW
set_option linter.unusedSimpArgs false
set_option linter.unusedVariables false
namespace Go.Km
open Go Go.RowKit
attribute [local irreducible] vc runOps runG

theorem uvF_pos (f n : Nat) : 1 ≤ (uvF f n).length := by
  cases f with
  | zero => simp [uvF]
  | succ f => simp only [uvF]; split <;> simp
theorem uvar_pos (n : Nat) : 1 ≤ (uvar n).length := uvF_pos 9 n
theorem tags_short (tags : List (Nat × List UInt8)) : tags.length ≤ ((tags.map wrTag).flatten).length := by
  induction tags with
  | nil => simp
  | cons x l ih =>
    have := uvar_pos x.1
    simp only [List.map_cons, List.flatten_cons, List.length_cons, List.length_append, wrTag]
    omega

section
variable {P : Program} {E : Env} {W0 : World} {sb : Sb}

/-- The types of numbers that the code of tags turns. -/
structure EnvI (P : Program) (E : Env) : Prop where
  int : intT P E.tInt = some .i64
  u32 : intT P E.tU32 = some .u32

theorem ownsRow_grow {w w' : World} {B e s : Nat} {v : Value} {n : Nat} {xs : List Value} (h : w.ownsRow B e s v n xs) (hg : Grow w w') : w'.ownsRow B e s v n xs := by
  refine ⟨h.1, ?_⟩
  rcases h.2 with hn | ⟨g, cap, cur, hv, hb, hh, r⟩
  · exact .inl hn
  · refine .inr ⟨g, cap, cur, hv, hb, ?_, r⟩
    rw [hg.blockEq (Array.getElem?_eq_some_iff.1 hh).1 (fun _ h => h)]
    exact hh
theorem Cells.mono_sb {w : World} : True := trivial
theorem OctRep.mono {w : World} {B B' : Nat} {v : Value} {l : List UInt8} (h : OctRep w sb B v l) (hB : B' ≤ B) : OctRep w sb B' v l := by
  rcases h with h | ⟨c, o, cap, hv, hc, h⟩
  · exact .inl h
  · exact .inr ⟨c, o, cap, hv, hc.imp id (fun h => by omega), h⟩
theorem TagsRep.mono {w : World} {B B' : Nat} {v : Value} {tags : List (Nat × List UInt8)} (h : TagsRep w sb B v tags) (hB : B' ≤ B) : TagsRep w sb B' v tags := by
  obtain ⟨h1, h0, h2⟩ := h
  refine ⟨h1, h0, ?_⟩
  rcases h2 with h2 | ⟨q, es, clock, hv, hq, hs, hm, hb, hn, l, hl, hsz, he⟩
  · exact .inl h2
  · refine .inr ⟨q, es, clock, hv, by omega, hs, hm, hb, hn, l, hl, hsz, fun i x hx => ?_⟩
    obtain ⟨e, h1, h2, h3⟩ := he i x hx
    exact ⟨e, h1, h2, h3.mono hB⟩

section
variable {Q : Exit → Act → World → Prop} {a : Act} {w : World} {K : Nat → Prop}
/-- 'dst = kbin.AppendUvarint(dst, 0+uint32(s.UnknownTags.Len()))' -/
theorem m_tagsA {TP TU : TypeId} {s f t pb po off : Nat} {dv : Value} {n : Nat} {S1 : World → Prop} {S : Value → World → Prop} (HI : EnvI P E) (hd : a.eval (.tmp 1) = dv) (hp : a.eval (.tmp s) = .pointer (some ⟨pb, po, none⟩)) (hoff : fieldOff P TU f = some off)
    (hlen : CallsV P E.tLen #[.pointer (some ⟨pb, po + off, none⟩)] w fun r w' => r = .int .i64 (n : Int) ∧ S1 w') (hn : n < 4294967296)
    (happ : ∀ w1, S1 w1 → CallsV P E.wUvarint #[dv, .int .u32 (n : Int)] w1 S) (ht : ∀ d, t ≤ d → ¬ K d) (hk1 : ¬ K 1) (h1 : 1 < t) (hst : s < t) (hsz : t + 9 ≤ a.tmps.size)
    (k : ∀ a' v' w', Fr K a a' → a'.eval (.tmp 1) = v' → S v' w' → Q .normal a' w') :
    vc P (rg [oMove (t + 1) (.tmp 1) E.tBytes, oMove (t + 2) (.tmp s) TP, oNil (t + 3) (.tmp (t + 2)), oField (t + 4) TU (.tmp (t + 3)) f, oCall (some (t + 5)) E.tLen #[.tmp (t + 4)] #[E.tTags] E.tInt,
        oConv (t + 6) E.tInt E.tU32 (.tmp (t + 5)), oBin (t + 7) .add E.tU32 (.const (.int .u32 0)) (.tmp (t + 6)) E.tU32 E.tU32,
        oCall (some (t + 8)) E.wUvarint #[.tmp (t + 1), .tmp (t + 7)] #[E.tBytes, E.tU32] E.tBytes, oAssign 1 (.tmp (t + 8)) E.tBytes]) Q a w := by
  have hwr : IntKind.u32.wrap (n : Int) = (n : Int) := IntWalk.u32_in _ ⟨by omega, by omega⟩
  refine vc_rg (by simp) ?_
  refine r_move ?_
  refine r_move ?_
  refine r_nil (ad := ⟨pb, po, none⟩) (by simp (disch := (first | omega | (simp only [sP]; omega))) only [eS, eN, eC, hp]) ?_
  refine r_field (b := pb) (o := po) (by simp (disch := (first | omega | (simp only [sP]; omega))) only [eS, eN, eC]) hoff ?_
  refine r_call' (args := #[.pointer (some ⟨pb, po + off, none⟩)]) ?_ hlen ?_
  · simp only [List.map_toArray, List.map_cons, List.map_nil]
    simp (disch := (first | omega | (simp only [sP]; omega))) only [eS, eN, eC]
  rintro r w1 ⟨rfl, hs1⟩
  refine r_conv (k := .i64) (k' := .u32) (m := n) HI.int HI.u32 (by simp (disch := (first | omega | (simp only [sP]; omega))) only [eS, eN, eC]) ?_
  rw [hwr]
  refine r_add (k := .u32) (m := 0) (n := n) rfl (by simp (disch := (first | omega | (simp only [sP]; omega))) only [eS, eN, eC]) ?_
  rw [Int.zero_add, hwr]
  refine r_call' (args := #[dv, .int .u32 (n : Int)]) ?_ (happ w1 hs1) ?_
  · simp only [List.map_toArray, List.map_cons, List.map_nil]
    simp (disch := (first | omega | (simp only [sP]; omega))) only [eS, eN, eC, hd]
  intro v' w2 hs2
  refine r_assign ?_
  refine dn ?_
  refine k _ v' w2 ?_ (by simp (disch := (first | omega | (simp only [sP]; omega))) only [eS, eN, eC]) hs2
  exact (((((((((Fr.refl K a).put _ (ht _ (by omega))).put _ (ht _ (by omega))).put _ (ht _ (by omega))).put _ (ht _ (by omega))).put _ (ht _ (by omega))).put _ (ht _ (by omega))).put _ (ht _ (by omega))).put _ (ht _ (by omega))).put _ hk1

/-- 'dst = s.UnknownTags.AppendEach(dst)' -/
theorem m_tagsB {TP TU : TypeId} {s f t pb po off : Nat} {dv : Value} {S : Value → World → Prop} (hd : a.eval (.tmp 1) = dv) (hp : a.eval (.tmp s) = .pointer (some ⟨pb, po, none⟩)) (hoff : fieldOff P TU f = some off)
    (hc : CallsV P E.tEach #[.pointer (some ⟨pb, po + off, none⟩), dv] w S) (ht : ∀ d, t ≤ d → ¬ K d) (hk1 : ¬ K 1) (h1 : 1 < t) (hst : s < t) (hsz : t + 14 ≤ a.tmps.size)
    (k : ∀ a' v' w', Fr K a a' → a'.eval (.tmp 1) = v' → S v' w' → Q .normal a' w') :
    vc P (rg [oMove (t + 9) (.tmp s) TP, oNil (t + 10) (.tmp (t + 9)), oField (t + 11) TU (.tmp (t + 10)) f, oMove (t + 12) (.tmp 1) E.tBytes,
        oCall (some (t + 13)) E.tEach #[.tmp (t + 11), .tmp (t + 12)] #[E.tTags, E.tBytes] E.tBytes, oAssign 1 (.tmp (t + 13)) E.tBytes]) Q a w := by
  refine vc_rg (by simp) ?_
  refine r_move ?_
  refine r_nil (ad := ⟨pb, po, none⟩) (by simp (disch := (first | omega | (simp only [sP]; omega))) only [eS, eN, eC, hp]) ?_
  refine r_field (b := pb) (o := po) (by simp (disch := (first | omega | (simp only [sP]; omega))) only [eS, eN, eC]) hoff ?_
  refine r_move ?_
  refine r_call' (args := #[.pointer (some ⟨pb, po + off, none⟩), dv]) ?_ hc ?_
  · simp only [List.map_toArray, List.map_cons, List.map_nil]
    simp (disch := (first | omega | (simp only [sP]; omega))) only [eS, eN, eC, hd]
  intro v' w2 hs2
  refine r_assign ?_
  refine dn ?_
  refine k _ v' w2 ?_ (by simp (disch := (first | omega | (simp only [sP]; omega))) only [eS, eN, eC]) hs2
  exact ((((((Fr.refl K a).put _ (ht _ (by omega))).put _ (ht _ (by omega))).put _ (ht _ (by omega))).put _ (ht _ (by omega))).put _ (ht _ (by omega))).put _ hk1
end

theorem wok_nil (H : EnvW P E sb.T) (HI : EnvI P E) (tg : Bool) : (Flds.nil tg).WOk P E W0 sb := by
  intro x ver fx L TP TU s idx off n t b B pb po a w xs cs ds tags Q hok hs hsn hs1 hn ht hst hp hc hr hb k
  have h1 := hs.one; have h2 := hs.nL; have h3 := hs.Lt
  simp only [Flds.wc, wTags]
  cases hx : x.fl with
  | none =>
    have hfx := hs.no hx
    subst hfx
    refine vc_sq_nil (k a w (Fr.refl _ _) ?_)
    simpa [Flds.wr] using hst
  | some f =>
    simp only [Flds.okW, hx, Option.isNone_some, Bool.false_or, Bool.and_eq_true, bne_iff_ne, ne_eq, beq_iff_eq] at hok
    obtain ⟨⟨⟨⟨rfl, hoff⟩, htl⟩, hte⟩, hu⟩ := hok
    simp only [Flds.wt, hx] at ht
    cases ds with
    | cons d ds => exact absurd hr (by simp [Flds.Rep])
    | nil =>
    simp only [Flds.Rep, if_true] at hr
    obtain ⟨v, rfl, htr0⟩ := hr
    have htr := htr0.mono (Nat.zero_le B)
    have hcv : W0.cell? ⟨pb, po + off, none⟩ = some v := by have := hc 0 v rfl; simpa using this
    have hfl := hst.fl f hx
    have hfn := hs.fl f hx
    refine vc_sq (vc_sq (vc_rg (by simp) ?_))
    refine r_move ?_
    refine dn ?_
    have hf0 : Fr (KW L n t) a (a.put (some t) (a.eval (.tmp f))) := (Fr.refl _ a).put _ (hs.kt t (Nat.le_refl _))
    have hst0 := hst.fr hs hf0 (eval_put_ne _ _ _ _ (by omega))
    have hsz0 : (a.put (some t) (a.eval (.tmp f))).tmps.size = a.tmps.size := size_put _ _ _
    refine vc_sq (vc_cond (t := fx) (by simp (disch := (first | omega | (simp only [sP]; omega))) only [eS, eN, eC, hfl]) ?_ ?_)
    · intro hfx
      subst hfx
      simp only [Flds.wr, if_true] at hb k
      have htb := tags_short tags
      simp only [wrTags, List.length_append] at hb
      have hlt : tags.length < 4294967296 := by unfold big at hb; omega
      refine vc_sq (m_tagsA (K := KW L n t) (n := tags.length) (S1 := Grow w) HI rfl (by rw [eval_put_ne _ _ _ _ (by omega)]; exact hp) hoff (H.tlen htl W0 sb pb (po + off) v tags _ rfl hcv htr hst.below) hlt
        (S := fun v' w' => w'.ownsRow W0.heap.size E.tU8 1 v' (xs ++ uvar tags.length).length ((xs ++ uvar tags.length).map bv) ∧ Below W0.heap.size w w') ?_ hs.kt hs.k1 (by omega) (by omega) (by omega) ?_)
      · intro w1 hg
        refine (H.uvar hu tags.length W0.heap.size w1 hlt _ xs (ownsRow_grow hst0.own hg) (by have := hg.size; have := hst.size; omega) (by omega)).mono ?_
        rintro v' w' ⟨h1, h2⟩
        exact ⟨h1, (hg.below.mono hst.size).trans h2⟩
      intro a1 v1 w1 hf1 e1 hS1
      have hst1 := hst0.step hs hf1 e1 hS1
      refine vc_sq (m_tagsB (K := KW L n t) rfl (by rw [hf1.slot s ⟨hs1, .inl hsn⟩, eval_put_ne _ _ _ _ (by omega)]; exact hp) hoff
        (H.teach hte W0 sb pb (po + off) v tags w1 rfl hcv htr hst1.below _ _ hst1.own (by simp only [List.length_append]; omega)) hs.kt hs.k1 (by omega) (by omega) (by rw [hf1.size]; omega) ?_)
      intro a2 v2 w2 hf2 e2 hS2
      have hst2 := hst1.step hs hf2 e2 hS2
      refine vc_sq_nil (vc_sq_nil (vc_sq_nil (k a2 w2 ((hf0.trans hf1).trans hf2) ?_)))
      simpa [wrTags] using hst2
    · intro hfx
      subst hfx
      refine vc_skip (vc_sq_nil (vc_sq_nil (k _ w hf0 ?_)))
      simpa [Flds.wr] using hst0

/-- The same, dst too. -/
def KW1 (L n t : Nat) (k : Nat) : Prop := k < n ∨ (L ≤ k ∧ k < t)
theorem okW_one {x : Cx} {ty : Ty} (h : ty.okW P E x = true) (h1 : ty.tp = none) (h2 : ty.arr = false) : oneT P (ty.T E) = true ∧ ty.size = 1 := by
  cases ty <;> simp_all [Ty.okW, Ty.tp, Ty.arr, Ty.T, Ty.size]
theorem okW_arr {x : Cx} {ty : Ty} (h : ty.okW P E x = true) (h2 : ty.arr = true) : ty.tp = none ∧ aggT P (ty.T E) = some 16 ∧ zeroAgg P (ty.T E) 16 = true ∧ ty.size = 16 ∧
    ∀ cs B d, ty.Rep W0 sb B cs d → cs.length = 16 ∧ ∀ v ∈ cs, v.oneCell' = true := by
  cases ty <;> simp_all [Ty.okW, Ty.tp, Ty.arr, Ty.T, Ty.size]
  intro cs B d hr
  cases d with
  | bytes o =>
    cases o with
    | none => exact absurd hr (by simp [Ty.Rep])
    | some l =>
      simp only [Ty.Rep] at hr
      obtain ⟨hl, rfl⟩ := hr
      refine ⟨by simp [hl], ?_⟩
      intro v hv
      obtain ⟨b, _, rfl⟩ := List.mem_map.1 hv
      rfl
  | _ => exact absurd hr (by simp [Ty.Rep])

theorem Cells.take {w : World} {b o : Nat} {cs : List Value} (h : Cells w b o cs) (n : Nat) : Cells w b o (cs.take n) := fun i v hv => h i v (by
  rw [List.getElem?_take] at hv
  split at hv
  · exact hv
  · cases hv)
theorem Cells.drop {w : World} {b o : Nat} {cs : List Value} (h : Cells w b o cs) (n : Nat) : Cells w b (o + n) (cs.drop n) := fun i v hv => by
  rw [List.getElem?_drop] at hv
  have := h (n + i) v hv
  rwa [show o + n + i = o + (n + i) by omega]

theorem vc_done {c : Code} {Q : Exit → Act → World → Prop} {a : Act} {w : World} (h : vc P c Q a w) (l : List Code) : vc P c (Exit.then (vc P (sq [])  Q) Q) a w :=
  vc_mono _ h (fun e a w h => by cases e <;> first | exact vc_sq_nil h | exact h)

set_option maxHeartbeats 1000000 in
theorem wok_cons (v : Ver) (ty : Ty) (r : Flds) (hty : ty.WOk P E W0 sb) (hr' : r.WOk P E W0 sb) (hrep : ∀ cs B d, ty.Rep W0 sb B cs d → ty.tp = none → ty.arr = false → ∃ u, cs = [u]) : (Flds.cons v ty r).WOk P E W0 sb := by
  intro x ver fx L TP TU s idx off n t b B pb po a w xs cs ds tags Q hok hs hsn hs1 hn ht hst hp hc hr hb k
  have h1 := hs.one; have h2 := hs.nL; have h3 := hs.Lt
  simp only [Flds.okW, Bool.and_eq_true, beq_iff_eq] at hok
  obtain ⟨⟨hoff, hokt⟩, hokr⟩ := hok
  cases ds with
  | nil => exact absurd hr (by simp [Flds.Rep])
  | cons d ds =>
  simp only [Flds.Rep] at hr
  obtain ⟨hrt, hrr⟩ := hr
  simp only [Flds.wn] at hn
  simp only [Flds.wt] at ht
  simp only [Flds.wr] at hb k
  simp only [Flds.wc]
  -- the rest
  have hrest : ∀ (part : List UInt8) a1 w1, part = (if v.has ver = true then ty.wr fx ver d else []) → Fr (KW L n t) a a1 → WSt P E W0 x ver fx a1 w1 (xs ++ part) →
      vc P (sq (r.wc E x TP TU s (idx + 1) (n + 1 + ty.wn) (t + v.nt + ty.h + ty.wt x) (b + ty.wb))) Q a1 w1 := by
    intro part a1 w1 hpart hf hst1
    refine hr' x ver fx L TP TU s (idx + 1) (off + ty.size) (n + 1 + ty.wn) _ (b + ty.wb) B pb po a1 w1 (xs ++ part) (cs.drop ty.size) ds tags Q hokr (hs.up (by omega) (by omega) (by omega)) (by omega) hs1 (by omega) (by rw [hf.size]; omega) hst1 (by rw [hf.slot s ⟨hs1, .inl hsn⟩]; exact hp) (by have := hc.drop ty.size; rwa [Nat.add_assoc] at this) hrr ?_ ?_
    · rw [hpart]
      simp only [List.length_append] at hb ⊢
      omega
    · intro a2 w2 hf2 hst2
      refine k a2 w2 (hf.trans (hf2.mono (KW.mono (by omega) (by omega)))) ?_
      rw [hpart] at hst2
      simpa [List.append_assoc] using hst2
  refine vc_sq (m_ver (K := KW L n t) hst.ver (by have := hs.vs.1; omega) hs.kt (by omega) ?_ ?_)
  · intro hhas a0 hf0 he0
    have hst0 := hst.fr hs hf0 (he0 1 (by omega))
    have hp0 : a0.eval (.tmp s) = .pointer (some ⟨pb, po, none⟩) := by rw [he0 s (by omega)]; exact hp
    have hsz0 := hf0.size
    have hpart : ty.wr fx ver d = (if v.has ver = true then ty.wr fx ver d else []) := by rw [if_pos hhas]
    have hbt : xs.length + (ty.wr fx ver d).length ≤ big := by
      rw [hhas] at hb
      simp only [if_true, List.length_append] at hb
      omega
    have hct : Cells W0 pb (po + off) (cs.take ty.size) := hc.take _
    have hpbW := hc
    cases htp : ty.tp with
    | some TP' =>
      have hh : ty.h = 3 := by simp [Ty.h, htp]
      simp only [hh] at ht hrest ⊢
      refine vc_sq (vc_rg (by simp) ?_)
      refine r_move ?_
      refine r_nil (ad := ⟨pb, po, none⟩) (by simp (disch := (first | omega | (simp only [sP]; omega))) only [eS, eN, eC, hp0]) ?_
      refine r_field (b := pb) (o := po) (by simp (disch := (first | omega | (simp only [sP]; omega))) only [eS, eN, eC]) hoff ?_
      refine r_assign ?_
      refine dn ?_
      generalize hA : (((a0.put (some (t + v.nt)) (a0.eval (.tmp s))).put (some (t + v.nt + 1)) (.pointer (some ⟨pb, po, none⟩))).put (some (t + v.nt + 2)) (.pointer (some ⟨pb, po + off, none⟩))) = A
      have hAe : A.eval (.tmp (t + v.nt + 2)) = .pointer (some ⟨pb, po + off, none⟩) := by rw [← hA]; simp (disch := (first | omega | (simp only [sP]; omega))) only [eS, eN, eC]
      have hA1 : ∀ k, k < t → A.eval (.tmp k) = a0.eval (.tmp k) := by intro k hk; rw [← hA]; simp (disch := (first | omega | (simp only [sP]; omega))) only [eS, eN, eC]
      have hAs : A.tmps.size = a0.tmps.size := by rw [← hA]; simp only [size_put]
      have hAf : Fr (KW L n t) a0 A := by
        rw [← hA]
        exact (((Fr.refl _ _).put _ (hs.kt _ (by omega))).put _ (hs.kt _ (by omega))).put _ (hs.kt _ (by omega))
      have hf1 : Fr (KW L n t) a (A.put (some n) (A.eval (.tmp (t + v.nt + 2)))) := (hf0.trans hAf).put _ (by rintro ⟨_, h | h⟩ <;> omega)
      have hst1 := hst.fr hs hf1 (by rw [eval_put_ne _ _ _ _ (by omega), hA1 1 (by omega), he0 1 (by omega)])
      refine hty x ver fx L n (n + 1) (t + v.nt + 3) b B _ w xs (cs.take ty.size) d _ hokt (hs.up (by omega) (by omega) (by omega)) (by omega) (by omega) (by omega) (by rw [hf1.size]; omega) hst1 ?_ hrt hbt ?_
      · simp only [Ty.Holds, htp]
        exact ⟨pb, po + off, by rw [eval_put_same _ _ _ (by rw [hAs, hsz0]; omega), hAe], hct⟩
      · intro a2 w2 hf2 hst2
        exact hrest _ a2 w2 hpart (hf1.trans (hf2.mono (KW.mono (by omega) (by omega)))) hst2
    | none =>
      have hh : ty.h = 4 := by simp [Ty.h, htp]
      simp only [hh] at ht hrest ⊢
      cases harr : ty.arr with
      | true =>
        simp only [if_true]
        obtain ⟨_, hagg, hz, hsz16, hcell⟩ := okW_arr (W0 := W0) (sb := sb) hokt harr
        obtain ⟨z, hz, hzl⟩ := zeroAgg_inv hz
        obtain ⟨hl16, h1c⟩ := hcell _ _ _ hrt
        have hw : Cells w pb (po + off) (cs.take ty.size) := by
          have : pb < W0.heap.size := by
            have h0 := hct.get (i := 0) (by omega)
            exact lt_of_cell h0
          exact hct.below hst.below this
        refine vc_sq (m_loadArr (K := KW1 L n t) (z := z) (cs := cs.take ty.size) hp0 hoff (by rw [hl16]; exact hagg) hz (by omega) h1c hw (by rintro (h | h) <;> omega) (fun d hd => by rintro (h | h) <;> omega) (by omega) (by rw [hsz0]; omega) ?_)
        intro a1 w1 q hf1' hq hqs hqc hg
        have hf1 : Fr (KW L n t) a0 a1 := hf1'.mono (fun k hk => hk.2)
        have hbw1 : Below W0.heap.size w w1 := hg.below.mono hst.size
        have hst1 : WSt P E W0 x ver fx a1 w1 xs := by
          have h1' : a1.eval (.tmp 1) = a0.eval (.tmp 1) := hf1'.slot 1 (.inl (by omega))
          exact ⟨hst.below.trans hbw1, by rw [h1']; exact ownsRow_grow hst0.own hg, by rw [hf1.slot _ ⟨hs.vs.2, .inl hs.vs.1⟩]; exact hst0.ver, fun f hh => by rw [hf1.slot _ ⟨(hs.fl f hh).2, .inl (hs.fl f hh).1⟩]; exact hst0.fl f hh⟩
        refine hty x ver fx L n (n + 1) (t + v.nt + 4) b B a1 w1 xs (cs.take ty.size) d _ hokt (hs.up (by omega) (by omega) (by omega)) (by omega) (by omega) (by omega) (by rw [hf1.size, hsz0]; omega) hst1 ?_ hrt hbt ?_
        · simp only [Ty.Holds, htp, harr, if_true]
          exact ⟨q, hq, hqc⟩
        · intro a2 w2 hf2 hst2
          exact hrest _ a2 w2 hpart ((hf0.trans hf1).trans (hf2.mono (KW.mono (by omega) (by omega)))) hst2
      | false =>
        simp only [Bool.false_eq_true, if_false]
        obtain ⟨hone, hsz1⟩ := okW_one hokt htp harr
        obtain ⟨u, hu⟩ := hrep _ _ _ hrt htp harr
        have hcu : W0.cell? ⟨pb, po + off, none⟩ = some u := by have := hct 0 u (by rw [hu]; rfl); simpa using this
        have hcw : w.cell? ⟨pb, po + off, none⟩ = some u := by rw [hst.below.cell (p := ⟨pb, po + off, none⟩) (lt_of_cell hcu)]; exact hcu
        refine vc_sq (m_load (K := KW1 L n t) hp0 hoff hone hcw (by rintro (h | h) <;> omega) (fun d hd => by rintro (h | h) <;> omega) (by omega) (by rw [hsz0]; omega) ?_)
        intro a1 hf1' he1
        have hf1 : Fr (KW L n t) a0 a1 := hf1'.mono (fun k hk => hk.2)
        have hst1 : WSt P E W0 x ver fx a1 w xs := by
          have h1' : a1.eval (.tmp 1) = a0.eval (.tmp 1) := hf1'.slot 1 (.inl (by omega))
          exact hst0.fr hs hf1 h1'
        refine hty x ver fx L n (n + 1) (t + v.nt + 4) b B a1 w xs (cs.take ty.size) d _ hokt (hs.up (by omega) (by omega) (by omega)) (by omega) (by omega) (by omega) (by rw [hf1.size, hsz0]; omega) hst1 ?_ hrt hbt ?_
        · simp only [Ty.Holds, htp, harr, Bool.false_eq_true, if_false]
          rw [hu, he1]
        · intro a2 w2 hf2 hst2
          exact hrest _ a2 w2 hpart ((hf0.trans hf1).trans (hf2.mono (KW.mono (by omega) (by omega)))) hst2
  · intro hhas a0 hf0 he0
    refine hrest [] a0 w (by rw [hhas]; simp) hf0 ?_
    rw [List.append_nil]
    exact hst.fr hs hf0 (he0 1 (by omega))
end
end Go.Km
