/- kmsg's Default: what it does to the cells of a struct. -/
import Derived.Test.YtnbhpeaapbpaeaaKmW4
set_option linter.unusedSimpArgs false
set_option linter.unusedVariables false
namespace Go.Km
open Go Go.RowKit
attribute [local irreducible] vc runOps runG

mutual
def Ty.okD (P : Program) (E : Env) : Ty → Bool
  | .scal k df => df == 0 || oneT P (E.tScal k)
  | .named k T df => df == 0 || oneT P T
  | .struct _ TU _ fs => fs.okD P E TU 0 0
  | _ => true
def Flds.okD (P : Program) (E : Env) (TU : TypeId) (idx off : Nat) : Flds → Bool
  | .nil _ => true
  | .cons _ t r => fieldOff P TU idx == some off && t.okD P E && r.okD P E TU (idx + 1) (off + t.size)
end
mutual
/-- The cells behind Default. -/
def Ty.over : Ty → List Value → List Value
  | .scal k df, cs => if df = 0 then cs else [k.val df]
  | .named k _ df, cs => if df = 0 then cs else [k.val df]
  | .struct _ _ _ fs, cs => fs.over cs
  | _, cs => cs
def Flds.over : Flds → List Value → List Value
  | .nil _, cs => cs
  | .cons _ t r, cs => t.over (cs.take t.size) ++ r.over (cs.drop t.size)
end
mutual
/-- The cells of a new struct. -/
def Ty.zc : Ty → List Value
  | .scal k _ | .named k _ _ => [k.val 0]
  | .uuid => List.replicate 16 (.int .u8 0)
  | .text => [.string ⟨#[]⟩]
  | .ntext | .ntextFrom _ => [.pointer none]
  | .bytes | .nbytes => [.slice none 0 0]
  | .list _ _ _ => [.slice none 0 0]
  | .struct _ _ _ fs => fs.zc
def Flds.zc : Flds → List Value
  | .nil t => if t then [.map none] else []
  | .cons _ t r => t.zc ++ r.zc
end
mutual
/-- The cells of the defaults. -/
def Ty.dz : Ty → List Value
  | .scal k df | .named k _ df => [k.val df]
  | .uuid => List.replicate 16 (.int .u8 0)
  | .text => [.string ⟨#[]⟩]
  | .ntext | .ntextFrom _ => [.pointer none]
  | .bytes | .nbytes => [.slice none 0 0]
  | .list _ _ _ => [.slice none 0 0]
  | .struct _ _ _ fs => fs.dz
def Flds.dz : Flds → List Value
  | .nil t => if t then [.map none] else []
  | .cons _ t r => t.dz ++ r.dz
end
mutual
theorem Ty.zc_len : ∀ t : Ty, t.zc.length = t.size
  | .scal _ _ | .named _ _ _ | .text | .ntext | .ntextFrom _ | .bytes | .nbytes | .list _ _ _ => by simp [Ty.zc, Ty.size]
  | .uuid => by simp [Ty.zc, Ty.size]
  | .struct _ _ _ fs => by simp [Ty.zc, Ty.size, Flds.zc_len fs]
theorem Flds.zc_len : ∀ t : Flds, t.zc.length = t.size
  | .nil t => by cases t <;> simp [Flds.zc, Flds.size]
  | .cons _ t r => by simp [Flds.zc, Flds.size, Ty.zc_len t, Flds.zc_len r]
end
mutual
theorem Ty.dz_len : ∀ t : Ty, t.dz.length = t.size
  | .scal _ _ | .named _ _ _ | .text | .ntext | .ntextFrom _ | .bytes | .nbytes | .list _ _ _ => by simp [Ty.dz, Ty.size]
  | .uuid => by simp [Ty.dz, Ty.size]
  | .struct _ _ _ fs => by simp [Ty.dz, Ty.size, Flds.dz_len fs]
theorem Flds.dz_len : ∀ t : Flds, t.dz.length = t.size
  | .nil t => by cases t <;> simp [Flds.dz, Flds.size]
  | .cons _ t r => by simp [Flds.dz, Flds.size, Ty.dz_len t, Flds.dz_len r]
end
mutual
theorem Ty.over_len : ∀ (t : Ty) (cs : List Value), cs.length = t.size → (t.over cs).length = t.size
  | .scal _ _, cs, h | .named _ _ _, cs, h => by
    simp only [Ty.over]
    split
    · exact h
    · simp [Ty.size]
  | .struct _ _ _ fs, cs, h => by simp only [Ty.over, Ty.size] at *; exact Flds.over_len fs cs h
  | .uuid, cs, h | .text, cs, h | .ntext, cs, h | .ntextFrom _, cs, h | .bytes, cs, h | .nbytes, cs, h | .list _ _ _, cs, h => h
theorem Flds.over_len : ∀ (t : Flds) (cs : List Value), cs.length = t.size → (t.over cs).length = t.size
  | .nil t, cs, h => h
  | .cons _ t r, cs, h => by
    simp only [Flds.size] at h
    simp only [Flds.over, Flds.size, List.length_append]
    rw [Ty.over_len t _ (by simp; omega), Flds.over_len r _ (by simp; omega)]
end
mutual
theorem Ty.over_zc : ∀ t : Ty, t.over t.zc = t.dz
  | .scal _ df | .named _ _ df => by
    simp only [Ty.over, Ty.zc, Ty.dz]
    split
    · rename_i h; rw [h]
    · rfl
  | .struct _ _ _ fs => by simp only [Ty.over, Ty.zc, Ty.dz, Flds.over_zc fs]
  | .uuid | .text | .ntext | .ntextFrom _ | .bytes | .nbytes | .list _ _ _ => rfl
theorem Flds.over_zc : ∀ t : Flds, t.over t.zc = t.dz
  | .nil t => rfl
  | .cons _ t r => by
    simp only [Flds.over, Flds.zc, Flds.dz]
    rw [← Ty.zc_len t, List.take_left, List.drop_left, Ty.over_zc t, Flds.over_zc r]
end
mutual
theorem Ty.over_dz : ∀ t : Ty, t.over t.dz = t.dz
  | .scal _ df | .named _ _ df => by
    simp only [Ty.over, Ty.dz]
    split <;> rfl
  | .struct _ _ _ fs => by simp only [Ty.over, Ty.dz, Flds.over_dz fs]
  | .uuid | .text | .ntext | .ntextFrom _ | .bytes | .nbytes | .list _ _ _ => rfl
theorem Flds.over_dz : ∀ t : Flds, t.over t.dz = t.dz
  | .nil t => rfl
  | .cons _ t r => by
    simp only [Flds.over, Flds.dz]
    rw [← Ty.dz_len t, List.take_left, List.drop_left, Ty.over_dz t, Flds.over_dz r]
end
theorem Scal.val_one (k : Scal) (n : Int) : (k.val n).oneCell' = true := by cases k <;> rfl
theorem Cells.append {w : World} {b o : Nat} {xs ys : List Value} (h1 : Cells w b o xs) (h2 : Cells w b (o + xs.length) ys) : Cells w b o (xs ++ ys) := by
  intro i v hv
  rcases Nat.lt_or_ge i xs.length with h | h
  · rw [List.getElem?_append_left h] at hv; exact h1 i v hv
  · rw [List.getElem?_append_right h] at hv
    have := h2 _ v hv
    rwa [show o + xs.length + (i - xs.length) = o + i by omega] at this
theorem Cells.tk {w : World} {b o n : Nat} {xs : List Value} (h : Cells w b o xs) : Cells w b o (xs.take n) := by
  intro i v hv
  rw [List.getElem?_take] at hv
  split at hv
  · exact h i v hv
  · cases hv
theorem Cells.dp {w : World} {b o n : Nat} {xs : List Value} (h : Cells w b o xs) : Cells w b (o + n) (xs.drop n) := by
  intro i v hv
  rw [List.getElem?_drop] at hv
  have := h _ v hv
  rwa [show o + (n + i) = o + n + i by omega] at this

section
variable {P : Program} {E : Env}
/-- What the settings of a part give: the frame's lower slots stay, the part's cells alone turn. -/
def DQ (P : Program) (b o n L : Nat) (cs : List Value) (A : Act) (W : World) (rest : List Code) (Q : Exit → Act → World → Prop) : Prop :=
  ∀ A' W', A'.tmps.size = A.tmps.size → A'.defers = A.defers → (∀ k : Nat, k < n → A'.eval (.tmp k) = A.eval (.tmp k)) → Eff (fun k i => k = b ∧ o ≤ i ∧ i < o + L) W W' → Cells W' b o cs → vc P (sq rest) Q A' W'
/-- A number is stored. -/
theorem d_store {TP TU T : TypeId} {s idx n t b o0 off : Nat} {v : Value} {rest : List Code} {Q : Exit → Act → World → Prop} {A : Act} {W : World}
    (hs : A.eval (.tmp s) = .pointer (some ⟨b, o0, none⟩)) (ho : fieldOff P TU idx = some off) (hT : oneT P T = true) (hv : v.oneCell' = true) (hsn : s < n) (hnt : n ≤ t) (hsz : t + 3 ≤ A.tmps.size) (hf : Free W b (o0 + off))
    (h : DQ P b (o0 + off) n 1 [v] A W rest Q) : vc P (sq (rg [oMove t (.tmp s) TP, oNil (t + 1) (.tmp t), oField (t + 2) TU (.tmp (t + 1)) idx, oStore T (.tmp (t + 2)) (.const v)] :: rest)) Q A W := by
  refine vc_sq (vc_rg (by simp) ?_)
  refine r_move ?_
  refine r_nil (ad := ⟨b, o0, none⟩) (by simp (disch := (first | omega | (simp only [sP]; omega))) only [eS, eN, eC, hs]) ?_
  refine r_field (b := b) (o := o0) (by simp (disch := (first | omega | (simp only [sP]; omega))) only [eS, eN, eC]) ho ?_
  refine r_store (b := b) (o := o0 + off) (v := v) (by simp (disch := (first | omega | (simp only [sP]; omega))) only [eS, eN, eC]) rfl hv hT hf ?_
  refine dn ?_
  refine h _ _ (by simp only [size_put]) (by simp only [defers_put]) (fun k hk => (by simp (disch := (first | omega | (simp only [sP]; omega))) only [eS, eN, eC])) ((Eff.refl _ W).setCell _ _ _ (fun _ => ⟨rfl, Nat.le_refl _, by omega⟩)) ?_
  intro i u hu
  cases i with
  | zero =>
    simp only [List.getElem?_cons_zero, Option.some.injEq] at hu
    subst hu
    exact cell_setCell_same v hf.1
  | succ i => simp at hu
mutual
theorem Ty.dc_ok : ∀ (ty : Ty) {TP TU : TypeId} {s idx n t b o0 off : Nat} {cs : List Value} {rest : List Code} {Q : Exit → Act → World → Prop} {A : Act} {W : World},
    ty.okD P E = true → fieldOff P TU idx = some off → A.eval (.tmp s) = .pointer (some ⟨b, o0, none⟩) → s < n → n + ty.dn ≤ t → t + ty.dt ≤ A.tmps.size → cs.length = ty.size → Cells W b (o0 + off) cs → (∀ i, i < ty.size → Free W b (o0 + off + i)) →
    DQ P b (o0 + off) n ty.size (ty.over cs) A W rest Q → vc P (sq (ty.dc E TP TU s idx n t ++ rest)) Q A W
  | .scal k df, TP, TU, s, idx, n, t, b, o0, off, cs, rest, Q, A, W, hok, ho, hs, hsn, hnt, hsz, hl, hc, hf, h => by
    simp only [Ty.dc, Ty.over, Ty.dt, Ty.dn, Ty.okD] at *
    split at h
    · rename_i h0
      rw [if_pos h0]
      exact h A W rfl rfl (fun _ _ => rfl) (Eff.refl _ W) hc
    · rename_i h0
      rw [if_neg h0] at hsz ⊢
      simp only [Bool.or_eq_true, beq_iff_eq, h0, false_or] at hok
      exact d_store hs ho hok (k.val_one df) hsn (by omega) hsz (hf 0 (by simp [Ty.size])) h
  | .named k T df, TP, TU, s, idx, n, t, b, o0, off, cs, rest, Q, A, W, hok, ho, hs, hsn, hnt, hsz, hl, hc, hf, h => by
    simp only [Ty.dc, Ty.over, Ty.dt, Ty.dn, Ty.okD] at *
    split at h
    · rename_i h0
      rw [if_pos h0]
      exact h A W rfl rfl (fun _ _ => rfl) (Eff.refl _ W) hc
    · rename_i h0
      rw [if_neg h0] at hsz ⊢
      simp only [Bool.or_eq_true, beq_iff_eq, h0, false_or] at hok
      exact d_store hs ho hok (k.val_one df) hsn (by omega) hsz (hf 0 (by simp [Ty.size])) h
  | .struct TP' TU' FD fs, TP, TU, s, idx, n, t, b, o0, off, cs, rest, Q, A, W, hok, ho, hs, hsn, hnt, hsz, hl, hc, hf, h => by
    simp only [Ty.dc, Ty.over, Ty.dt, Ty.dn, Ty.okD, Ty.size] at *
    refine vc_sq_flat ?_
    simp only [List.cons_append, List.nil_append]
    refine vc_sq (vc_rg (by simp) ?_)
    refine r_move ?_
    refine r_nil (ad := ⟨b, o0, none⟩) (by simp (disch := (first | omega | (simp only [sP]; omega))) only [eS, eN, eC, hs]) ?_
    refine r_field (b := b) (o := o0) (by simp (disch := (first | omega | (simp only [sP]; omega))) only [eS, eN, eC]) ho ?_
    refine r_assign ?_
    refine dn ?_
    refine vc_sq (vc_rg (by simp) ?_)
    refine r_move ?_
    refine dn ?_
    refine Flds.dc_ok fs (b := b) (o0 := o0 + off) (off := 0) (cs := cs) hok (by simp (disch := (first | omega | (simp only [sP]; omega))) only [eS, eN, eC]) (by omega) (by omega) (by simp only [size_put]; omega) hl (by rw [Nat.add_zero]; exact hc) (by rw [Nat.add_zero]; exact hf) ?_
    rw [Nat.add_zero]
    intro A' W' a1 a2 a3 a4 a5
    refine h A' W' (by rw [a1]; simp only [size_put]) (by rw [a2]; simp only [defers_put]) (fun k hk => ?_) a4 a5
    rw [a3 k (by omega)]
    simp (disch := (first | omega | (simp only [sP]; omega))) only [eS, eN, eC]
  | .uuid, TP, TU, s, idx, n, t, b, o0, off, cs, rest, Q, A, W, hok, ho, hs, hsn, hnt, hsz, hl, hc, hf, h
  | .text, TP, TU, s, idx, n, t, b, o0, off, cs, rest, Q, A, W, hok, ho, hs, hsn, hnt, hsz, hl, hc, hf, h
  | .ntext, TP, TU, s, idx, n, t, b, o0, off, cs, rest, Q, A, W, hok, ho, hs, hsn, hnt, hsz, hl, hc, hf, h
  | .ntextFrom _, TP, TU, s, idx, n, t, b, o0, off, cs, rest, Q, A, W, hok, ho, hs, hsn, hnt, hsz, hl, hc, hf, h
  | .bytes, TP, TU, s, idx, n, t, b, o0, off, cs, rest, Q, A, W, hok, ho, hs, hsn, hnt, hsz, hl, hc, hf, h
  | .nbytes, TP, TU, s, idx, n, t, b, o0, off, cs, rest, Q, A, W, hok, ho, hs, hsn, hnt, hsz, hl, hc, hf, h
  | .list _ _ _, TP, TU, s, idx, n, t, b, o0, off, cs, rest, Q, A, W, hok, ho, hs, hsn, hnt, hsz, hl, hc, hf, h => h A W rfl rfl (fun _ _ => rfl) (Eff.refl _ W) hc
theorem Flds.dc_ok : ∀ (fs : Flds) {TP TU : TypeId} {s idx n t b o0 off : Nat} {cs : List Value} {rest : List Code} {Q : Exit → Act → World → Prop} {A : Act} {W : World},
    fs.okD P E TU idx off = true → A.eval (.tmp s) = .pointer (some ⟨b, o0, none⟩) → s < n → n + fs.dn ≤ t → t + fs.dt ≤ A.tmps.size → cs.length = fs.size → Cells W b (o0 + off) cs → (∀ i, i < fs.size → Free W b (o0 + off + i)) →
    DQ P b (o0 + off) n fs.size (fs.over cs) A W rest Q → vc P (sq (fs.dc E TP TU s idx n t ++ rest)) Q A W
  | .nil tg, TP, TU, s, idx, n, t, b, o0, off, cs, rest, Q, A, W, hok, hs, hsn, hnt, hsz, hl, hc, hf, h => h A W rfl rfl (fun _ _ => rfl) (Eff.refl _ W) hc
  | .cons v ty r, TP, TU, s, idx, n, t, b, o0, off, cs, rest, Q, A, W, hok, hs, hsn, hnt, hsz, hl, hc, hf, h => by
    simp only [Flds.okD, Bool.and_eq_true, beq_iff_eq] at hok
    simp only [Flds.dc, Flds.size, Flds.dn, Flds.dt, Flds.over, List.append_assoc] at *
    obtain ⟨⟨h1, h2⟩, h3⟩ := hok
    refine Ty.dc_ok ty (cs := cs.take ty.size) h2 h1 hs hsn (by omega) (by omega) (by simp; omega) hc.tk (fun i hi => hf i (by omega)) ?_
    intro A' W' a1 a2 a3 a4 a5
    have hc2 : Cells W' b (o0 + (off + ty.size)) (cs.drop ty.size) := by
      rw [show o0 + (off + ty.size) = o0 + off + ty.size by omega]
      exact hc.dp.eff a4 (by rintro i hi ⟨_, _, h⟩; omega)
    refine Flds.dc_ok r (cs := cs.drop ty.size) h3 (by rw [a3 s hsn]; exact hs) (by omega) (by omega) (by rw [a1]; omega) (by simp; omega) hc2 (fun i hi => ?_) ?_
    · have := (hf (ty.size + i) (by omega)).eff a4
      rwa [show o0 + off + (ty.size + i) = o0 + (off + ty.size) + i by omega] at this
    intro A2 W2 b1 b2 b3 b4 b5
    refine h A2 W2 (by rw [b1, a1]) (by rw [b2, a2]) (fun k hk => by rw [b3 k (by omega), a3 k hk]) (a4.mono (fun k i _ ⟨x, y, z⟩ => ⟨x, y, by omega⟩) |>.trans' b4 (fun k i _ ⟨x, y, z⟩ => ⟨x, by omega, by omega⟩)) ?_
    have hol := Ty.over_len ty (cs.take ty.size) (by simp; omega)
    refine (a5.eff b4 (by rintro i hi ⟨_, h, _⟩; omega)).append ?_
    rw [hol]
    rwa [show o0 + (off + ty.size) = o0 + off + ty.size by omega] at b5
end
end
end Go.Km
