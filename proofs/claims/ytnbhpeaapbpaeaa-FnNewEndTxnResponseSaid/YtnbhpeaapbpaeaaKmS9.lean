/- spec.field -/
import Derived.Test.YtnbhpeaapbpaeaaKmS8
set_option linter.unusedSimpArgs false
set_option linter.unusedVariables false
namespace Go.Km
open Go Go.RowKit
attribute [local irreducible] vc runOps runG runS runD

theorem own_below {w w' : World} {B C : Nat} {e : TypeId} {s : Nat} {v : Value} {n : Nat} {xs : List Value} (h : w.ownsRow B e s v n xs) (hb : Below C w w') (hC : C = w.heap.size := by rfl) : w'.ownsRow B e s v n xs := by
  subst hC
  refine ⟨h.1, ?_⟩
  rcases h.2 with h | ⟨g, cap, cur, h1, h2, h3, h4⟩
  · exact .inl h
  · have hg : g < w.heap.size := (Array.getElem?_eq_some_iff.1 h3).1
    exact .inr ⟨g, cap, cur, h1, h2, by rw [hb.block g hg]; exact h3, h4⟩
/-- What spec.field must give of this field. -/
def FieldC (P : Program) (E : Env) (ver : Int) (fx : Bool) (f : SF) : Prop :=
  ∀ (U : Nat) (w : World) (cs : List Value) (t : Tr) (ts : List Value), U ≤ w.heap.size → f.Rep w U cs → t.Rep w U ts → (f.wr ver fx t).length ≤ big →
    Gives P E E.sField U #[.agg cs.toArray, .int .i64 ver, .bool fx, .agg ts.toArray] (f.wr ver fx t) w
/-- The kinds are kinds. -/
def SF.kindOk : SF → Bool
  | .mk kind _ _ _ _ _ el _ => decide (0 ≤ kind) && decide (kind ≤ 11) && decide (0 ≤ el) && decide (el ≤ 10)
def SF.sub : SF → SFs
  | .mk _ _ _ _ _ _ _ sub => sub

/-- The frame of field behind its first regions. -/
structure FFr (P : Program) (E : Env) (w : World) (U : Nat) (ver : Int) (fx nl : Bool) (cs ts : List Value) (b : Nat) (A : Act) (W : World) : Prop where
  size : A.tmps.size = 76
  defers : A.defers = []
  s1 : A.eval (.tmp 1) = .int .i64 ver
  s2 : A.eval (.tmp 2) = .bool fx
  s4 : A.eval (.tmp 4) = .pointer (some ⟨b, 0, none⟩)
  s7 : A.eval (.tmp 7) = .pointer (some ⟨b + 1, 0, none⟩)
  s9 : A.eval (.tmp 9) = .bool nl
  below : Below U w W
  bU : U ≤ b
  bW : b + 1 < W.heap.size
  cf : Cells W b 0 cs
  ct : Cells W (b + 1) 0 ts
theorem FFr.put {P : Program} {E : Env} {w : World} {U : Nat} {ver : Int} {fx nl : Bool} {cs ts : List Value} {b : Nat} {A : Act} {W : World} (h : FFr P E w U ver fx nl cs ts b A W) {d : Nat} (v : Value) (hd : 9 < d ∨ d = 8) : FFr P E w U ver fx nl cs ts b (A.put (some d) v) W :=
  ⟨by rw [size_put]; exact h.size, by rw [defers_put]; exact h.defers, by rw [eval_put_ne _ _ _ _ (by omega)]; exact h.s1, by rw [eval_put_ne _ _ _ _ (by omega)]; exact h.s2, by rw [eval_put_ne _ _ _ _ (by omega)]; exact h.s4,
   by rw [eval_put_ne _ _ _ _ (by omega)]; exact h.s7, by rw [eval_put_ne _ _ _ _ (by omega)]; exact h.s9, h.below, h.bU, h.bW, h.cf, h.ct⟩
theorem FFr.world {P : Program} {E : Env} {w : World} {U : Nat} {ver : Int} {fx nl : Bool} {cs ts : List Value} {b : Nat} {A : Act} {W W' : World} (h : FFr P E w U ver fx nl cs ts b A W) {B : Nat} (hb : Below B W W') (hB : b + 2 ≤ B) : FFr P E w U ver fx nl cs ts b A W' :=
  ⟨h.size, h.defers, h.s1, h.s2, h.s4, h.s7, h.s9, h.below.trans (hb.mono (by have := h.bU; omega)), h.bU, Nat.lt_of_lt_of_le h.bW hb.size, h.cf.below hb (by omega), h.ct.below hb (by omega)⟩

section
variable {P : Program} {E : Env} {w : World} {U : Nat}

/-- The end of field: spec.value. -/
theorem s_fieldV (H : SEnv P E) (HT : STexts P E) (hz8 : zeroT P E.tU8 = some (.int .u8 0)) {kind : Nat} {fr to nul tag df el ver : Int} {sub : SFs} {nl fx : Bool} {cs ts : List Value} {t : Tr} {b : Nat} {A : Act} {W : World} {Q : Exit → Act → World → Prop}
    (hf : FFr P E w U ver fx nl cs ts b A W) (hr : (SF.mk kind fr to nul tag df el sub).Rep w U cs) (hrt : t.Rep w U ts) (hU : U ≤ w.heap.size) (hk : kind ≤ 10) (hp : kind = 10 → PartC P E ver fx sub)
    (hbig : (valW kind (sub.part ver fx) nl fx t).length ≤ big)
    (hQ : ∀ a' w', Out P #[.tmp 8] (fun v w' => w'.ownsRow U E.tU8 1 v (valW kind (sub.part ver fx) nl fx t).length ((valW kind (sub.part ver fx) nl fx t).map bv) ∧ Below U w w') .ret a' w' → Q .ret a' w') :
    vc P (sq [(rg [⟨some 67, .fieldAddr E.tFld (.tmp 4) 0, 0, "", #[], none⟩,
      ⟨some 68, .load E.tInt (.tmp 67), E.tInt, "", #[], none⟩,
      ⟨some 69, .fieldAddr E.tFld (.tmp 4) 7, 0, "", #[], none⟩,
      ⟨some 70, .load E.tFlds (.tmp 69), E.tFlds, "", #[], none⟩,
      ⟨some 71, .move (.tmp 9), E.tBool, "", #[], none⟩,
      ⟨some 72, .move (.tmp 1), E.tInt, "", #[], none⟩,
      ⟨some 73, .move (.tmp 2), E.tBool, "", #[], none⟩,
      ⟨some 74, .load E.tTree (.tmp 7), E.tTree, "", #[], none⟩,
      ⟨some 75, .call { callee := .value (.func E.sValue), args := #[(.tmp 68), (.tmp 70), (.tmp 71), (.tmp 72), (.tmp 73), (.tmp 74)], argTypes := #[E.tInt, E.tFlds, E.tBool, E.tInt, E.tBool, E.tTree] }, E.tBytes, "", #[], none⟩,
      ⟨some 8, .assign (.tmp 75), E.tBytes, "", #[], none⟩]), .ret]) Q A W := by
  obtain ⟨sv, rfl, hsub⟩ := hr
  have hs := hf.size
  have c0 := hf.cf 0 _ rfl
  have c7 := hf.cf 7 _ rfl
  refine vc_sq (vc_rg (by simp) ?_)
  refine r_field (b := b) (o := 0) (by simp (disch := (first | omega | (simp only [sP]; omega))) only [eS, eN, eC, hf.s4]) (offs_inv H.fFld (by decide)) ?_
  refine r_load (b := b) (o := 0 + 0) (by simp (disch := (first | omega | (simp only [sP]; omega))) only [eS, eN, eC]) H.oInt c0 ?_
  refine r_field (b := b) (o := 0) (by simp (disch := (first | omega | (simp only [sP]; omega))) only [eS, eN, eC, hf.s4]) (offs_inv H.fFld (by decide)) ?_
  refine r_load (b := b) (o := 0 + 7) (by simp (disch := (first | omega | (simp only [sP]; omega))) only [eS, eN, eC]) H.oFlds c7 ?_
  refine r_move ?_
  refine r_move ?_
  refine r_move ?_
  refine r_loadAgg (b := b + 1) (o := 0) (cs := ts) (by simp (disch := (first | omega | (simp only [sP]; omega))) only [eS, eN, eC, hf.s7]) (by rw [hrt.len]; exact H.aTree) hf.ct ?_
  refine r_call' (args := #[.int .i64 kind, sv, .bool nl, .int .i64 ver, .bool fx, .agg ts.toArray]) ?_ (s_value (U := U) H HT hz8 hk hp (Nat.le_trans hU hf.below.size) (fun _ => SlF.below hsub hf.below) (hrt.below hf.below) hbig) ?_
  · simp only [List.map_toArray, List.map_cons, List.map_nil]
    simp (disch := (first | omega | (simp only [sP]; omega))) only [eS, eN, eC, hf.s1, hf.s2, hf.s9]
  rintro v w2 ⟨h1, h2⟩
  refine r_assign ?_
  refine dn ?_
  refine vc_sq (vc_ret ?_)
  exact hQ _ _ ⟨by simp only [defers_put]; exact hf.defers, v, results_one (by simp (disch := (first | omega | (simp only [sP]; omega))) only [eS, eN, eC]), h1, hf.below.trans h2⟩

/-- The middle of field: a struct that may be null. -/
theorem s_fieldN (H : SEnv P E) (HT : STexts P E) {kind fr to nul tag df el ver : Int} {sub : SFs} {nl fx : Bool} {cs ts : List Value} {t : Tr} {b : Nat} {A : Act} {W : World} {Q : Exit → Act → World → Prop}
    (hf : FFr P E w U ver fx nl cs ts b A W) (hr : (SF.mk kind fr to nul tag df el sub).Rep w U cs) (hrt : t.Rep w U ts) (hU : U ≤ w.heap.size) (hp : PartC P E ver fx sub)
    (hbig : (if nl then be 1 (-1) else be 1 1 ++ sub.part ver fx t).length ≤ big) (hpanic : ∀ c a a' w, Q (.panic c) a w → Q (.panic c) a' w)
    (hQ : ∀ a' w', Out P #[.tmp 8] (fun v w' => w'.ownsRow U E.tU8 1 v (if nl then be 1 (-1) else be 1 1 ++ sub.part ver fx t).length ((if nl then be 1 (-1) else be 1 1 ++ sub.part ver fx t).map bv) ∧ Below U w w') .ret a' w' → Q .ret a' w') :
    vc P (sq [(sq [(rg [⟨some 57, .move (.tmp 9), E.tBool, "", #[], none⟩]),
            (.cond (.tmp 57)
              (sq [(rg [⟨some 58, .call { callee := .value (.func E.sFixed), args := #[(.const (.int .i64 (-1))), (.const (.int .i64 1))], argTypes := #[E.tI64, E.tInt] }, E.tBytes, "", #[], none⟩,
                  ⟨some 8, .assign (.tmp 58), E.tBytes, "", #[], none⟩]),
                .ret])
              .skip)]),
          (rgd [⟨some 59, .call { callee := .value (.func E.sFixed), args := #[(.const (.int .i64 1)), (.const (.int .i64 1))], argTypes := #[E.tI64, E.tInt] }, E.tBytes, "", #[], none⟩,
            ⟨some 60, .fieldAddr E.tFld (.tmp 4) 7, 0, "", #[], none⟩,
            ⟨some 61, .load E.tFlds (.tmp 60), E.tFlds, "", #[⟨1, .data⟩], none⟩,
            ⟨some 62, .move (.tmp 1), E.tInt, "", #[], none⟩,
            ⟨some 63, .move (.tmp 2), E.tBool, "", #[], none⟩,
            ⟨some 64, .load E.tTree (.tmp 7), E.tTree, "", #[], none⟩,
            ⟨some 65, .call { callee := .value (.func E.sPart), args := #[(.tmp 61), (.tmp 62), (.tmp 63), (.tmp 64)], argTypes := #[E.tFlds, E.tInt, E.tBool, E.tTree] }, E.tBytes, "", #[⟨2, .data⟩, ⟨3, .data⟩, ⟨4, .data⟩, ⟨5, .data⟩, ⟨0, .chain⟩], none⟩,
            ⟨some 66, .call { callee := .builtin .append, args := #[(.tmp 59), (.tmp 65)], argTypes := #[E.tBytes, E.tBytes] }, E.tBytes, "", #[⟨0, .data⟩, ⟨6, .data⟩, ⟨6, .chain⟩], none⟩,
            ⟨some 8, .assign (.tmp 66), E.tBytes, "", #[⟨7, .data⟩, ⟨7, .chain⟩, ⟨0, .phase⟩, ⟨1, .phase⟩, ⟨2, .phase⟩, ⟨3, .phase⟩, ⟨4, .phase⟩, ⟨5, .phase⟩, ⟨6, .phase⟩, ⟨7, .phase⟩], none⟩]),
          .ret]) Q A W := by
  obtain ⟨sv, rfl, hsub⟩ := hr
  have hs := hf.size
  have c7 := hf.cf 7 _ rfl
  have hUW : U ≤ W.heap.size := Nat.le_trans hU hf.below.size
  refine vc_sq (vc_sq (vc_rg (by simp) ?_))
  refine r_move ?_
  refine dn ?_
  refine vc_sq (vc_cond (t := nl) (by simp (disch := (first | omega | (simp only [sP]; omega))) only [eS, eN, eC, hf.s9]) ?_ ?_)
  · intro hn
    subst hn
    refine vc_sq (vc_rg (by simp) ?_)
    refine r_call' (args := #[.int .i64 (-1), .int .i64 ((1 : Nat) : Int)]) (by simp only [List.map_toArray, List.map_cons, List.map_nil]; rfl) (s_fixed (U := U) HT.fixed H.row H.u8 H.i64 H.int (by decide) hUW) ?_
    rintro v w2 ⟨h1, h2⟩
    refine r_assign ?_
    refine dn ?_
    refine vc_sq (vc_ret ?_)
    exact hQ _ _ ⟨by simp only [defers_put]; exact hf.defers, v, results_one (by simp (disch := (first | omega | (simp only [sP]; omega))) only [eS, eN, eC]), h1, hf.below.trans h2⟩
  · intro hn
    subst hn
    refine vc_skip (vc_sq_nil ?_)
    refine vc_sq (vc_rgd [(1, true), (2, true), (3, true), (4, true), (5, true), (0, false), (6, false), (7, false), (8, true)] (fun W' => W'.cell? ⟨b, 7, none⟩ = some sv ∧ Cells W' (b + 1) 0 ts) HT.mixed (by kernel_rfl) rfl (by kernel_rfl) (fun c a a' w h => hpanic c a a' w h) ?_)
    generalize hB : A.put (some 57) (A.eval (.tmp 9)) = B
    have hfB := hf.put (d := 57) (A.eval (.tmp 9)) (by omega)
    rw [hB] at hfB
    have hsB := hfB.size
    clear hB
    have hbW := hf.bW
    have hbd : Below W.heap.size W { W with drawn := W.drawn + 1 } := ⟨rfl, rfl, rfl, Nat.le_refl _, fun _ _ => rfl⟩
    have mkS : ∀ w2, Below W.heap.size W w2 → w2.cell? ⟨b, 7, none⟩ = some sv ∧ Cells w2 (b + 1) 0 ts := fun w2 h2 =>
      ⟨by rw [h2.cell (p := ⟨b, 7, none⟩) (by show b < _; omega)]; simpa using c7, hf.ct.below h2 (by omega)⟩
    have hS := mkS _ hbd
    refine d_pure rfl rfl rfl (wants_none rfl) (by simp only [size_put, hsB]; decide) hS (fun w' hS' => r_field (b := b) (o := 0) (by simp (disch := (first | omega | (simp only [sP]; omega))) only [eS, eN, eC, hfB.s4]) (offs_inv H.fFld (by decide)) (dn ⟨rfl, rfl, rfl⟩)) ?_
    refine d_pure rfl rfl rfl (wants_none rfl) (by simp only [size_put, hsB]; decide) hS (fun w' hS' => r_load (b := b) (o := 7) (v := sv) (by (try simp (disch := (first | omega | (simp only [sP]; omega))) only [eS, eN, eC]) <;> (first | rfl | assumption)) H.oFlds hS'.1 (dn ⟨rfl, rfl, rfl⟩)) ?_
    refine d_pure rfl rfl rfl (wants_none rfl) (by simp only [size_put, hsB]; decide) hS (fun w' hS' => r_move (dn ⟨rfl, rfl, rfl⟩)) ?_
    refine d_pure rfl rfl rfl (wants_none rfl) (by simp only [size_put, hsB]; decide) hS (fun w' hS' => r_move (dn ⟨rfl, rfl, rfl⟩)) ?_
    refine d_pure rfl rfl rfl (wants_none rfl) (by simp only [size_put, hsB]; decide) hS (fun w' hS' => r_loadAgg (b := b + 1) (o := 0) (cs := ts) (by simp (disch := (first | omega | (simp only [sP]; omega))) only [eS, eN, eC, hfB.s7]) (by rw [hrt.len]; exact H.aTree) hS'.2 (dn ⟨rfl, rfl, rfl⟩)) ?_
    refine d_sole rfl (wants_none rfl) ?_
    refine r_call' (args := #[.int .i64 1, .int .i64 ((1 : Nat) : Int)]) (by simp only [List.map_toArray, List.map_cons, List.map_nil]; rfl) (s_fixed (U := W.heap.size) HT.fixed H.row H.u8 H.i64 H.int (by decide) (Nat.le_refl _)) ?_
    rintro v w2 ⟨h1, h2⟩
    have hW2 : Below W.heap.size W w2 := hbd.trans h2
    refine dn (d_then (mkS _ hW2) ?_)
    refine d_sole rfl (wants_none rfl) ?_
    have hblU : Below U w w2 := hf.below.trans (hW2.mono hUW)
    have hbg : (sub.part ver fx t).length ≤ big := by
      simp only [Bool.false_eq_true, if_false, List.length_append] at hbig
      omega
    refine r_call' (args := #[sv, .int .i64 ver, .bool fx, .agg ts.toArray]) ?_ (hp w2.heap.size w2 sv t ts (Nat.le_refl _) ((SlF.below hsub hblU).mono (Nat.le_trans hUW hW2.size)) ((hrt.below hblU).mono (Nat.le_trans hUW hW2.size)) hbg) ?_
    · simp only [List.map_toArray, List.map_cons, List.map_nil]
      simp (disch := (first | omega | (simp only [sP]; omega))) only [eS, eN, eC, hfB.s1, hfB.s2]
    rintro v3 w3 ⟨h3, h4⟩
    have hW3 : Below W.heap.size W w3 := hW2.trans (h4.mono hW2.size)
    refine dn (d_then (mkS _ hW3) ?_)
    refine d_sole rfl (wants_none rfl) ?_
    have hown3 : w3.ownsRow W.heap.size E.tU8 1 v (be 1 1).length ((be 1 1).map bv) := by
      exact own_below h1 h4
    refine r_append (sz := 1) (U := W.heap.size) (m := (sub.part ver fx t).length) (news := (sub.part ver fx t).map bv) H.row (by simp (disch := (first | omega | (simp only [sP]; omega))) only [eS, eN, eC]) (by simp (disch := (first | omega | (simp only [sP]; omega))) only [eS, eN, eC]) hown3 hW3.size (src_own (rowB_slice H.row) h3 (bv_one _)) (by simp only [Bool.false_eq_true, if_false, List.length_append] at hbig; exact hbig) ?_
    intro v4 w4 h5 h6
    refine dn (d_then (mkS _ (hW3.trans h6)) ?_)
    refine d_pure rfl rfl rfl (wants_none rfl) (by simp only [size_put, hsB]; decide) (mkS _ (hW3.trans h6)) (fun w' hS' => r_assign (dn ⟨rfl, rfl, rfl⟩)) ?_
    refine d_nil ?_
    refine vc_sq (vc_ret ?_)
    simp only [Bool.false_eq_true, if_false] at hQ
    rw [← List.length_append, ← List.map_append] at h5
    exact hQ _ _ ⟨by simp only [defers_put]; exact hfB.defers, v4, results_one (by simp (disch := (first | omega | (simp only [sP]; omega))) only [eS, eN, eC]), own_mono h5 hUW, hf.below.trans ((hW3.trans h6).mono hUW)⟩
end
end Go.Km
