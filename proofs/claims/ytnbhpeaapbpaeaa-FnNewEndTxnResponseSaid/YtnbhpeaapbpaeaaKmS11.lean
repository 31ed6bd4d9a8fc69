/- spec.field: the whole. -/
import Derived.Test.YtnbhpeaapbpaeaaKmS10
set_option linter.unusedSimpArgs false
set_option linter.unusedVariables false
namespace Go.Km
open Go Go.RowKit
attribute [local irreducible] vc runOps runG runS runD

section
variable {P : Program} {E : Env} {w : World} {U : Nat}
theorem s_fieldL (H : SEnv P E) (HT : STexts P E) (hz8 : zeroT P E.tU8 = some (.int .u8 0)) {kind fr to nul tag df ver : Int} {el : Nat} {sub : SFs} {nl fx : Bool} {cs ts : List Value} {n : Int} {s : List UInt8} {tnl : Bool} {l : Trs} {u : List (Nat × List UInt8)} {b : Nat} {A : Act} {W : World} {Q : Exit → Act → World → Prop}
    (hf : FFr P E w U ver fx nl cs ts b A W) (hr : (SF.mk kind fr to nul tag df el sub).Rep w U cs) (hrt : (Tr.mk n s tnl l u).Rep w U ts) (hU : U ≤ w.heap.size) (hel : el ≤ 10) (hp : PartC P E ver fx sub) {L : List Tr} (hL : L = if nl then [] else l.toL.take 32767)
    (hbig : (cnt fx nl L.length 4 ++ (L.map fun t => valW el (sub.part ver fx) false fx t).flatten).length ≤ big) (hpanic : ∀ c a a' w, Q (.panic c) a w → Q (.panic c) a' w)
    (hQ : ∀ a' w', Out P #[.tmp 8] (fun v w' => w'.ownsRow U E.tU8 1 v (cnt fx nl L.length 4 ++ (L.map fun t => valW el (sub.part ver fx) false fx t).flatten).length ((cnt fx nl L.length 4 ++ (L.map fun t => valW el (sub.part ver fx) false fx t).flatten).map bv) ∧ Below U w w') .ret a' w' → Q .ret a' w') :
    vc P (sq [(rg [⟨some 20, .fieldAddr E.tTree (.tmp 7) 3, 0, "", #[], none⟩,
            ⟨some 21, .load E.tTrees (.tmp 20), E.tTrees, "", #[], none⟩,
            ⟨some 22, .call { callee := .value (.func E.sThings), args := #[(.tmp 21)], argTypes := #[E.tTrees] }, E.tTrees, "", #[], none⟩,
            ⟨some 10, .assign (.tmp 22), E.tTrees, "", #[], none⟩]),
          (sq [(rg [⟨some 23, .move (.tmp 9), E.tBool, "", #[], none⟩]),
            (.cond (.tmp 23)
              (rg [⟨some 10, .assign (.const (.slice none 0 0)), E.tTrees, "", #[], none⟩])
              .skip)]),
          (rg [⟨some 24, .move (.tmp 2), E.tBool, "", #[], none⟩,
            ⟨some 25, .move (.tmp 9), E.tBool, "", #[], none⟩,
            ⟨some 26, .move (.tmp 10), E.tTrees, "", #[], none⟩,
            ⟨some 27, .call { callee := .builtin .len, args := #[(.tmp 26)], argTypes := #[E.tTrees] }, E.tInt, "", #[], none⟩,
            ⟨some 28, .call { callee := .value (.func E.sCounted), args := #[(.tmp 24), (.tmp 25), (.tmp 27), (.const (.int .i64 4))], argTypes := #[E.tBool, E.tBool, E.tInt, E.tInt] }, E.tBytes, "", #[], none⟩,
            ⟨some 11, .assign (.tmp 28), E.tBytes, "", #[], none⟩]),
          (sq [(rg [⟨some 29, .move (.tmp 10), E.tTrees, "", #[], none⟩,
              ⟨some 30, .call { callee := .builtin .len, args := #[(.tmp 29)], argTypes := #[E.tTrees] }, E.tInt, "", #[], none⟩,
              ⟨some 31, .move (.const (.int .i64 0)), E.tInt, "", #[], none⟩]),
            (.block 0 (.loop (sq [(rg [⟨some 32, .binOp .lss E.tInt (.tmp 31) (.tmp 30) E.tInt, 0, "", #[], none⟩]),
                  (.cond (.tmp 32)
                    .skip
                    (.exit 0)),
                  (.block 1 (sq [(rg [⟨some 33, .move (.tmp 31), E.tInt, "", #[], none⟩,
                        ⟨some 12, .assign (.tmp 33), E.tInt, "", #[], none⟩]),
                      (rgd [⟨some 34, .move (.tmp 11), E.tBytes, "", #[], none⟩,
                        ⟨some 35, .fieldAddr E.tFld (.tmp 4) 6, 0, "", #[], none⟩,
                        ⟨some 36, .load E.tInt (.tmp 35), E.tInt, "", #[⟨1, .data⟩], none⟩,
                        ⟨some 37, .fieldAddr E.tFld (.tmp 4) 7, 0, "", #[], none⟩,
                        ⟨some 38, .load E.tFlds (.tmp 37), E.tFlds, "", #[⟨3, .data⟩], none⟩,
                        ⟨some 39, .move (.tmp 1), E.tInt, "", #[], none⟩,
                        ⟨some 40, .move (.tmp 2), E.tBool, "", #[], none⟩,
                        ⟨some 41, .move (.tmp 10), E.tTrees, "", #[], none⟩,
                        ⟨some 42, .move (.tmp 12), E.tInt, "", #[], none⟩,
                        ⟨some 43, .indexAddr E.tTrees (.tmp 41) (.tmp 42), 0, "", #[⟨7, .data⟩, ⟨8, .data⟩], none⟩,
                        ⟨some 44, .load E.tTree (.tmp 43), E.tTree, "", #[⟨9, .data⟩], none⟩,
                        ⟨some 45, .call { callee := .value (.func E.sValue), args := #[(.tmp 36), (.tmp 38), (.const (.bool false)), (.tmp 39), (.tmp 40), (.tmp 44)], argTypes := #[E.tInt, E.tFlds, E.tBool, E.tInt, E.tBool, E.tTree] }, E.tBytes, "", #[⟨2, .data⟩, ⟨4, .data⟩, ⟨5, .data⟩, ⟨6, .data⟩, ⟨10, .data⟩], none⟩,
                        ⟨some 46, .call { callee := .builtin .append, args := #[(.tmp 34), (.tmp 45)], argTypes := #[E.tBytes, E.tBytes] }, E.tBytes, "", #[⟨0, .data⟩, ⟨11, .data⟩, ⟨11, .chain⟩], none⟩,
                        ⟨some 11, .assign (.tmp 46), E.tBytes, "", #[⟨12, .data⟩, ⟨12, .chain⟩, ⟨0, .phase⟩, ⟨1, .phase⟩, ⟨2, .phase⟩, ⟨3, .phase⟩, ⟨4, .phase⟩, ⟨5, .phase⟩, ⟨6, .phase⟩, ⟨7, .phase⟩, ⟨8, .phase⟩, ⟨9, .phase⟩, ⟨10, .phase⟩, ⟨11, .phase⟩, ⟨12, .phase⟩], none⟩])])),
                  (rg [⟨some 47, .binOp .add E.tInt (.tmp 31) (.const (.int .i64 1)) E.tInt, E.tInt, "", #[], none⟩,
                    ⟨some 31, .move (.tmp 47), E.tInt, "", #[], none⟩])])))]),
          (rg [⟨some 48, .move (.tmp 11), E.tBytes, "", #[], none⟩,
            ⟨some 8, .assign (.tmp 48), E.tBytes, "", #[], none⟩]),
          .ret]) Q A W := by
  obtain ⟨s1, lv, uv, hts, _, _, hl⟩ := hrt
  have d3 : W.cell? ⟨b + 1, 0 + 3, none⟩ = some lv := hf.ct 3 lv (by rw [hts]; rfl)
  have hsl := rowB_slice H.rTrees
  obtain ⟨ad, cap, hlv, hcap, had⟩ : ∃ ad cap, lv = .slice ad l.len cap ∧ l.len ≤ cap ∧ ∀ k, k ≤ l.len → ListB w U (.slice ad k cap) (l.toL.take k) := by
    rcases hl with ⟨rfl, h0⟩ | ⟨q, o, cap, rfl, hc, hq, hrep⟩
    · refine ⟨none, 0, by rw [h0], by omega, fun k hk => .inl ⟨by rw [show k = 0 by omega], ?_⟩⟩
      rw [show k = 0 by omega, List.take_zero]
    · refine ⟨_, cap, rfl, hc, fun k hk => .inr ⟨q, o, cap, by rw [List.length_take, Trs.toL_len, Nat.min_eq_left hk], hq, fun i t ht => ?_⟩⟩
      have : l.get i = some t := by
        rw [List.getElem?_take] at ht
        split at ht
        · rw [← Trs.toL_get]; exact ht
        · cases ht
      exact hrep.get this
  subst hlv
  have hs := hf.size
  refine vc_sq (vc_rg (by simp) ?_)
  refine r_field (b := b + 1) (o := 0) (by simp (disch := (first | omega | (simp only [sP]; omega))) only [eS, eN, eC, hf.s7]) (offs_inv H.fTree (by decide)) ?_
  refine r_load (b := b + 1) (o := 0 + 3) (by simp (disch := (first | omega | (simp only [sP]; omega))) only [eS, eN, eC]) H.oTrees d3 ?_
  refine r_call' (args := #[.slice ad l.len cap]) ?_ (s_first (T := E.tTrees) (e := E.tTree) (c := .skip) (.inr hsl) H.int hcap HT.things) ?_
  · simp only [List.map_toArray, List.map_cons, List.map_nil]
    simp (disch := (first | omega | (simp only [sP]; omega))) only [eS, eN, eC]
  rintro v w' ⟨rfl, rfl⟩
  refine r_assign ?_
  refine dn ?_
  refine vc_sq (vc_sq (vc_rg (by simp) ?_))
  refine r_move ?_
  refine dn ?_
  refine vc_sq (vc_cond (t := nl) (by simp (disch := (first | omega | (simp only [sP]; omega))) only [eS, eN, eC, hf.s9]) ?_ ?_)
  · intro hn
    have hL0 : L = [] := by rw [hL, hn]; rfl
    refine vc_rg (by simp) ?_
    refine r_assign ?_
    refine dn ?_
    refine vc_sq_nil ?_
    refine s_fieldL2 (b := b) (ts := ts) (cs := cs) (xv := .slice none 0 0) H HT hz8 (L := L) ?_ hr hU hel hp (by simp (disch := (first | omega | (simp only [sP]; omega))) only [eS, eN, eC]) (.inl ⟨rfl, hL0⟩) (by rw [hL0]; decide) hbig hpanic hQ
    repeat (refine FFr.put ?_ _ (by omega))
    exact hf
  · intro hn
    have hL1 : L = l.toL.take (min l.len 32767) := by
      rw [hL, hn]
      simp only [Bool.false_eq_true, if_false]
      rcases Nat.le_total l.len 32767 with h | h
      · rw [Nat.min_eq_left h, List.take_of_length_le (by rw [Trs.toL_len]; exact h), List.take_of_length_le (by rw [Trs.toL_len]; exact Nat.le_refl _)]
      · rw [Nat.min_eq_right h]
    refine vc_skip ?_
    refine vc_sq_nil ?_
    refine s_fieldL2 (b := b) (ts := ts) (cs := cs) (xv := .slice ad (min l.len 32767) cap) H HT hz8 (L := L) ?_ hr hU hel hp (by simp (disch := (first | omega | (simp only [sP]; omega))) only [eS, eN, eC]) (by rw [hL1]; exact had _ (Nat.min_le_left _ _)) (by rw [hL1, List.length_take]; unfold big; omega) hbig hpanic hQ
    repeat (refine FFr.put ?_ _ (by omega))
    exact hf
end
end Go.Km
