/- spec.field: a list. -/
import Derived.Test.YtnbhpeaapbpaeaaKmS9
set_option linter.unusedSimpArgs false
set_option linter.unusedVariables false
namespace Go.Km
open Go Go.RowKit
attribute [local irreducible] vc runOps runG runS runD

theorem Trs.toL_len : ∀ l : Trs, l.toL.length = l.len
  | .nil => rfl
  | .cons t r => by simp [Trs.toL, Trs.len, Trs.toL_len r]
theorem Trs.toL_get : ∀ (l : Trs) (i : Nat), l.toL[i]? = l.get i
  | .nil, i => by simp [Trs.toL, Trs.get]
  | .cons t r, 0 => rfl
  | .cons t r, i + 1 => by simpa [Trs.toL, Trs.get] using Trs.toL_get r i
theorem flat_succ {α β : Type} (l : List α) (f : α → List β) (i : Nat) (h : i < l.length) : ((l.take (i + 1)).map f).flatten = ((l.take i).map f).flatten ++ f l[i] := by
  rw [List.take_succ_eq_append_getElem h, List.map_append, List.flatten_append]
  simp
theorem flat_le {α β : Type} (l : List α) (f : α → List β) (i : Nat) : ((l.take i).map f).flatten.length ≤ ((l.map f).flatten).length := by
  have : l = l.take i ++ l.drop i := (List.take_append_drop i l).symm
  conv => rhs; rw [this]
  rw [List.map_append, List.flatten_append, List.length_append]
  omega
/-- A slice of trees below U. -/
def ListB (w : World) (U : Nat) (v : Value) (L : List Tr) : Prop :=
  (v = .slice none 0 0 ∧ L = []) ∨ ∃ q o cap, v = .slice (some ⟨q, o, none⟩) L.length cap ∧ q < U ∧ ∀ (i : Nat) (t : Tr), L[i]? = some t → ∃ c, Cells w q (o + i * 5) c ∧ t.Rep w U c

section
variable {P : Program} {E : Env} {w : World} {U : Nat}
theorem ListB.below {w w' : World} {v : Value} {L : List Tr} (h : ListB w U v L) (hw : Below U w w') : ListB w' U v L := by
  rcases h with h | ⟨q, o, cap, h1, h2, h3⟩
  · exact .inl h
  · refine .inr ⟨q, o, cap, h1, h2, fun i t ht => ?_⟩
    obtain ⟨c, h4, h5⟩ := h3 i t ht
    exact ⟨c, h4.below hw h2, h5.below hw⟩
theorem ListB.form {v : Value} {L : List Tr} (h : ListB w U v L) : ∃ ad cap, v = .slice ad L.length cap := by
  rcases h with ⟨rfl, rfl⟩ | ⟨q, o, cap, rfl, _⟩ <;> exact ⟨_, _, rfl⟩
set_option maxHeartbeats 1000000 in
theorem s_fieldL2 (H : SEnv P E) (HT : STexts P E) (hz8 : zeroT P E.tU8 = some (.int .u8 0)) {kind fr to nul tag df ver : Int} {el : Nat} {sub : SFs} {nl fx : Bool} {cs ts : List Value} {b : Nat} {A : Act} {W : World} {Q : Exit → Act → World → Prop} {xv : Value}
    (hf : FFr P E w U ver fx nl cs ts b A W) (hr : (SF.mk kind fr to nul tag df el sub).Rep w U cs) (hU : U ≤ w.heap.size) (hel : el ≤ 10) (hp : PartC P E ver fx sub) {L : List Tr} (hx : A.eval (.tmp 10) = xv) (hLB : ListB w U xv L) (hLn : L.length ≤ big)
    (hbig : (cnt fx nl L.length 4 ++ (L.map fun t => valW el (sub.part ver fx) false fx t).flatten).length ≤ big) (hpanic : ∀ c a a' w, Q (.panic c) a w → Q (.panic c) a' w)
    (hQ : ∀ a' w', Out P #[.tmp 8] (fun v w' => w'.ownsRow U E.tU8 1 v (cnt fx nl L.length 4 ++ (L.map fun t => valW el (sub.part ver fx) false fx t).flatten).length ((cnt fx nl L.length 4 ++ (L.map fun t => valW el (sub.part ver fx) false fx t).flatten).map bv) ∧ Below U w w') .ret a' w' → Q .ret a' w') :
    vc P (sq [(rg [⟨some 24, .move (.tmp 2), E.tBool, "", #[], none⟩,
            ⟨some 25, .move (.tmp 9), E.tBool, "", #[], none⟩,
            ⟨some 26, .move (.tmp 10), E.tTrees, "", #[], none⟩,
            ⟨some 27, .call { callee := .builtin .len, args := #[(.tmp 26)], argTypes := #[E.tTrees] }, E.tInt, "", #[], none⟩,
            ⟨some 28, .call { callee := .value (.func E.sCounted), args := #[(.tmp 24), (.tmp 25), (.tmp 27), (.const (.int .i64 4))], argTypes := #[E.tBool, E.tBool, E.tInt, E.tInt] }, E.tBytes, "", #[], none⟩,
            ⟨some 11, .assign (.tmp 28), E.tBytes, "", #[], none⟩]),
          (sq [(rg [⟨some 29, .move (.tmp 10), E.tTrees, "", #[], none⟩,
              ⟨some 30, .call { callee := .builtin .len, args := #[(.tmp 29)], argTypes := #[E.tTrees] }, E.tInt, "", #[], none⟩,
              ⟨some 31, .move (.const (.int .i64 0)), E.tInt, "", #[], none⟩]),
            (.block 0 (.loop (sq [(rg [⟨some 32, .binOp .lss E.tInt (.tmp 31) (.tmp 30) E.tInt, 0, "", #[], none⟩]),
                  (.cond (.tmp 32)
                    .skip
                    (.exit 0)),
                  (.block 1 (sq [(rg [⟨some 33, .move (.tmp 31), E.tInt, "", #[], none⟩,
                        ⟨some 12, .assign (.tmp 33), E.tInt, "", #[], none⟩]),
                      (rgd [⟨some 34, .move (.tmp 11), E.tBytes, "", #[], none⟩,
                        ⟨some 35, .fieldAddr E.tFld (.tmp 4) 6, 0, "", #[], none⟩,
                        ⟨some 36, .load E.tInt (.tmp 35), E.tInt, "", #[⟨1, .data⟩], none⟩,
                        ⟨some 37, .fieldAddr E.tFld (.tmp 4) 7, 0, "", #[], none⟩,
                        ⟨some 38, .load E.tFlds (.tmp 37), E.tFlds, "", #[⟨3, .data⟩], none⟩,
                        ⟨some 39, .move (.tmp 1), E.tInt, "", #[], none⟩,
                        ⟨some 40, .move (.tmp 2), E.tBool, "", #[], none⟩,
                        ⟨some 41, .move (.tmp 10), E.tTrees, "", #[], none⟩,
                        ⟨some 42, .move (.tmp 12), E.tInt, "", #[], none⟩,
                        ⟨some 43, .indexAddr E.tTrees (.tmp 41) (.tmp 42), 0, "", #[⟨7, .data⟩, ⟨8, .data⟩], none⟩,
                        ⟨some 44, .load E.tTree (.tmp 43), E.tTree, "", #[⟨9, .data⟩], none⟩,
                        ⟨some 45, .call { callee := .value (.func E.sValue), args := #[(.tmp 36), (.tmp 38), (.const (.bool false)), (.tmp 39), (.tmp 40), (.tmp 44)], argTypes := #[E.tInt, E.tFlds, E.tBool, E.tInt, E.tBool, E.tTree] }, E.tBytes, "", #[⟨2, .data⟩, ⟨4, .data⟩, ⟨5, .data⟩, ⟨6, .data⟩, ⟨10, .data⟩], none⟩,
                        ⟨some 46, .call { callee := .builtin .append, args := #[(.tmp 34), (.tmp 45)], argTypes := #[E.tBytes, E.tBytes] }, E.tBytes, "", #[⟨0, .data⟩, ⟨11, .data⟩, ⟨11, .chain⟩], none⟩,
                        ⟨some 11, .assign (.tmp 46), E.tBytes, "", #[⟨12, .data⟩, ⟨12, .chain⟩, ⟨0, .phase⟩, ⟨1, .phase⟩, ⟨2, .phase⟩, ⟨3, .phase⟩, ⟨4, .phase⟩, ⟨5, .phase⟩, ⟨6, .phase⟩, ⟨7, .phase⟩, ⟨8, .phase⟩, ⟨9, .phase⟩, ⟨10, .phase⟩, ⟨11, .phase⟩, ⟨12, .phase⟩], none⟩])])),
                  (rg [⟨some 47, .binOp .add E.tInt (.tmp 31) (.const (.int .i64 1)) E.tInt, E.tInt, "", #[], none⟩,
                    ⟨some 31, .move (.tmp 47), E.tInt, "", #[], none⟩])])))]),
          (rg [⟨some 48, .move (.tmp 11), E.tBytes, "", #[], none⟩,
            ⟨some 8, .assign (.tmp 48), E.tBytes, "", #[], none⟩]),
          .ret]) Q A W := by
  obtain ⟨sv, hcs, hsub⟩ := hr
  have hUW : U ≤ W.heap.size := Nat.le_trans hU hf.below.size
  have hsl := rowB_slice H.rTrees
  obtain ⟨ad, cap, hxv⟩ := hLB.form
  have hs := hf.size
  have hbW := hf.bW
  have hbU := hf.bU
  refine vc_sq (vc_rg (by simp) ?_)
  refine r_move ?_
  refine r_move ?_
  refine r_move ?_
  refine r_len (ad := ad) (n := L.length) (c := cap) hsl (by simp (disch := (first | omega | (simp only [sP]; omega))) only [eS, eN, eC, hx, hxv]) ?_
  refine r_call' (args := #[.bool fx, .bool nl, .int .i64 (L.length : Int), .int .i64 ((4 : Nat) : Int)]) ?_ (s_counted (U := W.heap.size) HT.counted HT.uvar HT.fixed H.row H.u8 H.u64 H.i64 H.int hLn (by decide) (Nat.le_refl _)) ?_
  · simp only [List.map_toArray, List.map_cons, List.map_nil]
    simp (disch := (first | omega | (simp only [sP]; omega))) only [eS, eN, eC, hf.s2, hf.s9]
    rfl
  rintro v W1 ⟨hown1, hb1⟩
  refine r_assign ?_
  refine dn ?_
  refine vc_sq (vc_sq (vc_rg (by simp) ?_))
  refine r_move ?_
  refine r_len (ad := ad) (n := L.length) (c := cap) hsl (by simp (disch := (first | omega | (simp only [sP]; omega))) only [eS, eN, eC, hx, hxv]) ?_
  refine r_move ?_
  refine dn ?_
  have hf1 := hf.world hb1 (by omega)
  refine vc_sq (vc_block (vc_count (fun m B V => m ≤ L.length ∧ FFr P E w U ver fx nl cs ts b B V ∧ B.eval (.tmp 10) = xv ∧ B.eval (.tmp 30) = .int .i64 (L.length : Int) ∧ B.eval (.tmp 31) = .int .i64 ((L.length - m : Nat) : Int) ∧ W.heap.size ≤ V.heap.size ∧ Below W.heap.size W V ∧
    ∃ xs : List UInt8, V.ownsRow W.heap.size E.tU8 1 (B.eval (.tmp 11)) xs.length (xs.map bv) ∧ xs = cnt fx nl L.length 4 ++ ((L.take (L.length - m)).map fun t => valW el (sub.part ver fx) false fx t).flatten) L.length ?_ ?_ ?_))
  · refine ⟨Nat.le_refl _, (((((((((hf1.put _ (by omega)).put _ (by omega)).put _ (by omega)).put _ (by omega)).put _ (by omega)).put _ (by omega)).put _ (by omega)).put _ (by omega)).put _ (by omega)), (by simp (disch := (first | omega | (simp only [sP]; omega))) only [eS, eN, eC, hx]), (by simp (disch := (first | omega | (simp only [sP]; omega))) only [eS, eN, eC]), ?_, hb1.size, hb1, cnt fx nl L.length 4, ?_, ?_⟩
    · simp (disch := (first | omega | (simp only [sP]; omega))) only [eS, eN, eC]
      simp
    · rw [show Act.eval _ (.tmp 11) = v by simp (disch := (first | omega | (simp only [sP]; omega))) only [eS, eN, eC]]
      exact hown1
    · simp
  · rintro m B V ⟨hm, hfB, g10, g30, g31, hWV, hbV, xs, hown, hxs⟩
    have hi : L.length - (m + 1) < L.length := by omega
    have him : L.length - m = (L.length - (m + 1)) + 1 := by omega
    rw [him]
    generalize hii : L.length - (m + 1) = i at *
    have hbVU : Below U w V := hf.below.trans (hbV.mono hUW)
    have hLV := hLB.below hbVU
    obtain ⟨q, o, cap', hxv', hq, hel'⟩ : ∃ q o cap, xv = .slice (some ⟨q, o, none⟩) L.length cap ∧ q < U ∧ ∀ (i : Nat) (t : Tr), L[i]? = some t → ∃ c, Cells V q (o + i * 5) c ∧ t.Rep V U c := by
      rcases hLV with ⟨_, rfl⟩ | ⟨q, o, cap, h1, h2, h3⟩
      · simp at hi
      · exact ⟨q, o, cap, h1, h2, h3⟩
    obtain ⟨c, hc, hrc⟩ := hel' i L[i] (List.getElem?_eq_getElem hi)
    have hsB := hfB.size
    have c6 : V.cell? ⟨b, 6, none⟩ = some (.int .i64 (el : Int)) := by have := hfB.cf 6 (.int .i64 (el : Int)) (by rw [hcs]; rfl); simpa using this
    have c7 : V.cell? ⟨b, 7, none⟩ = some sv := by have := hfB.cf 7 sv (by rw [hcs]; rfl); simpa using this
    refine vc_sq (vc_rg (by simp) ?_)
    refine r_lss (k := .i64) (m := (i : Int)) (n := (L.length : Int)) g31 g30 ?_
    refine dn ?_
    refine vc_sq (vc_cond (t := true) ?_ ?_ (fun h => by cases h))
    · simp (disch := (first | omega | (simp only [sP]; omega))) only [eS, eN, eC]
      simp only [Value.bool.injEq, decide_eq_true_eq]
      omega
    intro _
    refine vc_skip ?_
    refine vc_sq (vc_block (vc_sq (vc_rg (by simp) ?_)))
    refine r_move ?_
    refine r_assign ?_
    refine dn ?_
    generalize hG : ((B.put (some 32) _).put (some 33) _).put (some 12) _ = G
    have hfG := ((hfB.put (d := 32) (.bool (decide ((i : Int) < (L.length : Int)))) (by omega)).put (d := 33) ((B.put (some 32) (.bool (decide ((i : Int) < (L.length : Int))))).eval (.tmp 31)) (by omega)).put (d := 12) (((B.put (some 32) (.bool (decide ((i : Int) < (L.length : Int))))).put (some 33) ((B.put (some 32) (.bool (decide ((i : Int) < (L.length : Int))))).eval (.tmp 31))).eval (.tmp 33)) (by omega)
    rw [hG] at hfG
    have k10 : G.eval (.tmp 10) = xv := by rw [← hG]; simp (disch := (first | omega | (simp only [sP]; omega))) only [eS, eN, eC, g10]
    have k12 : G.eval (.tmp 12) = .int .i64 (i : Int) := by rw [← hG]; simp (disch := (first | omega | (simp only [sP]; omega))) only [eS, eN, eC, g31]
    have k30 : G.eval (.tmp 30) = .int .i64 (L.length : Int) := by rw [← hG]; simp (disch := (first | omega | (simp only [sP]; omega))) only [eS, eN, eC, g30]
    have k31 : G.eval (.tmp 31) = .int .i64 (i : Int) := by rw [← hG]; simp (disch := (first | omega | (simp only [sP]; omega))) only [eS, eN, eC, g31]
    have k11 : G.eval (.tmp 11) = B.eval (.tmp 11) := by rw [← hG]; simp (disch := (first | omega | (simp only [sP]; omega))) only [eS, eN, eC]
    have hsG := hfG.size
    clear hG
    rw [← k11] at hown
    have hsucc := flat_succ L (fun t => valW (el : Int) (sub.part ver fx) false fx t) i hi
    have hle := flat_le L (fun t => valW (el : Int) (sub.part ver fx) false fx t) (i + 1)
    rw [hsucc, List.length_append] at hle
    have hvb : xs.length + (valW (el : Int) (sub.part ver fx) false fx L[i]).length ≤ big := by
      rw [hxs, List.length_append]
      rw [List.length_append] at hbig
      omega
    have hUV : U ≤ V.heap.size := Nat.le_trans hUW hWV
    have hbd : Below V.heap.size V { V with drawn := V.drawn + 1 } := ⟨rfl, rfl, rfl, Nat.le_refl _, fun _ _ => rfl⟩
    have hbV2 : b + 1 < V.heap.size := hfB.bW
    have mkS : ∀ w2, Below W.heap.size V w2 → w2.cell? ⟨b, 6, none⟩ = some (.int .i64 (el : Int)) ∧ w2.cell? ⟨b, 7, none⟩ = some sv ∧ Cells w2 q (o + i * 5) c := fun w2 h2 =>
      ⟨by rw [h2.cell (p := ⟨b, 6, none⟩) (by show b < _; omega)]; exact c6, by rw [h2.cell (p := ⟨b, 7, none⟩) (by show b < _; omega)]; exact c7, hc.below h2 (by omega)⟩
    have hS := mkS _ (hbd.mono hWV)
    refine vc_sq (vc_rgd [(0, true), (1, true), (2, true), (3, true), (4, true), (5, true), (6, true), (7, true), (8, true), (9, true), (10, true), (11, false), (12, false), (13, true)] (fun W' => W'.cell? ⟨b, 6, none⟩ = some (.int .i64 (el : Int)) ∧ W'.cell? ⟨b, 7, none⟩ = some sv ∧ Cells W' q (o + i * 5) c) HT.mixed (by kernel_rfl) rfl (by kernel_rfl) (fun c a a' w h => hpanic c a a' w h) ?_)
    refine d_pure rfl rfl rfl (wants_none rfl) (by simp only [size_put, hsG]; decide) hS (fun w' hS' => r_move (dn ⟨rfl, rfl, rfl⟩)) ?_
    refine d_pure rfl rfl rfl (wants_none rfl) (by simp only [size_put, hsG]; decide) hS (fun w' hS' => r_field (b := b) (o := 0) (by simp (disch := (first | omega | (simp only [sP]; omega))) only [eS, eN, eC, hfG.s4]) (offs_inv H.fFld (by decide)) (dn ⟨rfl, rfl, rfl⟩)) ?_
    refine d_pure rfl rfl rfl (wants_none rfl) (by simp only [size_put, hsG]; decide) hS (fun w' hS' => r_load (b := b) (o := 6) (v := .int .i64 (el : Int)) (by (try simp (disch := (first | omega | (simp only [sP]; omega))) only [eS, eN, eC]) <;> (first | rfl | assumption)) H.oInt hS'.1 (dn ⟨rfl, rfl, rfl⟩)) ?_
    refine d_pure rfl rfl rfl (wants_none rfl) (by simp only [size_put, hsG]; decide) hS (fun w' hS' => r_field (b := b) (o := 0) (by simp (disch := (first | omega | (simp only [sP]; omega))) only [eS, eN, eC, hfG.s4]) (offs_inv H.fFld (by decide)) (dn ⟨rfl, rfl, rfl⟩)) ?_
    refine d_pure rfl rfl rfl (wants_none rfl) (by simp only [size_put, hsG]; decide) hS (fun w' hS' => r_load (b := b) (o := 7) (v := sv) (by (try simp (disch := (first | omega | (simp only [sP]; omega))) only [eS, eN, eC]) <;> (first | rfl | assumption)) H.oFlds hS'.2.1 (dn ⟨rfl, rfl, rfl⟩)) ?_
    refine d_pure rfl rfl rfl (wants_none rfl) (by simp only [size_put, hsG]; decide) hS (fun w' hS' => r_move (dn ⟨rfl, rfl, rfl⟩)) ?_
    refine d_pure rfl rfl rfl (wants_none rfl) (by simp only [size_put, hsG]; decide) hS (fun w' hS' => r_move (dn ⟨rfl, rfl, rfl⟩)) ?_
    refine d_pure rfl rfl rfl (wants_none rfl) (by simp only [size_put, hsG]; decide) hS (fun w' hS' => r_move (dn ⟨rfl, rfl, rfl⟩)) ?_
    refine d_pure rfl rfl rfl (wants_none rfl) (by simp only [size_put, hsG]; decide) hS (fun w' hS' => r_move (dn ⟨rfl, rfl, rfl⟩)) ?_
    refine d_pure rfl rfl rfl (wants_none rfl) (by simp only [size_put, hsG]; decide) hS (fun w' hS' => r_index (k := .i64) (j := i) (b := q) (o := o) (len := L.length) (cap := cap') hsl (by simp (disch := (first | omega | (simp only [sP]; omega))) only [eS, eN, eC, k10, hxv']) (by simp (disch := (first | omega | (simp only [sP]; omega))) only [eS, eN, eC, k12]) hi (dn ⟨rfl, rfl, rfl⟩)) ?_
    refine d_pure rfl rfl rfl (wants_none rfl) (by simp only [size_put, hsG]; decide) hS (fun w' hS' => r_loadAgg (b := q) (o := o + i * 5) (cs := c) (by simp (disch := (first | omega | (simp only [sP]; omega))) only [eS, eN, eC]) (by rw [hrc.len]; exact H.aTree) hS'.2.2 (dn ⟨rfl, rfl, rfl⟩)) ?_
    refine d_sole rfl (wants_none rfl) ?_
    have hbd' : Below U w { V with drawn := V.drawn + 1 } := hbVU.trans (hbd.mono hUV)
    refine r_call' (args := #[.int .i64 (el : Int), sv, .bool false, .int .i64 ver, .bool fx, .agg c.toArray]) ?_ (s_value (U := V.heap.size) (ver := ver) (nl := false) (fx := fx) (t := L[i]) H HT hz8 hel (fun _ => hp) (Nat.le_refl _) (fun _ => (SlF.below hsub hbd').mono hUV) ((hrc.below (hbd.mono hUV)).mono hUV) (by omega)) ?_
    · simp only [List.map_toArray, List.map_cons, List.map_nil]
      simp (disch := (first | omega | (simp only [sP]; omega))) only [eS, eN, eC, hfG.s1, hfG.s2]
    rintro v2 w2 ⟨h1, h2⟩
    have hV2 : Below V.heap.size V w2 := hbd.trans h2
    refine dn (d_then (mkS _ (hV2.mono hWV)) ?_)
    refine d_sole rfl (wants_none rfl) ?_
    have hown2 := own_below hown hV2
    refine r_append (sz := 1) (U := W.heap.size) (m := (valW (el : Int) (sub.part ver fx) false fx L[i]).length) (news := (valW (el : Int) (sub.part ver fx) false fx L[i]).map bv) H.row (by simp (disch := (first | omega | (simp only [sP]; omega))) only [eS, eN, eC]) (by simp (disch := (first | omega | (simp only [sP]; omega))) only [eS, eN, eC]) hown2 (Nat.le_trans hWV hV2.size) (src_own (rowB_slice H.row) h1 (bv_one _)) hvb ?_
    intro v4 w4 h5 h6
    have hV4 : Below W.heap.size V w4 := (hV2.mono hWV).trans h6
    refine dn (d_then (mkS _ hV4) ?_)
    refine d_pure rfl rfl rfl (wants_none rfl) (by simp only [size_put, hsG]; decide) (mkS _ hV4) (fun w' hS' => r_assign (dn ⟨rfl, rfl, rfl⟩)) ?_
    refine d_nil ?_
    refine vc_sq_nil ?_
    refine vc_sq (vc_rg (by simp) ?_)
    refine r_add (k := .i64) (m := (i : Int)) (n := 1) (by simp (disch := (first | omega | (simp only [sP]; omega))) only [eS, eN, eC, k31]) rfl ?_
    refine r_move ?_
    refine dn ?_
    refine vc_sq_nil ?_
    rw [← List.length_append, ← List.map_append] at h5
    refine ⟨by omega, ?_, (by simp (disch := (first | omega | (simp only [sP]; omega))) only [eS, eN, eC, k10]), (by simp (disch := (first | omega | (simp only [sP]; omega))) only [eS, eN, eC, k30]), ?_, Nat.le_trans hWV hV4.size, hbV.trans hV4, xs ++ valW (el : Int) (sub.part ver fx) false fx L[i], ?_, ?_⟩
    · have := hfG.world hV4 (by omega)
      repeat (refine FFr.put ?_ _ (by omega))
      exact this
    · simp (disch := (first | omega | (simp only [sP]; omega))) only [eS, eN, eC]
      rw [wrap_i64 (by unfold big at hLn; omega) (by unfold big at hLn; omega)]
      rfl
    · rw [show Act.eval _ (.tmp 11) = v4 by simp (disch := (first | omega | (simp only [sP]; omega))) only [eS, eN, eC]]
      exact h5
    · rw [hsucc, hxs, List.append_assoc]
  · rintro B V ⟨hm, hfB, g10, g30, g31, hWV, hbV, xs, hown, hxs⟩
    refine vc_sq (vc_rg (by simp) ?_)
    refine r_lss (k := .i64) (m := ((L.length - 0 : Nat) : Int)) (n := (L.length : Int)) g31 g30 ?_
    refine dn ?_
    have hsB := hfB.size
    refine vc_sq (vc_cond (t := false) ?_ (fun h => by cases h) ?_)
    · simp (disch := (first | omega | (simp only [sP]; omega))) only [eS, eN, eC]
      simp only [Value.bool.injEq, decide_eq_false_iff_not]
      omega
    intro _
    refine vc_exit ?_
    simp only [Exit.then, Exit.inBlock, if_true]
    refine vc_sq_nil ?_
    refine vc_sq (vc_rg (by simp) ?_)
    refine r_move ?_
    refine r_assign ?_
    refine dn ?_
    refine vc_sq (vc_ret ?_)
    rw [Nat.sub_zero, List.take_length] at hxs
    rw [← hxs] at hQ
    exact hQ _ _ ⟨by simp only [defers_put]; exact hfB.defers, B.eval (.tmp 11), results_one (by simp (disch := (first | omega | (simp only [sP]; omega))) only [eS, eN, eC]), own_mono hown hUW, hf.below.trans (hbV.mono hUW)⟩
end
end Go.Km
