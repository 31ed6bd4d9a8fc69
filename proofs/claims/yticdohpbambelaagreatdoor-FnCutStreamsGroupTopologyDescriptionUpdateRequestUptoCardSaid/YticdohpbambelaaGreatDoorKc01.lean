/- spec.unknown: a tag is put in. spec.unknown. spec.part and spec.field of all shapes without known tags. spec.Default: trees in memory that are wholly new. spec.Default. spec.Default of all shapes. The spec's messages: literals of fields. The spec's messages: the functions that give them. The laws 'what the spec writes is read, and written back', 'what ends early is an error': over any program. The laws 'what the spec writes is read, and written back', second part: the law's body. A tree that came in, as the spec's functions take it. How long what the spec writes is; rows of laws over trees. A message's list of fields is what its functions give. -/
import Derived.Test.YticdohpbambelaaGreatDoorKb03
import Derived.Test.YticdohpbambelaaGreatDoorKb04
import Derived.Test.YticdohpbambelaaGreatDoorKc00
set_option linter.unusedSimpArgs false
set_option linter.unusedVariables false
namespace Go.Km
open Go Go.RowKit
attribute [local irreducible] vc rO_ runG runS runD
section
variable {P : Program} {E : Env} {w : World} {U : Nat}
set_option maxHeartbeats 1000000 in
theorem s_unkIns (H : SEnv P E) (HL : SLay P E) {A : Act} {V : World} {Q : Exit → Act → World → Prop} {B bb j : Nat} {v6 : Value} {es : List UE} {t : UE}
    (hs : A.tmps.size = 85) (h6 : A.eval (.tmp 6) = v6) (h8 : A.eval (.tmp 8) = .pointer (some ⟨bb, 0, none⟩)) (h9 : A.eval (.tmp 9) = .int .i64 (j : Int)) (hj : j ≤ es.length) (hn : es.length < 40000) (hB : B ≤ V.heap.size)
    (hown : V.ownsRow B E.tUnk 2 v6 es.length (fl es)) (hok : ∀ e ∈ es, e.2.oneCell' = true) (hto : t.2.oneCell' = true) (hbb : bb < V.heap.size) (hne : ∀ g, v6.ownBlock = some g → g ≠ bb) (hc : Cells V bb 0 [.int .u32 (t.1.1 : Int), t.2])
    (hQ : ∀ A' V' v', A'.tmps.size = 85 → A'.defers = A.defers → (∀ k : Nat, k < 23 → k ≠ 6 → k ≠ 10 → A'.eval (.tmp k) = A.eval (.tmp k)) → A'.eval (.tmp 6) = v' → Below B V V' → V'.ownsRow B E.tUnk 2 v' (es.length + 1) (fl (es.take j ++ t :: es.drop j)) → Q .normal A' V') :
    vc P (sq [
                (rg [(oQ 59 (.move (.tmp 6)) E.tK),
                  (oQ 60 (.build E.tUnk #[]) E.tUnk),
                  (oQ 61 (.buildSlice E.tK 1 #[(0, (.tmp 60))]) E.tK),
                  (oQ 62 (.call { callee := .builtin .append, args := #[(.tmp 59), (.tmp 61)], argTypes := #[E.tK, E.tK] }) E.tK),
                  (oQ 6 (.assign (.tmp 62)) E.tK)]),
                (sq [(rg [(oQ 63 (.move (.tmp 6)) E.tK),
                    (oQ 64 (.call { callee := .builtin .len, args := #[(.tmp 63)], argTypes := #[E.tK] }) E.tI),
                    (oQ 65 (.binOp .sub E.tI (.tmp 64) (.const (.int .i64 1)) E.tI) E.tI),
                    (oQ 10 (.assign (.tmp 65)) E.tI)]),
                  (.block 4 (.loop (sq [(sq [(rg [(oQ 66 (.move (.tmp 10)) E.tI),
                            (oQ 67 (.move (.tmp 9)) E.tI),
                            (oQ 68 (.binOp .gtr E.tI (.tmp 66) (.tmp 67) E.tI) E.tO)]),
                          (.cond (.tmp 68)
                            .skip
                            (.exit 4))]),
                        (.block 5 (rg [(oQ 71 (.move (.tmp 6)) E.tK),
                            (oQ 72 (.move (.tmp 10)) E.tI),
                            (oQ 73 (.move (.tmp 6)) E.tK),
                            (oQ 74 (.move (.tmp 10)) E.tI),
                            (oQ 75 (.binOp .sub E.tI (.tmp 74) (.const (.int .i64 1)) E.tI) E.tI),
                            (oQ 76 (.indexAddr E.tK (.tmp 73) (.tmp 75)) 0),
                            (oQ 77 (.load E.tUnk (.tmp 76)) E.tUnk),
                            (oQ 78 (.indexAddr E.tK (.tmp 71) (.tmp 72)) 0),
                            ⟨none, .store E.tUnk (.tmp 78) (.tmp 77), 0, "", #[], none⟩])),
                        (rg [(oQ 69 (.move (.tmp 10)) E.tI),
                          (oQ 70 (.binOp .sub E.tI (.tmp 69) (.const (.int .i64 1)) E.tI) E.tI),
                          (oQ 10 (.assign (.tmp 70)) E.tI)])])))]),
                (rg [(oQ 79 (.move (.tmp 6)) E.tK),
                  (oQ 80 (.move (.tmp 9)) E.tI),
                  (oQ 81 (.load E.tUnk (.tmp 8)) E.tUnk),
                  (oQ 82 (.indexAddr E.tK (.tmp 79) (.tmp 80)) 0),
                  ⟨none, .store E.tUnk (.tmp 82) (.tmp 81), 0, "", #[], none⟩])]) Q A V := by
  have hsl := rB H.rUnks
  generalize hnn : es.length = n at *
  refine vX (rM ?_)
  refine r_build (cells := #[.int .u32 0, .slice none 0 0]) HL.unk (by simp [Instr.fill]) ?_
  refine r_buildSlice (vs := [.agg #[.int .u32 0, .slice none 0 0]]) H.rUnks ?_ rfl (by intro v hv; simp only [List.mem_singleton] at hv; subst hv; rfl) (by decide) (by decide) ?_
  · simp only [lM]
    simp (disch := (try simp only [sP]); omega) only [eV]
    rfl
  have hown1 := own_below hown ((Below.refl V.heap.size V).alloc (o := .cells ([Value.agg #[.int .u32 0, .slice none 0 0]].flatMap fun v => v.cells.toList).toArray E.tUnk) (Nat.le_refl _))
  have hb1 : Below V.heap.size V (V.alloc (.cells ([Value.agg #[.int .u32 0, .slice none 0 0]].flatMap fun v => v.cells.toList).toArray E.tUnk)) := (Below.refl V.heap.size V).alloc (o := .cells _ _) (Nat.le_refl _)
  have hcz : Cells (V.alloc (.cells ([Value.agg #[.int .u32 0, .slice none 0 0]].flatMap fun v => v.cells.toList).toArray E.tUnk)) V.heap.size 0 [.int .u32 0, .slice none 0 0] := by
    intro i v hv
    rw [Nat.zero_add]
    exact cells_new V _ E.tUnk (by simpa [Value.cells] using hv)
  generalize V.alloc (.cells ([Value.agg #[.int .u32 0, .slice none 0 0]].flatMap fun v => v.cells.toList).toArray E.tUnk) = V1 at *
  refine r_appendG (sz := 2) (U := B) (v := v6) (m := 1) (news := [.int .u32 0, .slice none 0 0]) H.rUnks (u := .slice (some ⟨V.heap.size, 0, none⟩) 1 1) (by simp (disch := (try simp only [sP]); omega) only [eV, h6]) (by simp (disch := (try simp only [sP]); omega) only [eV]) hown1 (Nat.le_trans hB hb1.size) (src_cells hsl hcz rfl (by intro u hu; simp only [List.mem_cons, List.not_mem_nil, or_false] at hu; rcases hu with rfl | rfl <;> rfl)) (by unfold big; omega) ?_
  intro v7 V7 h7 hb7 hg7 hnew
  refine rA (dn ?_)
  have hbb1 : bb < V1.heap.size := Nat.lt_of_lt_of_le hbb hb1.size
  have hc7 : Cells V7 bb 0 [.int .u32 (t.1.1 : Int), t.2] := (hc.below hb1 hbb).grown hg7 hbb1 (fun he => hne bb he.symm rfl)
  have hform := own_form2 h7
  obtain ⟨g, cap, rfl, hncap, hBg, hgV⟩ := hform.resolve_left (by rintro ⟨_, h⟩; omega)
  have hgb : g ≠ bb := by
    rcases hnew g rfl with h | h
    · exact hne g h
    · omega
  have h7' : V7.ownsRow B E.tUnk 2 (.slice (some ⟨g, 0, none⟩) (n + 1) cap) (n + 1) (fl (es.take n ++ ((0, []), Value.slice none 0 0) :: es.drop n)) := by
    rw [← hnn, List.take_length, List.drop_length, fl_app]
    rw [hnn]
    exact h7
  have hbV7 : Below B V V7 := (hb1.mono hB).trans hb7
  clear h7 hnew hform hg7 hown1 hcz
  refine vS (vX (rM ?_))
  refine r_len (ad := some ⟨g, 0, none⟩) (n := n + 1) (c := cap) hsl (by simp (disch := (try simp only [sP]); omega) only [eV]) ?_
  refine r_sub (k := .i64) (m := ((n + 1 : Nat) : Int)) (n := 1) (by simp (disch := (try simp only [sP]); omega) only [eV]) rfl ?_
  have hw0 : IntKind.i64.wrap (((n + 1 : Nat) : Int) - 1) = (n : Int) := by rw [wrap_i64 (by omega) (by omega)]; omega
  rw [hw0]
  refine rA (dn ?_)
  refine vS (vc_block (vc_count (fun m A' V' => m ≤ n - j ∧ A'.tmps.size = 85 ∧ A'.defers = A.defers ∧ (∀ k : Nat, k < 23 → k ≠ 6 → k ≠ 10 → A'.eval (.tmp k) = A.eval (.tmp k)) ∧ A'.eval (.tmp 6) = .slice (some ⟨g, 0, none⟩) (n + 1) cap ∧ A'.eval (.tmp 10) = .int .i64 ((j + m : Nat) : Int) ∧
    Below B V V' ∧ Cells V' bb 0 [.int .u32 (t.1.1 : Int), t.2] ∧ ∃ X : UE, V'.ownsRow B E.tUnk 2 (.slice (some ⟨g, 0, none⟩) (n + 1) cap) (n + 1) (fl (es.take (j + m) ++ X :: es.drop (j + m)))) (n - j) ?_ ?_ ?_))
  · refine ⟨Nat.le_refl _, by simp only [zP]; exact hs, by simp only [dF], fun k h1 h2 h3 => (by simp (disch := (try simp only [sP]); omega) only [eV]), (by simp (disch := (try simp only [sP]); omega) only [eV]), ?_, hbV7, hc7, ((0, []), .slice none 0 0), ?_⟩
    · simp (disch := (try simp only [sP]); omega) only [eV]
      rw [show j + (n - j) = n by omega]
    · rw [show j + (n - j) = n by omega]
      exact h7'
  · rintro m A' V' ⟨hm, hs', hd', hk', g6, g10, hbV', hc', X, hX⟩
    have hkn : j + m < es.length := by omega
    rw [show j + (m + 1) = (j + m) + 1 by omega] at g10 hX
    generalize hkk : j + m = k at *
    have g9 : A'.eval (.tmp 9) = .int .i64 (j : Int) := by rw [hk' 9 (by omega) (by omega) (by omega), h9]
    have hxl : (es.take (k + 1) ++ X :: es.drop (k + 1)).length = n + 1 := by
      simp only [List.length_append, List.length_cons, List.length_take, List.length_drop]
      omega
    refine vS (vX (rM (rM ?_)))
    refine r_gtr (k := .i64) (m := ((k + 1 : Nat) : Int)) (n := (j : Int)) (by simp (disch := (try simp only [sP]); omega) only [eV, g10]) (by simp (disch := (try simp only [sP]); omega) only [eV, g9]) ?_
    refine dn ?_
    refine vS (vC (t := true) ?_ ?_ (fun h => by cases h))
    · simp (disch := (try simp only [sP]); omega) only [eV]
      simp only [Value.bool.injEq, decide_eq_true_eq]
      omega
    intro _
    refine vK (vN ?_)
    refine vS (vc_block (vR (by simp) ?_))
    refine rM (rM (rM (rM ?_)))
    refine r_sub (k := .i64) (m := ((k + 1 : Nat) : Int)) (n := 1) (by simp (disch := (try simp only [sP]); omega) only [eV, g10]) rfl ?_
    have hw1 : IntKind.i64.wrap (((k + 1 : Nat) : Int) - 1) = (k : Int) := by rw [wrap_i64 (by omega) (by omega)]; omega
    rw [hw1]
    refine r_index (k := .i64) (j := k) (b := g) (o := 0) (len := n + 1) (cap := cap) hsl (by simp (disch := (try simp only [sP]); omega) only [eV, g6]) (by simp (disch := (try simp only [sP]); omega) only [eV]) (by omega) ?_
    have hck := own_cells2 (i := k) hX (shift_get es k X hkn)
    refine r_loadAgg (b := g) (o := 0 + k * 2) (cs := [.int .u32 (es[k].1.1 : Int), es[k].2]) (by simp (disch := (try simp only [sP]); omega) only [eV]) H.aUnk (by rw [Nat.zero_add]; exact hck) ?_
    refine r_index (k := .i64) (j := k + 1) (b := g) (o := 0) (len := n + 1) (cap := cap) hsl (by simp (disch := (try simp only [sP]); omega) only [eV, g6]) (by simp (disch := (try simp only [sP]); omega) only [eV, g10]) (by omega) ?_
    have hset := own_set2 (i := k + 1) (x := es[k]) hX (by rw [hxl]; omega)
    rw [shift_set es k X hkn] at hset
    refine r_storeAgg (b := g) (o := 0 + (k + 1) * 2) (cs := [.int .u32 (es[k].1.1 : Int), es[k].2]) (by simp (disch := (try simp only [sP]); omega) only [eV]) (by simp (disch := (try simp only [sP]); omega) only [eV]) (by intro u hu; simp only [List.mem_cons, List.not_mem_nil, or_false] at hu; rcases hu with rfl | rfl; rfl; exact hok _ (List.getElem_mem hkn)) H.aUnk ?_ ?_
    · intro i hi
      simp only [List.length_cons, List.length_nil] at hi
      exact own_free2 hX (by omega)
    rw [show 0 + (k + 1) * 2 = (k + 1) * 2 by omega]
    have hc'' : Cells (setCells V' g ((k + 1) * 2) [.int .u32 (es[k].1.1 : Int), es[k].2]) bb 0 [.int .u32 (t.1.1 : Int), t.2] := hc'.eff (setCells_eff g _ V' _) (by rintro i hi ⟨h, _⟩; exact hgb h.symm)
    refine dn (vX (rM ?_))
    refine r_sub (k := .i64) (m := ((k + 1 : Nat) : Int)) (n := 1) (by simp (disch := (try simp only [sP]); omega) only [eV, g10]) rfl ?_
    rw [hw1]
    refine rA (dn (vN ?_))
    exact ⟨by omega, by simp only [zP]; exact hs', by simp only [dF]; exact hd', fun k' h1 h2 h3 => (by simp (disch := (try simp only [sP]); omega) only [eV, hk' k' h1 h2 h3]), (by simp (disch := (try simp only [sP]); omega) only [eV, g6]), (by simp (disch := (try simp only [sP]); omega) only [eV]), hbV'.trans hset.2, hc'', es[k], hset.1⟩
  · rintro A' V' ⟨hm, hs', hd', hk', g6, g10, hbV', hc', X, hX⟩
    simp only [Nat.add_zero] at g10 hX
    have g9 : A'.eval (.tmp 9) = .int .i64 (j : Int) := by rw [hk' 9 (by omega) (by omega) (by omega), h9]
    have g8 : A'.eval (.tmp 8) = .pointer (some ⟨bb, 0, none⟩) := by rw [hk' 8 (by omega) (by omega) (by omega), h8]
    have hxl : (es.take j ++ X :: es.drop j).length = n + 1 := by
      simp only [List.length_append, List.length_cons, List.length_take, List.length_drop]
      omega
    refine vS (vX (rM (rM ?_)))
    refine r_gtr (k := .i64) (m := (j : Int)) (n := (j : Int)) (by simp (disch := (try simp only [sP]); omega) only [eV, g10]) (by simp (disch := (try simp only [sP]); omega) only [eV, g9]) ?_
    refine dn ?_
    refine vS (vC (t := false) ?_ (fun h => by cases h) ?_)
    · simp (disch := (try simp only [sP]); omega) only [eV]
      simp only [Value.bool.injEq, decide_eq_false_iff_not]
      omega
    intro _
    refine vc_exit ?_
    simp only [Exit.then, Exit.inBlock, if_true]
    refine vN (vX (rM (rM ?_)))
    refine r_loadAgg (b := bb) (o := 0) (cs := [.int .u32 (t.1.1 : Int), t.2]) (by simp (disch := (try simp only [sP]); omega) only [eV, g8]) H.aUnk hc' ?_
    refine r_index (k := .i64) (j := j) (b := g) (o := 0) (len := n + 1) (cap := cap) hsl (by simp (disch := (try simp only [sP]); omega) only [eV, g6]) (by simp (disch := (try simp only [sP]); omega) only [eV, g9]) (by omega) ?_
    have hset := own_set2 (i := j) (x := t) hX (by rw [hxl]; omega)
    rw [put_set es j X t (by omega)] at hset
    refine r_storeAgg (b := g) (o := 0 + j * 2) (cs := [.int .u32 (t.1.1 : Int), t.2]) (by simp (disch := (try simp only [sP]); omega) only [eV]) (by simp (disch := (try simp only [sP]); omega) only [eV]) (by intro u hu; simp only [List.mem_cons, List.not_mem_nil, or_false] at hu; rcases hu with rfl | rfl; rfl; exact hto) H.aUnk ?_ ?_
    · intro i hi
      simp only [List.length_cons, List.length_nil] at hi
      exact own_free2 hX (by omega)
    rw [show 0 + j * 2 = j * 2 by omega]
    refine dn (vN ?_)
    exact hQ _ _ _ (by simp only [zP]; exact hs') (by simp only [dF]; exact hd') (fun k' h1 h2 h3 => (by simp (disch := (try simp only [sP]); omega) only [eV, hk' k' h1 h2 h3])) (by simp (disch := (try simp only [sP]); omega) only [eV, g6]) (hbV'.trans hset.2) hset.1
end
end Go.Km
namespace Go.Km
open Go Go.RowKit
attribute [local irreducible] vc rO_ runG runS runD
theorem UnkB.items {w : World} {U : Nat} {v : Value} {u : List (Nat × List UInt8)} (h : UnkB w U v u) : ∃ ad cap, v = .slice ad u.length cap ∧ u.length ≤ cap ∧
  ∀ (i : Nat) (x : Nat × List UInt8), u[i]? = some x → ∃ q o s, ad = some ⟨q, o, none⟩ ∧ q < U ∧ x.1 < 4294967296 ∧ Cells w q (o + i * 2) [.int .u32 (x.1 : Int), s] ∧ OctsB w U s x.2 := by
 rcases h with ⟨⟨ad, cap, rfl⟩, rfl⟩ | ⟨q, o, cap, rfl, hc, hq, h⟩
 ·exact ⟨ad, cap, rfl, Nat.zero_le _, fun i x hx => by simp at hx⟩
 ·refine ⟨_, cap, rfl, hc, fun i x hx => ?_⟩
  obtain ⟨s, h1, h2, h3⟩ := h i x hx
  exact ⟨q, o, s, rfl, hq, h1, h2, h3⟩
theorem UnkB.of_own {w w' : World} {U B : Nat} {e : TypeId} {v : Value} {es : List UE} (h : w'.ownsRow B e 2 v es.length (fl es)) (hok : ∀ x ∈ es, x.1.1 < 4294967296 ∧ OctsB w U x.2 x.1.2) (hU : U ≤ w.heap.size) (hw : Below U w w') : UnkB w' w'.heap.size v (es.map (·.1)) := by
 have hUw : U ≤ w'.heap.size := Nat.le_trans hU hw.size
 rcases own_form2 h with ⟨rfl, h0⟩ | ⟨g, cap, rfl, hc, _, hg⟩
 ·refine .inl ⟨nilS, ?_⟩
  rw [List.eq_nil_of_length_eq_zero h0]
  rfl
 ·refine .inr ⟨g, 0, cap, by rw [List.length_map], by rw [List.length_map]; exact hc, hg, fun i x hx => ?_⟩
  rw [List.getElem?_map] at hx
  cases hi : es[i]? with
  | none => rw [hi] at hx; cases hx
  | some e =>
   rw [hi, Option.map_some, Option.some.injEq] at hx
   subst hx
   obtain ⟨h1, h2⟩ := hok e (List.mem_of_getElem? hi)
   exact ⟨e.2, h1, by rw [Nat.zero_add]; exact own_cells2 h hi, (h2.below hw).mono hUw⟩
section
variable {P : Program} {E : Env} {w : World} {U : Nat}
set_option maxHeartbeats 2000000 in
theorem s_unknown (H : SEnv P E) (HL : SLay P E) (HT : STexts P E) : UnkC P E := by
 intro U w sv uv fs u hU hsf htg hfl hu
 refine CallsV.enter HT.unknown (by simp) ?_
 intro a hsz hdf harg
 have e0 := harg 0 sv (by simp)
 have e1 := harg 1 uv (by simp)
 have hsl := rB H.rUnks
 obtain ⟨z, hz, hzc⟩ := rowB_zero H.rUnks
 obtain ⟨ad, cap, huv, hcap, hit⟩ := hu.items
 unfold c_sUnknown
 refine vX (rA (dn (vX (rM ?_))))
 refine r_call' (args := #[sv]) ?_ (s_known (U := w.heap.size) H HL HT (hsf.mono hU) (Nat.le_refl _) htg hfl) ?_
 ·simp only [lM]
  simp (disch := (try simp only [sP]); omega) only [eV, e0]
 rintro v W1 ⟨rfl, hb1⟩
 generalize hle : known fs.tags = le at *
 refine rA (dn (vX (rA (dn ?_))))
 have hU1 : U ≤ W1.heap.size := Nat.le_trans hU hb1.size
 have hbU1 : Below U w W1 := hb1.mono hU
 have hmin : (if (32767 : Int) < (u.length : Int) then 32767 else (u.length : Int)) = ((u.take 32767).length : Int) := by
  rw [List.length_take]; split <;> omega
 have hun : unk le u = (u.take 32767).foldl (fun l x => if x.1 < le then l else insU x l) [] := rfl
 have htl : (u.take 32767).length ≤ u.length := by rw [List.length_take]; omega
 have htm : (u.take 32767).length ≤ 32767 := by rw [List.length_take]; omega
 have hit' : ∀ (i : Nat) (x : Nat × List UInt8), (u.take 32767)[i]? = some x → ∃ q o s, ad = some ⟨q, o, none⟩ ∧ q < U ∧ x.1 < 4294967296 ∧ Cells w q (o + i * 2) [.int .u32 (x.1 : Int), s] ∧ OctsB w U s x.2 := by
  intro i x hx
  rw [List.getElem?_take] at hx
  split at hx
  ·exact hit i x hx
  ·cases hx
 refine vS (vX (rM (rM ?_)))
 refine r_len (ad := ad) (n := u.length) (c := cap) hsl (by simp (disch := (try simp only [sP]); omega) only [eV, e1, huv]) ?_
 refine r_min (k := .i64) (m := (u.length : Int)) (n := 32767) (by simp (disch := (try simp only [sP]); omega) only [eV]) rfl ?_
 rw [hmin]
 rw [hun]
 generalize u.take 32767 = u' at *
 refine r_sliceTo (k := .i64) (ad := ad) (len := u.length) (cap := cap) (h := u'.length) hsl (by simp (disch := (try simp only [sP]); omega) only [eV, e1, huv]) (by simp (disch := (try simp only [sP]); omega) only [eV]) (by omega) ?_
 refine r_len (ad := ad) (n := u'.length) (c := cap) hsl (by simp (disch := (try simp only [sP]); omega) only [eV]) ?_
 refine rM (dn ?_)
 refine vS (vc_block (vc_count (fun m A V => m ≤ u'.length ∧ A.tmps.size = 85 ∧ A.defers = [] ∧ A.eval (.tmp 5) = .int .u32 (le : Int) ∧ A.eval (.tmp 17) = .slice ad u'.length cap ∧ A.eval (.tmp 18) = .int .i64 (u'.length : Int) ∧ A.eval (.tmp 19) = .int .i64 ((u'.length - m : Nat) : Int) ∧ Below W1.heap.size W1 V ∧
  ∃ (es : List UE) (v6 : Value), A.eval (.tmp 6) = v6 ∧ V.ownsRow W1.heap.size E.tUnk 2 v6 es.length (fl es) ∧ (∀ e ∈ es, e.1.1 < 4294967296 ∧ OctsB w U e.2 e.1.2) ∧ es.length ≤ u'.length - m ∧ es.map (·.1) = (u'.take (u'.length - m)).foldl (fun l x => if x.1 < le then l else insU x l) []) u'.length ?_ ?_ ?_))
 ·refine ⟨Nat.le_refl _, by simp only [zP]; exact hsz, by simp only [dF]; exact hdf, (by simp (disch := (try simp only [sP]); omega) only [eV]), (by simp (disch := (try simp only [sP]); omega) only [eV]), (by simp (disch := (try simp only [sP]); omega) only [eV]), ?_, Below.refl _ _, [], .slice none 0 0, (by simp (disch := (try simp only [sP]); omega) only [eV]), World.ownsRow_nil _ _ _ _, by simp, Nat.zero_le _, by simp⟩
  simp (disch := (try simp only [sP]); omega) only [eV]
  simp
 ·rintro m A V ⟨hm, hs, hd, g5, g17, g18, g19, hbV, es, v6, g6, hown, hok, hesl, hmap⟩
  have hi : u'.length - (m + 1) < u'.length := by omega
  have him : u'.length - m = (u'.length - (m + 1)) + 1 := by omega
  rw [him]
  generalize hii : u'.length - (m + 1) = i at *
  obtain ⟨q, o, s, rfl, hq, hkey, hcs, hoc⟩ := hit' i u'[i] (List.getElem?_eq_getElem hi)
  have hfold : (u'.take (i + 1)).foldl (fun l x => if x.1 < le then l else insU x l) [] = if u'[i].1 < le then es.map (·.1) else insU u'[i] (es.map (·.1)) := by
   rw [List.take_succ_eq_append_getElem hi, List.foldl_append, ← hmap]
   rfl
  rw [hfold]
  generalize hx : u'[i] = x at *
  obtain ⟨tk, oc⟩ := x
  simp only at hkey hcs hoc hfold ⊢
  have hbwV : Below U w V := hbU1.trans (hbV.mono hU1)
  have hcsV := hcs.below hbwV hq
  have hUV : U ≤ V.heap.size := Nat.le_trans hU1 hbV.size
  refine vX ?_
  refine r_lss (k := .i64) (m := (i : Int)) (n := (u'.length : Int)) g19 g18 ?_
  refine dn ?_
  refine vS (vC (t := true) ?_ ?_ (fun h => by cases h))
  ·simp (disch := (try simp only [sP]); omega) only [eV]
   simp only [Value.bool.injEq, decide_eq_true_eq]
   omega
  intro _
  refine vK ?_
  refine vS (vc_block (vX ?_))
  refine r_index (k := .i64) (j := i) (b := q) (o := o) (len := u'.length) (cap := cap) hsl (by simp (disch := (try simp only [sP]); omega) only [eV, g17]) (by simp (disch := (try simp only [sP]); omega) only [eV, g19]) hi ?_
  refine r_loadAgg (b := q) (o := o + i * 2) (cs := [.int .u32 (tk : Int), s]) (by simp (disch := (try simp only [sP]); omega) only [eV]) H.aUnk hcsV ?_
  refine r_alloc hz ?_
  have hs1 : s.oneCell' = true := hoc.one
  refine r_storeAgg (b := V.heap.size) (o := 0) (cs := [.int .u32 (tk : Int), s]) (by simp (disch := (try simp only [sP]); omega) only [eV]) (by simp (disch := (try simp only [sP]); omega) only [eV]) (by intro v hv; simp only [List.mem_cons, List.not_mem_nil, or_false] at hv; rcases hv with rfl | rfl; rfl; exact hs1) H.aUnk ?_ ?_
  ·intro j hj
   rw [Nat.zero_add]
   exact free_new V _ _ (by rw [hzc]; simpa using hj)
  refine dn ?_
  have hcell : Cells (setCells (V.alloc (.cells z.cells E.tUnk)) V.heap.size 0 [.int .u32 (tk : Int), s]) V.heap.size 0 [.int .u32 (tk : Int), s] := fun j v hv => by
   refine setCells_cell V.heap.size [.int .u32 (tk : Int), s] _ 0 (fun j hj => ?_) j v hv
   rw [Nat.zero_add]
   exact (free_new V z.cells E.tUnk (by rw [hzc]; simpa using hj)).1
  have hb3 : Below V.heap.size V (setCells (V.alloc (.cells z.cells E.tUnk)) V.heap.size 0 [.int .u32 (tk : Int), s]) := by
   refine ((Below.refl V.heap.size V).alloc (o := .cells _ _) (Nat.le_refl _)).trans ((setCells_eff V.heap.size [.int .u32 (tk : Int), s] _ 0).below (by simp) (by rintro k i hk ⟨rfl, _, _⟩; omega))
  have hz3 : V.heap.size < (setCells (V.alloc (.cells z.cells E.tUnk)) V.heap.size 0 [.int .u32 (tk : Int), s]).heap.size := by
   have := (setCells_eff V.heap.size [.int .u32 (tk : Int), s] (V.alloc (.cells z.cells E.tUnk)) 0).size
   simp at this
   omega
  generalize setCells (V.alloc (.cells z.cells E.tUnk)) V.heap.size 0 [.int .u32 (tk : Int), s] = V1 at hcell hb3 hz3 ⊢
  have hown1 := own_below hown hb3
  have hWV : W1.heap.size ≤ V.heap.size := hbV.size
  have hbV1 : Below W1.heap.size W1 V1 := hbV.trans (hb3.mono hWV)
  have hbbl : ∀ g, v6.ownBlock = some g → g ≠ V.heap.size := fun g hg => by have := own_block_lt hown hg; omega
  generalize hbb : V.heap.size = bb at *
  refine vX (rA (dn ?_))
  generalize hG : (((((A.put (some 20) _).put (some 21) _).put (some 22) _).put (some 8) _).put (some 9) _) = G
  have hsG : G.tmps.size = 85 := by rw [← hG]; simp only [zP]; exact hs
  have hdG : G.defers = [] := by rw [← hG]; simp only [dF]; exact hd
  have k5 : G.eval (.tmp 5) = .int .u32 (le : Int) := by rw [← hG]; simp (disch := (try simp only [sP]); omega) only [eV, g5]
  have k6 : G.eval (.tmp 6) = v6 := by rw [← hG]; simp (disch := (try simp only [sP]); omega) only [eV, g6]
  have k8 : G.eval (.tmp 8) = .pointer (some ⟨bb, 0, none⟩) := by rw [← hG]; simp (disch := (try simp only [sP]); omega) only [eV]
  have k9 : G.eval (.tmp 9) = .int .i64 0 := by rw [← hG]; simp (disch := (try simp only [sP]); omega) only [eV]
  have k17 : G.eval (.tmp 17) = .slice (some ⟨q, o, none⟩) u'.length cap := by rw [← hG]; simp (disch := (try simp only [sP]); omega) only [eV, g17]
  have k18 : G.eval (.tmp 18) = .int .i64 (u'.length : Int) := by rw [← hG]; simp (disch := (try simp only [sP]); omega) only [eV, g18]
  have k19 : G.eval (.tmp 19) = .int .i64 (i : Int) := by rw [← hG]; simp (disch := (try simp only [sP]); omega) only [eV, g19]
  clear hG
  obtain ⟨ad6, cap6, hv6, hg6⟩ : ∃ ad6 cap6, v6 = .slice ad6 es.length cap6 ∧ ∀ j, j < es.length → ∃ g, ad6 = some ⟨g, 0, none⟩ ∧ Cells V1 g (0 + j * 2) [.int .u32 ((es[j]?.map (·.1.1)).getD 0 : Nat), (es[j]?.map (·.2)).getD (.slice none 0 0)] := by
   rcases own_form2 hown1 with ⟨h1, h0⟩ | ⟨g, cap6, h1, _⟩
   ·exact ⟨none, 0, by rw [h0]; exact h1, fun j hj => by omega⟩
   ·subst h1
    refine ⟨_, cap6, rfl, fun j hj => ⟨g, rfl, ?_⟩⟩
    have := own_cells2 (i := j) hown1 (List.getElem?_eq_getElem hj)
    rw [List.getElem?_eq_getElem hj, Nat.zero_add]
    exact this
  have hpl := pos_le tk (es.map (·.1))
  rw [List.length_map] at hpl
  have hplt := pos_lt tk (es.map (·.1))
  have hpat := pos_at tk (es.map (·.1))
  have hins := insU_pos (tk, oc) (es.map (·.1))
  simp only at hins
  generalize hp : pos tk (es.map (·.1)) = p at *
  have fin : ∀ (B' : Act) (V' : World) (es' : List UE) (v6' : Value), B'.tmps.size = 85 → B'.defers = [] → B'.eval (.tmp 5) = .int .u32 (le : Int) → B'.eval (.tmp 17) = .slice (some ⟨q, o, none⟩) u'.length cap → B'.eval (.tmp 18) = .int .i64 (u'.length : Int) → B'.eval (.tmp 19) = .int .i64 (i : Int) → Below W1.heap.size W1 V' →
    B'.eval (.tmp 6) = v6' → V'.ownsRow W1.heap.size E.tUnk 2 v6' es'.length (fl es') → (∀ e ∈ es', e.1.1 < 4294967296 ∧ OctsB w U e.2 e.1.2) → es'.length ≤ i + 1 → es'.map (·.1) = (if tk < le then es.map (·.1) else insU (tk, oc) (es.map (·.1))) → ∀ Q : Exit → Act → World → Prop,
    (∀ A', (m ≤ u'.length ∧ A'.tmps.size = 85 ∧ A'.defers = [] ∧ A'.eval (.tmp 5) = .int .u32 (le : Int) ∧ A'.eval (.tmp 17) = .slice (some ⟨q, o, none⟩) u'.length cap ∧ A'.eval (.tmp 18) = .int .i64 (u'.length : Int) ∧ A'.eval (.tmp 19) = .int .i64 ((i + 1 : Nat) : Int) ∧ Below W1.heap.size W1 V' ∧
     ∃ (es' : List UE) (v6' : Value), A'.eval (.tmp 6) = v6' ∧ V'.ownsRow W1.heap.size E.tUnk 2 v6' es'.length (fl es') ∧ (∀ e ∈ es', e.1.1 < 4294967296 ∧ OctsB w U e.2 e.1.2) ∧ es'.length ≤ i + 1 ∧ es'.map (·.1) = (if tk < le then es.map (·.1) else insU (tk, oc) (es.map (·.1)))) → Q .normal A' V') →
    vc P (sq [(rg [(oQ 83 (.binOp .add E.tI (.tmp 19) (.const (.int .i64 1)) E.tI) E.tI), (oQ 19 (.move (.tmp 83)) E.tI)])]) Q B' V' := by
   intro B' V' es' v6' b0 b1 b2 b3 b4 b5 b6 b7 b8 b9 b10 b11 Q hQ
   refine vX ?_
   refine r_add (k := .i64) (m := (i : Int)) (n := 1) (by simp (disch := (try simp only [sP]); omega) only [eV, b5]) rfl ?_
   refine rM (dn (vN ?_))
   refine hQ _ ⟨by omega, by simp only [zP]; exact b0, by simp only [dF]; exact b1, (by simp (disch := (try simp only [sP]); omega) only [eV, b2]), (by simp (disch := (try simp only [sP]); omega) only [eV, b3]), (by simp (disch := (try simp only [sP]); omega) only [eV, b4]), ?_, b6, es', v6', (by simp (disch := (try simp only [sP]); omega) only [eV, b7]), b8, b9, b10, b11⟩
   simp (disch := (try simp only [sP]); omega) only [eV]
   rw [wrap_i64 (by omega) (by omega)]
   rfl
  refine vS (vc_block (vc_count (fun m' A' V' => m' ≤ p ∧ A'.tmps.size = 85 ∧ A'.defers = [] ∧ (∀ k : Nat, k < 23 → k ≠ 9 → A'.eval (.tmp k) = G.eval (.tmp k)) ∧ A'.eval (.tmp 9) = .int .i64 ((p - m' : Nat) : Int) ∧ ∃ d, V' = { V1 with drawn := d }) p ?_ ?_ ?_))
  ·refine ⟨Nat.le_refl _, hsG, hdG, fun _ _ _ => rfl, ?_, V1.drawn, rfl⟩
   rw [k9]
   simp
  ·rintro m' A' V' ⟨hm', hs', hd', hk', g9, d, rfl⟩
   have hjp : p - (m' + 1) < p := by omega
   have hjm : p - m' = (p - (m' + 1)) + 1 := by omega
   rw [hjm]
   generalize hjj : p - (m' + 1) = j at *
   have hjl : j < es.length := by omega
   obtain ⟨g, rfl, hcj⟩ := hg6 j hjl
   rw [List.getElem?_eq_getElem hjl] at hcj
   have hlt := hplt j (by simpa using hjl) hjp
   simp only [List.getElem_map] at hlt
   refine vS (vS (s_unkT1 (j := j) (n := es.length) (cap := cap6) (tk := tk) (bb := bb) (ad := some ⟨g, 0, none⟩) (res := true) H HT hs' g9 (by rw [hk' 6 (by omega) (by omega), k6, hv6]) (by rw [hk' 8 (by omega) (by omega), k8]) (hcell 0 _ rfl) (fun _ => ⟨g, es[j].1.1, rfl, hcj 0 _ rfl, ?_⟩) (fun h => absurd hjl h) (fun _ _ _ _ h => False.elim h) ?_))
   ·simp
    omega
   intro B' b0 b1 b2 b3
   refine vS (vC (t := true) b3 ?_ (fun h => by cases h))
   intro _
   refine vK (vN ?_)
   refine vS (vc_block (vR (by simp) ?_))
   refine rM ?_
   refine r_add (k := .i64) (m := (j : Int)) (n := 1) ?_ rfl ?_
   ·simp (disch := (try simp only [sP]); omega) only [eV]
    rw [b2 9 (by omega), g9]
   refine rA (dn (vN ?_))
   refine ⟨by omega, by simp only [zP]; exact b0, by simp only [dF]; rw [b1]; exact hd', fun k h1 h2 => ?_, ?_, d + 1, rfl⟩
   ·simp (disch := (try simp only [sP]); omega) only [eV]
    rw [b2 k h1, hk' k h1 h2]
   ·simp (disch := (try simp only [sP]); omega) only [eV]
    rw [wrap_i64 (by omega) (by omega)]
    rfl
  ·rintro A' V' ⟨hm', hs', hd', hk', g9, d, rfl⟩
   rw [Nat.sub_zero] at g9
   refine vS (vS (s_unkT1 (j := p) (n := es.length) (cap := cap6) (tk := tk) (bb := bb) (ad := ad6) (res := false) H HT hs' g9 (by rw [hk' 6 (by omega) (by omega), k6, hv6]) (by rw [hk' 8 (by omega) (by omega), k8]) (hcell 0 _ rfl) (fun hpl' => ?_) (fun _ => rfl) (fun _ _ _ _ h => False.elim h) ?_))
   ·obtain ⟨g, rfl, hcj⟩ := hg6 p hpl'
    rw [List.getElem?_eq_getElem hpl'] at hcj
    have hnl := hpat (by simpa using hpl')
    simp only [List.getElem_map] at hnl
    refine ⟨g, es[p].1.1, rfl, hcj 0 _ rfl, ?_⟩
    simp
    omega
   intro B' b0 b1 b2 b3
   refine vS (vC (t := false) b3 (fun h => by cases h) ?_)
   intro _
   refine vc_exit ?_
   simp only [Exit.then, Exit.inBlock, if_true]
   have hB9 : B'.eval (.tmp 9) = .int .i64 (p : Int) := by rw [b2 9 (by omega), g9]
   have hBk : ∀ k : Nat, k < 23 → k ≠ 9 → B'.eval (.tmp k) = G.eval (.tmp k) := fun k h1 h2 => by rw [b2 k h1, hk' k h1 h2]
   have hB6 : B'.eval (.tmp 6) = .slice ad6 es.length cap6 := by rw [hBk 6 (by omega) (by omega), k6, hv6]
   have hB8 : B'.eval (.tmp 8) = .pointer (some ⟨bb, 0, none⟩) := by rw [hBk 8 (by omega) (by omega), k8]
   have hB5 : B'.eval (.tmp 5) = .int .u32 (le : Int) := by rw [hBk 5 (by omega) (by omega), k5]
   generalize hdup : (decide (tk < le) || decide (((es.map (·.1))[p]?).map (·.1) = some tk)) = dup
   refine vS (vS (s_unkT2 (j := p) (n := es.length) (cap := cap6) (tk := tk) (bb := bb) (le := le) (ad := ad6) (res := dup) H HT b0 hB5 hB9 hB6 hB8 (hcell 0 _ rfl) ?_ ?_ ?_ (fun _ _ _ _ h => False.elim h) ?_))
   ·intro h
    rw [← hdup]
    simp [h]
   ·intro h hpl'
    obtain ⟨g, rfl, hcj⟩ := hg6 p hpl'
    rw [List.getElem?_eq_getElem hpl'] at hcj
    refine ⟨g, es[p].1.1, rfl, hcj 0 _ rfl, ?_⟩
    rw [← hdup]
    have h2 : ¬ tk < le := h
    simp only [h2, decide_false, Bool.false_or, List.getElem?_map, List.getElem?_eq_getElem hpl', Option.map_some, Option.some.injEq]
    exact decide_eq_decide.2 ⟨fun h => by omega, fun h => by omega⟩
   ·intro h hpl'
    rw [← hdup]
    have h2 : ¬ tk < le := h
    simp only [h2, decide_false, Bool.false_or, List.getElem?_map, List.getElem?_eq_none (Nat.le_of_not_lt hpl'), Option.map_none, decide_eq_false_iff_not]
    intro h
    cases h
   intro C c0 c1 c2 c3
   have hCk : ∀ k : Nat, k < 23 → k ≠ 9 → C.eval (.tmp k) = G.eval (.tmp k) := fun k h1 h2 => by rw [c2 k h1, hBk k h1 h2]
   have hCd : C.defers = [] := by rw [c1, b1]; exact hd'
   refine vS (vC (t := dup) c3 ?_ ?_)
   ·intro ht
    refine vc_exit ?_
    simp only [Exit.then, Exit.inBlock, if_true]
    refine fin C { V1 with drawn := d + 1 + 1 } es v6 c0 hCd (by rw [hCk 5 (by omega) (by omega), k5]) (by rw [hCk 17 (by omega) (by omega), k17]) (by rw [hCk 18 (by omega) (by omega), k18]) (by rw [hCk 19 (by omega) (by omega), k19]) ⟨hbV1.os, hbV1.tape, hbV1.output, hbV1.size, hbV1.block⟩ (by rw [hCk 6 (by omega) (by omega), k6]) hown1 hok (by omega) ?_ _ (fun A' h => h)
    rw [ht] at hdup
    simp only [Bool.or_eq_true, decide_eq_true_eq] at hdup
    rcases hdup with h | h
    ·rw [if_pos h]
    ·rw [hins, if_pos h, ite_self]
   ·intro ht
    refine vK (vN ?_)
    rw [ht] at hdup
    simp only [Bool.or_eq_false_iff, decide_eq_false_iff_not] at hdup
    refine s_unkIns (B := W1.heap.size) (bb := bb) (j := p) (v6 := v6) (es := es) (t := ((tk, oc), s)) (V := { V1 with drawn := d + 1 + 1 }) H HL c0 (by rw [hCk 6 (by omega) (by omega), k6]) (by rw [hCk 8 (by omega) (by omega), k8]) (by rw [c2 9 (by omega), hB9]) hpl (by omega) (Nat.le_trans hWV (Nat.le_of_lt hz3)) hown1 (fun e he => (hok e he).2.one) hs1 hz3 hbbl hcell ?_
    intro A2 V2 v2 d0 d1 d2 d3 d4 d5
    have hlen2 : (es.take p ++ ((tk, oc), s) :: es.drop p).length = es.length + 1 := by
     simp only [List.length_append, List.length_cons, List.length_take, List.length_drop]
     omega
    rw [← hlen2] at d5
    have hbV2 : Below W1.heap.size V1 V2 := ⟨d4.os, d4.tape, d4.output, d4.size, d4.block⟩
    refine fin A2 V2 _ v2 d0 (by rw [d1]; exact hCd) (by rw [d2 5 (by omega) (by omega) (by omega), hCk 5 (by omega) (by omega), k5]) (by rw [d2 17 (by omega) (by omega) (by omega), hCk 17 (by omega) (by omega), k17]) (by rw [d2 18 (by omega) (by omega) (by omega), hCk 18 (by omega) (by omega), k18]) (by rw [d2 19 (by omega) (by omega) (by omega), hCk 19 (by omega) (by omega), k19]) (hbV1.trans hbV2) d3 d5 ?_ (by rw [hlen2]; omega) ?_ _ (fun A' h => h)
    ·intro e he
     rcases List.mem_append.1 he with h | h
     ·exact hok e (List.mem_of_mem_take h)
     ·rcases List.mem_cons.1 h with rfl | h
      ·exact ⟨hkey, hoc⟩
      ·exact hok e (List.mem_of_mem_drop h)
    ·rw [if_neg hdup.1, hins, if_neg hdup.2]
     simp only [List.map_append, List.map_cons, List.map_take, List.map_drop]
 ·rintro A V ⟨hm, hs, hd, g5, g17, g18, g19, hbV, es, v6, g6, hown, hok, hesl, hmap⟩
  rw [Nat.sub_zero] at g19 hmap
  rw [List.take_length] at hmap
  refine vX ?_
  refine r_lss (k := .i64) (m := (u'.length : Int)) (n := (u'.length : Int)) g19 g18 ?_
  refine dn ?_
  refine vS (vC (t := false) ?_ (fun h => by cases h) ?_)
  ·simp (disch := (try simp only [sP]); omega) only [eV]
   simp only [Value.bool.injEq, decide_eq_false_iff_not]
   omega
  intro _
  refine vc_exit ?_
  simp only [Exit.then, Exit.inBlock, if_true]
  refine vN (vX (rM (rA (dn (vS (vT ?_))))))
  have hfin : Below U w V := hbU1.trans (hbV.mono hU1)
  refine ⟨by simp only [dF]; exact hd, v6, rO (by simp (disch := (try simp only [sP]); omega) only [eV, g6]), ?_, hfin⟩
  rw [← hmap]
  exact UnkB.of_own hown hok hU hfin
end
end Go.Km
namespace Go.Km
open Go Go.RowKit
mutual
def SF.good : SF → Bool
 | .mk kind fr to nul tag df el sub => (SF.mk kind fr to nul tag df el sub).kindOk && decide (tag < 0) && decide (sub.len ≤ 65536) && sub.good
def SFs.good : SFs → Bool
 | .nil => true
 | .cons f r => f.good && r.good
end
theorem SFs.good_tags : ∀ fs : SFs, fs.good = true → ∀ t ∈ fs.tags, t < 0
 | .nil, _, t, h => by simp [SFs.tags] at h
 | .cons (.mk kind fr to nul tag df el sub) r, hg, t, h => by
  simp only [SFs.good, SF.good, Bool.and_eq_true, decide_eq_true_eq] at hg
  simp only [SFs.tags, List.mem_cons] at h
  rcases h with rfl | h
  ·exact hg.1.1.1.2
  ·exact SFs.good_tags r hg.2 t h
section
variable {P : Program} {E : Env}
mutual
theorem fieldsC (H : SEnv P E) (HL : SLay P E) (HT : STexts P E) (hz8 : zeroT P E.tU8 = some (.int .u8 0)) (ver : Int) (fx : Bool) : ∀ (fs : SFs), fs.good = true → ∀ i f, fs.get i = some f → FieldC P E ver fx f
 | .nil, _, i, f, h => by cases h
 | .cons g r, hg, 0, f, h => by
  simp only [SFs.good, Bool.and_eq_true] at hg
  simp only [SFs.get, Option.some.injEq] at h
  subst h
  exact fieldC H HL HT hz8 ver fx g hg.1
 | .cons g r, hg, i + 1, f, h => by
  simp only [SFs.good, Bool.and_eq_true] at hg
  exact fieldsC H HL HT hz8 ver fx r hg.2 i f h
theorem fieldC (H : SEnv P E) (HL : SLay P E) (HT : STexts P E) (hz8 : zeroT P E.tU8 = some (.int .u8 0)) (ver : Int) (fx : Bool) : ∀ (f : SF), f.good = true → FieldC P E ver fx f
 | .mk kind fr to nul tag df el sub, hg => by
  simp only [SF.good, Bool.and_eq_true, decide_eq_true_eq] at hg
  exact s_field H HT hz8 hg.1.1.1 (s_part H HL HT (s_unknown H HL HT) (SFs.good_tags sub hg.2) (by show sub.len ≤ big; unfold big; omega) (fieldsC H HL HT hz8 ver fx sub hg.2))
end
theorem partC (H : SEnv P E) (HL : SLay P E) (HT : STexts P E) (hz8 : zeroT P E.tU8 = some (.int .u8 0)) {ver : Int} {fx : Bool} {fs : SFs} (hg : fs.good = true) (hl : fs.len ≤ 65536) : PartC P E ver fx fs :=
 s_part H HL HT (s_unknown H HL HT) (SFs.good_tags fs hg) (by unfold big; omega) (fieldsC H HL HT hz8 ver fx fs hg)
end
end Go.Km
namespace Go.Km
open Go Go.RowKit
attribute [local irreducible] vc rO_ runG runS runD
section
variable {P : Program} {a : Act} {w : World} {r : List Oper} {Q : Exit → Act → World → Prop}
end
mutual
def Tr.RepD (w : World) (S : Nat → Prop) : Tr → List Value → Prop
 | .mk n s nl l u, cs => s = [] ∧ u = [] ∧ ∃ lv, cs = [.int .i64 n, .slice none 0 0, .bool nl, lv, .slice none 0 0] ∧
   ((lv = .slice none 0 0 ∧ l.len = 0) ∨ ∃ q cap, lv = .slice (some ⟨q, 0, none⟩) l.len cap ∧ l.len ≤ cap ∧ S q ∧ l.RepD w S q 0)
def Trs.RepD (w : World) (S : Nat → Prop) (q : Nat) : Trs → Nat → Prop
 | .nil, _ => True
 | .cons t r, o => (∃ c, Cells w q o c ∧ t.RepD w S c) ∧ r.RepD w S q (o + 5)
end
theorem Cells.same {w w' : World} {q o : Nat} {cs : List Value} (h : Cells w q o cs) (he : w'.heap[q]? = w.heap[q]?) : Cells w' q o cs := by
 intro i v hv
 have := h i v hv
 simp only [World.cell?] at this ⊢
 rw [he]
 exact this
mutual
theorem Tr.RepD.keep {w w' : World} {S S' : Nat → Prop} (hk : ∀ q, S q → w'.heap[q]? = w.heap[q]?) (hS : ∀ q, S q → S' q) : ∀ {t : Tr} {cs : List Value}, t.RepD w S cs → t.RepD w' S' cs
 | .mk n s nl l u, cs, ⟨h1, h2, lv, h3, h4⟩ => by
  refine ⟨h1, h2, lv, h3, ?_⟩
  rcases h4 with h4 | ⟨q, cap, h5, h6, h7, h8⟩
  ·exact .inl h4
  ·exact .inr ⟨q, cap, h5, h6, hS q h7, Trs.RepD.keep hk hS h7 h8⟩
theorem Trs.RepD.keep {w w' : World} {S S' : Nat → Prop} (hk : ∀ q, S q → w'.heap[q]? = w.heap[q]?) (hS : ∀ q, S q → S' q) {q : Nat} (hq : S q) : ∀ {l : Trs} {o : Nat}, l.RepD w S q o → l.RepD w' S' q o
 | .nil, _, _ => trivial
 | .cons t r, o, ⟨⟨c, h1, h2⟩, h3⟩ => ⟨⟨c, h1.same (hk q hq), Tr.RepD.keep hk hS h2⟩, Trs.RepD.keep hk hS hq h3⟩
end
mutual
theorem Tr.RepD.rep {w : World} {S : Nat → Prop} {U : Nat} (hS : ∀ q, S q → q < U) : ∀ {t : Tr} {cs : List Value}, t.RepD w S cs → t.Rep w U cs
 | .mk n s nl l u, cs, ⟨h1, h2, lv, h3, h4⟩ => by
  refine ⟨.slice none 0 0, lv, .slice none 0 0, h3, .inl ⟨nilS, h1⟩, .inl ⟨nilS, h2⟩, ?_⟩
  rcases h4 with ⟨rfl, h4⟩ | ⟨q, cap, h5, h6, h7, h8⟩
  ·exact .inl ⟨nilS, h4⟩
  ·exact .inr ⟨q, 0, cap, h5, h6, hS q h7, Trs.RepD.rep hS h8⟩
theorem Trs.RepD.rep {w : World} {S : Nat → Prop} {U q : Nat} (hS : ∀ q, S q → q < U) : ∀ {l : Trs} {o : Nat}, l.RepD w S q o → l.Rep w U q o
 | .nil, _, _ => trivial
 | .cons t r, o, ⟨⟨c, h1, h2⟩, h3⟩ => ⟨⟨c, h1, Tr.RepD.rep hS h2⟩, Trs.RepD.rep hS h3⟩
end
theorem Tr.RepD.len {w : World} {S : Nat → Prop} {t : Tr} {cs : List Value} (h : t.RepD w S cs) : cs.length = 5 := by
 cases t with
 | mk n s nl l u => obtain ⟨_, _, _, rfl, _⟩ := h; rfl
theorem Tr.RepD.one {w : World} {S : Nat → Prop} {t : Tr} {cs : List Value} (h : t.RepD w S cs) : ∀ v ∈ cs, v.oneCell' = true := by
 cases t with
 | mk n s nl l u =>
  obtain ⟨_, _, lv, rfl, h3⟩ := h
  have e3 : lv.oneCell' = true := by rcases h3 with ⟨rfl, _⟩ | ⟨q, cap, rfl, _⟩ <;> rfl
  intro v hv
  simp only [List.mem_cons, List.not_mem_nil, or_false] at hv
  rcases hv with rfl | rfl | rfl | rfl | rfl <;> first | rfl | assumption
theorem Free.below {w w' : World} {B b o : Nat} (h : Free w b o) (hb : Below B w w') (hB : b < B) : Free w' b o :=
 ⟨by rw [hb.cell (p := ⟨b, o, none⟩) hB]; exact h.1, by rw [hb.frozen (p := ⟨b, o, none⟩) hB]; exact h.2⟩
end Go.Km
namespace Go.Km
open Go Go.RowKit
attribute [local irreducible] vc rO_ runG runS runD
def SF.kind : SF → Int
 | .mk kind _ _ _ _ _ _ _ => kind
def SF.df : SF → Int
 | .mk _ _ _ _ _ df _ _ => df
def SF.nul : SF → Int
 | .mk _ _ _ nul _ _ _ _ => nul
section
variable {P : Program} {E : Env} {w : World} {U : Nat}
end
end Go.Km
namespace Go.Km
open Go Go.RowKit
section
variable {P : Program} {E : Env}
end
end Go.Km
namespace Go.Km
open Go Go.RowKit
attribute [local irreducible] vc rO_ runG runS runD
abbrev FE := SF × Option FuncId
def SF.parts : SF → Option Operand → List (Nat × Operand)
 | .mk kind fr to nul tag df el _, x => [(0, .const (.int .i64 kind))] ++ (if fr = 0 then [] else [(1, .const (.int .i64 fr))]) ++ [(2, .const (.int .i64 to)), (3, .const (.int .i64 nul)), (4, .const (.int .i64 tag))] ++
   (if df = 0 then [] else [(5, .const (.int .i64 df))]) ++ (if el = 0 then [] else [(6, .const (.int .i64 el))]) ++ (match x with | none => [] | some x => [(7, x)])
def feOps (E : Env) : List FE → Nat → List Oper
 | [], _ => []
 | (f, none) :: r, t => oBuild t E.tFld (f.parts none).toArray :: feOps E r (t + 1)
 | (f, some g) :: r, t => oCall (some t) g #[] #[] E.tFlds :: oBuild (t + 1) E.tFld (f.parts (some (.tmp t))).toArray :: feOps E r (t + 2)
def feSlots : List FE → Nat → List Nat
 | [], _ => []
 | (_, none) :: r, t => t :: feSlots r (t + 1)
 | (_, some _) :: r, t => (t + 1) :: feSlots r (t + 2)
def feT : List FE → Nat → Nat
 | [], t => t
 | (_, none) :: r, t => feT r (t + 1)
 | (_, some _) :: r, t => feT r (t + 2)
def oSliceOf (E : Env) (d : Nat) (ss : List Nat) : Oper := oBuildSlice d E.tFlds ss.length (ss.zipIdx.map fun x => (x.2, Operand.tmp x.1)).toArray
def c_lit (E : Env) (l : List FE) : Code :=
 sq [rg [oAssign 0 (.const (.slice none 0 0)) E.tFlds], rg (feOps E l 1 ++ [oSliceOf E (feT l 1) (feSlots l 1), oAssign 0 (.tmp (feT l 1)) E.tFlds]), .ret]
def c_spec (E : Env) (l : List FE) (flex : Int) : Code :=
 let T := feT l 1
 sq [rg [oAlloc 0 E.tMsg], rg (feOps E l 1 ++ [oSliceOf E T (feSlots l 1), oBuild (T + 1) E.tMsg #[(1, .const (.int .i64 flex)), (0, .tmp T)], oStore E.tMsg (.tmp 0) (.tmp (T + 1))]), .ret]
def toSFs : List FE → SFs
 | [] => .nil
 | f :: r => .cons f.1 (toSFs r)
theorem toSFs_len : ∀ l, (toSFs l).len = l.length
 | [] => rfl
 | f :: r => by simp [toSFs, SFs.len, toSFs_len r]
def LitC (P : Program) (g : FuncId) (fs : SFs) : Prop := ∀ w, CallsV P g #[] w fun v w' => SlF w' w'.heap.size v fs ∧ Below w.heap.size w w'
def SubsC (P : Program) (l : List FE) : Prop := ∀ f ∈ l, match f.2 with | none => f.1.sub = .nil | some g => LitC P g f.1.sub
def FVals (A : Act) (W : World) : List Nat → List FE → Prop
 | [], [] => True
 | s :: ss, f :: fs => (∃ cells : List Value, A.eval (.tmp s) = .agg cells.toArray ∧ f.1.Rep W W.heap.size cells) ∧ FVals A W ss fs
 | _, _ => False
theorem fill_fld (kind fr to nul tag df el : Int) (sub : SFs) (ρ : Operand → Value) (hρ : ∀ v, ρ (.const v) = v) (x : Option Operand) (sv : Value) (hx : match x with | none => sv = .slice none 0 0 | some x => ρ x = sv) (h1 : sv.cells = #[sv]) :
  Instr.fill (([(0, 1), (1, 1), (2, 1), (3, 1), (4, 1), (5, 1), (6, 1), (7, 1)] : List (Nat × Nat)).toArray[·]?) #[.int .i64 0, .int .i64 0, .int .i64 0, .int .i64 0, .int .i64 0, .int .i64 0, .int .i64 0, .slice none 0 0]
   ((((SF.mk kind fr to nul tag df el sub).parts x).toArray.map fun (y : Nat × Operand) => (y.1, ρ y.2))).toList = some #[.int .i64 kind, .int .i64 fr, .int .i64 to, .int .i64 nul, .int .i64 tag, .int .i64 df, .int .i64 el, sv] := by
 have hc : ∀ n : Int, (Value.int .i64 n).cells = #[.int .i64 n] := fun _ => rfl
 cases x with
 | none =>
  simp only at hx
  subst hx
  by_cases h1 : fr = 0 <;> by_cases h2 : df = 0 <;> by_cases h3 : el = 0 <;> simp [SF.parts, h1, h2, h3, Instr.fill, hρ, hc]
 | some x =>
  simp only at hx
  by_cases h4 : fr = 0 <;> by_cases h2 : df = 0 <;> by_cases h3 : el = 0 <;> simp [SF.parts, h4, h2, h3, Instr.fill, hρ, hc, hx, h1]
theorem FVals.keep {A A' : Act} {W W' : World} (hW : Below W.heap.size W W') : ∀ {ss : List Nat} {l : List FE}, (∀ s ∈ ss, A'.eval (.tmp s) = A.eval (.tmp s)) → FVals A W ss l → FVals A' W' ss l
 | [], [], _, _ => trivial
 | s :: ss, f :: l, hs, ⟨⟨c, h1, h2⟩, h3⟩ => ⟨⟨c, by rw [hs s (by simp)]; exact h1, (h2.below hW).mono hW.size⟩, FVals.keep hW (fun s h => hs s (by simp [h])) h3⟩
 | [], _ :: _, _, h => h.elim
 | _ :: _, [], _, h => h.elim
theorem feT_ge (l : List FE) (t : Nat) : t ≤ feT l t := by
 induction l generalizing t with
 | nil => exact Nat.le_refl _
 | cons x r ih => rcases x with ⟨f, _ | g⟩ <;> simp only [feT] <;> first | (have := ih (t + 1); omega) | (have := ih (t + 2); omega)
section
variable {P : Program} {E : Env}
theorem fe_run (HL : SLay P E) : ∀ (l : List FE) {t : Nat} {rest : List Oper} {Q : Exit → Act → World → Prop} {A : Act} {W : World}, SubsC P l → feT l t ≤ A.tmps.size →
  (∀ A' W', A'.tmps.size = A.tmps.size → A'.defers = A.defers → (∀ k : Nat, k < t → A'.eval (.tmp k) = A.eval (.tmp k)) → Below W.heap.size W W' → FVals A' W' (feSlots l t) l → rO_ P Q rest A' W') → rO_ P Q (feOps E l t ++ rest) A W
 | [], t, rest, Q, A, W, _, _, h => h A W rfl rfl (fun _ _ => rfl) (Below.refl _ _) trivial
 | (.mk kind fr to nul tag df el sub, none) :: r, t, rest, Q, A, W, hS, ht, h => by
  have hs := hS _ (List.mem_cons_self ..)
  simp only [SF.sub] at hs
  have hTr := feT_ge r (t + 1)
  simp only [feT] at ht
  refine r_build (cells := #[.int .i64 kind, .int .i64 fr, .int .i64 to, .int .i64 nul, .int .i64 tag, .int .i64 df, .int .i64 el, .slice none 0 0]) HL.fld (fill_fld kind fr to nul tag df el sub A.eval (fun _ => rfl) none _ rfl rfl) ?_
  refine fe_run HL r (fun f hf => hS f (List.mem_cons_of_mem _ hf)) (by simp only [zP]; exact ht) ?_
  intro A' W' a1 a2 a3 a4 a5
  refine h A' W' (by rw [a1]; simp only [zP]) (by rw [a2]; simp only [dF]) (fun k hk => ?_) a4 ⟨⟨[.int .i64 kind, .int .i64 fr, .int .i64 to, .int .i64 nul, .int .i64 tag, .int .i64 df, .int .i64 el, .slice none 0 0], ?_, ?_⟩, a5⟩
  ·rw [a3 k (by omega)]
   simp (disch := (try simp only [sP]); omega) only [eV]
  ·rw [a3 t (by omega)]
   simp (disch := (try simp only [sP]); omega) only [eV]
  ·refine ⟨_, rfl, .inl ⟨rfl, ?_⟩⟩
   rw [hs]
   rfl
 | (.mk kind fr to nul tag df el sub, some g) :: r, t, rest, Q, A, W, hS, ht, h => by
  have hs := hS _ (List.mem_cons_self ..)
  simp only [SF.sub] at hs
  have hTr := feT_ge r (t + 2)
  simp only [feT] at ht
  refine r_call' (args := #[]) (by simp) (hs W) ?_
  rintro v W1 ⟨hsl, hb1⟩
  have hv1 : v.cells = #[v] := by rcases hsl with ⟨rfl, _⟩ | ⟨q, o, cap, rfl, _⟩ <;> rfl
  refine r_build (cells := #[.int .i64 kind, .int .i64 fr, .int .i64 to, .int .i64 nul, .int .i64 tag, .int .i64 df, .int .i64 el, v]) HL.fld (fill_fld kind fr to nul tag df el sub (A.put (some t) v).eval (fun _ => rfl) (some (.tmp t)) v (by simp (disch := (try simp only [sP]); omega) only [eV]) hv1) ?_
  refine fe_run HL r (fun f hf => hS f (List.mem_cons_of_mem _ hf)) (by simp only [zP]; exact ht) ?_
  intro A' W' a1 a2 a3 a4 a5
  refine h A' W' (by rw [a1]; simp only [zP]) (by rw [a2]; simp only [dF]) (fun k hk => ?_) (hb1.trans (a4.mono hb1.size)) ⟨⟨[.int .i64 kind, .int .i64 fr, .int .i64 to, .int .i64 nul, .int .i64 tag, .int .i64 df, .int .i64 el, v], ?_, ?_⟩, a5⟩
  ·rw [a3 k (by omega)]
   simp (disch := (try simp only [sP]); omega) only [eV]
  ·rw [a3 (t + 1) (by omega)]
   simp (disch := (try simp only [sP]); omega) only [eV]
  ·refine ⟨v, rfl, ?_⟩
   exact (hsl.below a4).mono a4.size
end
end Go.Km
namespace Go.Km
open Go Go.RowKit
attribute [local irreducible] vc rO_ runG runS runD
def Reps (W : World) (U : Nat) : List (List Value) → List FE → Prop
 | [], [] => True
 | c :: cs, f :: l => f.1.Rep W U c ∧ Reps W U cs l
 | _, _ => False
theorem Reps.len {W : World} {U : Nat} : ∀ {cs : List (List Value)} {l : List FE}, Reps W U cs l → cs.length = l.length ∧ ∀ c ∈ cs, c.length = 8
 | [], [], _ => ⟨rfl, by simp⟩
 | c :: cs, f :: l, ⟨h1, h2⟩ => by
  obtain ⟨h3, h4⟩ := Reps.len h2
  refine ⟨by simp [h3], fun x hx => ?_⟩
  rcases List.mem_cons.1 hx with rfl | hx
  ·exact h1.len
  ·exact h4 x hx
 | [], _ :: _, h => h.elim
 | _ :: _, [], h => h.elim
theorem Reps.below {W W' : World} {U U' : Nat} (hW : Below U W W') (hU : U ≤ U') : ∀ {cs : List (List Value)} {l : List FE}, Reps W U cs l → Reps W' U' cs l
 | [], [], _ => trivial
 | c :: cs, f :: l, ⟨h1, h2⟩ => ⟨(h1.below hW).mono hU, Reps.below hW hU h2⟩
 | [], _ :: _, h => h.elim
 | _ :: _, [], h => h.elim
theorem FVals.cells {A : Act} {W : World} : ∀ {ss : List Nat} {l : List FE}, FVals A W ss l → ∃ cs : List (List Value), (ss.map fun s => A.eval (.tmp s)) = cs.map (fun c => Value.agg c.toArray) ∧ Reps W W.heap.size cs l
 | [], [], _ => ⟨[], rfl, trivial⟩
 | s :: ss, f :: l, ⟨⟨c, h1, h2⟩, h3⟩ => by
  obtain ⟨cs, h4, h5⟩ := FVals.cells h3
  exact ⟨c :: cs, by simp only [List.map_cons, h1, h4], h2, h5⟩
 | [], _ :: _, h => h.elim
 | _ :: _, [], h => h.elim
theorem sfs_rep {w : World} {U q : Nat} : ∀ {cs : List (List Value)} {l : List FE} {o : Nat}, Reps w U cs l → Cells w q o cs.flatten → (toSFs l).Rep w U q o
 | [], [], o, _, _ => trivial
 | c :: cs, f :: l, o, ⟨h1, h2⟩, hc => by
  have h8 := h1.len
  simp only [List.flatten_cons] at hc
  refine ⟨⟨c, ?_, h1⟩, sfs_rep h2 ?_⟩
  ·have := hc.tk (n := c.length)
   rwa [List.take_left] at this
  ·have := hc.dp (n := c.length)
   rwa [List.drop_left, h8] at this
 | [], _ :: _, _, h, _ => h.elim
 | _ :: _, [], _, h, _ => h.elim
mutual
theorem SF.Rep.other {w w' : World} {U b : Nat} (hk : ∀ k, k ≠ b → w'.heap[k]? = w.heap[k]?) (hb : ∀ i, 7 ≤ i → w.cell? ⟨b, i, none⟩ = none) : ∀ {f : SF} {cs : List Value}, f.Rep w U cs → f.Rep w' U cs
 | .mk kind fr to nul tag df el sub, cs, ⟨sv, h1, h2⟩ => by
  refine ⟨sv, h1, ?_⟩
  rcases h2 with h2 | ⟨q, o, cap, h3, h4, h5, h6⟩
  ·exact .inl h2
  ·exact .inr ⟨q, o, cap, h3, h4, h5, SFs.Rep.other hk hb h6⟩
theorem SFs.Rep.other {w w' : World} {U b q : Nat} (hk : ∀ k, k ≠ b → w'.heap[k]? = w.heap[k]?) (hb : ∀ i, 7 ≤ i → w.cell? ⟨b, i, none⟩ = none) : ∀ {l : SFs} {o : Nat}, l.Rep w U q o → l.Rep w' U q o
 | .nil, _, _ => trivial
 | .cons f r, o, ⟨⟨c, h1, h2⟩, h3⟩ => by
  have h8 := h2.len
  have hq : q ≠ b := by
   rintro rfl
   have := h1.get (i := 7) (by omega)
   rw [hb (o + 7) (by omega)] at this
   cases this
  exact ⟨⟨c, h1.same (hk q hq), SF.Rep.other hk hb h2⟩, SFs.Rep.other hk hb h3⟩
end
section
variable {P : Program} {E : Env}
theorem r_sliceOf (hB : rowB P E.tFlds E.tFld 8 = true) {d : Nat} {ss : List Nat} {l : List FE} {r : List Oper} {Q : Exit → Act → World → Prop} {A : Act} {W : World} (hv : FVals A W ss l) (hn0 : 0 < l.length) (hn : l.length ≤ 65536)
  (h : ∀ W', Below W.heap.size W W' → SlF W' W'.heap.size (.slice (some ⟨W.heap.size, 0, none⟩) l.length l.length) (toSFs l) → rO_ P Q r (A.put (some d) (.slice (some ⟨W.heap.size, 0, none⟩) l.length l.length)) W') :
  rO_ P Q (oSliceOf E d ss :: r) A W := by
 obtain ⟨cs, h1, h2⟩ := hv.cells
 obtain ⟨h3, h4⟩ := h2.len
 have hsl : ss.length = l.length := by
  have := congrArg List.length h1
  simp only [List.length_map] at this
  omega
 unfold oSliceOf
 rw [hsl]
 refine r_buildSlice (vs := cs.map (fun c => Value.agg c.toArray)) (s := 8) hB ?_ (by rw [List.length_map]; exact h3) ?_ (by omega) hn0 ?_
 ·rw [← h1]
  simp [List.zipIdx_map, List.map_map, Function.comp_def]
 ·intro v hv
  obtain ⟨c, hc, rfl⟩ := List.mem_map.1 hv
  simpa [Value.cells] using h4 c hc
 have hfl : ((cs.map (fun c => Value.agg c.toArray)).flatMap fun v => v.cells.toList) = cs.flatten := by
  rw [List.flatMap_map]
  simp [Value.cells, List.flatMap]
 rw [hfl]
 have hb : Below W.heap.size W (W.alloc (.cells cs.flatten.toArray E.tFld)) := (Below.refl W.heap.size W).alloc (o := .cells _ _) (Nat.le_refl _)
 refine h _ hb (.inr ⟨W.heap.size, 0, l.length, by rw [toSFs_len], by rw [toSFs_len]; exact Nat.le_refl _, by simp, ?_⟩)
 refine sfs_rep (h2.below hb (by simp)) ?_
 intro i v hv
 rw [Nat.zero_add]
 exact cells_new W _ E.tFld (by simpa using hv)
theorem c_lit_ok (HL : SLay P E) (hB : rowB P E.tFlds E.tFld 8 = true) {g : FuncId} {np nt : Nat} {l : List FE} (ht : Text P g np nt #[.tmp 0] (c_lit E l)) (hnt : feT l 1 + 1 ≤ nt) (hn0 : 0 < l.length) (hn : l.length ≤ 65536) (hS : SubsC P l) : LitC P g (toSFs l) := by
 intro w
 refine CallsV.enter ht (by simp) ?_
 intro a hsz hdf harg
 have hT := feT_ge l 1
 unfold c_lit
 refine vX (rA (dn ?_))
 refine vS (vR ?_ ?_)
 ·intro o ho
  rcases List.mem_append.1 ho with h | h
  ·have : ∀ (l : List FE) (t : Nat), ∀ o ∈ feOps E l t, o.guard = none := by
    intro l
    induction l with
    | nil => intro t o h; simp [feOps] at h
    | cons x r ih =>
     intro t o h
     rcases x with ⟨f, _ | g⟩
     ·simp only [feOps, List.mem_cons] at h
      rcases h with rfl | h
      ·rfl
      ·exact ih _ o h
     ·simp only [feOps, List.mem_cons] at h
      rcases h with rfl | rfl | h
      ·rfl
      ·rfl
      ·exact ih _ o h
   exact this l 1 o h
  ·simp only [List.mem_cons, List.not_mem_nil, or_false] at h
   rcases h with rfl | rfl <;> rfl
 refine fe_run HL l hS (by simp only [zP]; omega) ?_
 intro A' W' a1 a2 a3 a4 a5
 simp only [zP, dF] at a1 a2
 refine r_sliceOf hB a5 hn0 hn ?_
 intro W2 hb2 hs2
 refine rA (dn (vS (vT ?_)))
 refine ⟨by simp only [dF]; rw [a2]; exact hdf, .slice (some ⟨W'.heap.size, 0, none⟩) l.length l.length, rO ?_, hs2, a4.trans (hb2.mono a4.size)⟩
 simp (disch := (try simp only [sP]); omega) only [eV]
def SpecC (P : Program) (f : FuncId) (fs : SFs) (flex : Int) : Prop := ∀ w, CallsV P f #[] w fun v w' => ∃ sv, v = .agg #[sv, .int .i64 flex] ∧ SlF w' w'.heap.size sv fs ∧ Below w.heap.size w w'
theorem c_spec_ok (HL : SLay P E) (hB : rowB P E.tFlds E.tFld 8 = true) (hM : aggT P E.tMsg = some 2) {f : FuncId} {np nt : Nat} {l : List FE} {flex : Int} (ht : Text P f np nt #[.cell 0 E.tMsg] (c_spec E l flex)) (hnt : feT l 1 + 2 ≤ nt) (hn0 : 0 < l.length) (hn : l.length ≤ 65536) (hS : SubsC P l) : SpecC P f (toSFs l) flex := by
 intro w
 refine CallsV.enter ht (by simp) ?_
 intro a hsz hdf harg
 have hT := feT_ge l 1
 obtain ⟨z, hz, hzc⟩ := lays_zero HL.msg
 unfold c_spec
 refine vX ?_
 refine r_alloc hz ?_
 refine dn ?_
 rw [hzc]
 have hb0 : Below w.heap.size w (w.alloc (.cells #[.slice none 0 0, .int .i64 0] E.tMsg)) := (Below.refl w.heap.size w).alloc (o := .cells _ _) (Nat.le_refl _)
 have hfr : ∀ i, i < 2 → Free (w.alloc (.cells #[.slice none 0 0, .int .i64 0] E.tMsg)) w.heap.size i := fun i hi => free_new w _ E.tMsg (by simpa using hi)
 have hz0 : w.heap.size < (w.alloc (.cells #[.slice none 0 0, .int .i64 0] E.tMsg)).heap.size := by simp
 have h2c : ∀ i, 7 ≤ i → (w.alloc (.cells #[.slice none 0 0, .int .i64 0] E.tMsg)).cell? ⟨w.heap.size, i, none⟩ = none := fun i hi => by
  rw [World.cell?_alloc_new]
  exact Array.getElem?_eq_none (by simp; omega)
 generalize w.alloc (.cells #[.slice none 0 0, .int .i64 0] E.tMsg) = W at *
 generalize hwb : w.heap.size = wb at *
 refine vS (vR ?_ ?_)
 ·intro o ho
  rcases List.mem_append.1 ho with h | h
  ·have : ∀ (l : List FE) (t : Nat), ∀ o ∈ feOps E l t, o.guard = none := by
    intro l
    induction l with
    | nil => intro t o h; simp [feOps] at h
    | cons x r ih =>
     intro t o h
     rcases x with ⟨f, _ | g⟩
     ·simp only [feOps, List.mem_cons] at h
      rcases h with rfl | h
      ·rfl
      ·exact ih _ o h
     ·simp only [feOps, List.mem_cons] at h
      rcases h with rfl | rfl | h
      ·rfl
      ·rfl
      ·exact ih _ o h
   exact this l 1 o h
  ·simp only [List.mem_cons, List.not_mem_nil, or_false] at h
   rcases h with rfl | rfl | rfl <;> rfl
 refine fe_run HL l hS (by simp only [zP]; omega) ?_
 intro A' W' a1 a2 a3 a4 a5
 simp only [zP, dF] at a1 a2
 refine r_sliceOf hB a5 hn0 hn ?_
 intro W2 hb2 hs2
 have h0 : A'.eval (.tmp 0) = .pointer (some ⟨wb, 0, none⟩) := by
  rw [a3 0 (by omega)]
  simp (disch := (try simp only [sP]); omega) only [eV]
 generalize hsv : Value.slice (some ⟨W'.heap.size, 0, none⟩) l.length l.length = sv at *
 have hsv1 : sv.cells = #[sv] := by rw [← hsv]; rfl
 have hsvo : sv.oneCell' = true := by rw [← hsv]; rfl
 refine r_build (cells := #[sv, .int .i64 flex]) HL.msg ?_ ?_
 ·have e1 : (A'.put (some (feT l 1)) sv).eval (.tmp (feT l 1)) = sv := by simp (disch := (try simp only [sP]); omega) only [eV]
  have hc : ∀ n : Int, (Value.int .i64 n).cells = #[.int .i64 n] := fun _ => rfl
  simp [Instr.fill, e1, hsv1, eval_const, hc]
 have hbW2 : Below W.heap.size W W2 := a4.trans (hb2.mono a4.size)
 refine r_storeAgg (b := wb) (o := 0) (cs := [sv, .int .i64 flex]) (by simp (disch := (try simp only [sP]); omega) only [eV, h0]) (by simp (disch := (try simp only [sP]); omega) only [eV]) (by intro v hv; simp only [List.mem_cons, List.not_mem_nil, or_false] at hv; rcases hv with rfl | rfl; exact hsvo; rfl) hM ?_ ?_
 ·intro j hj
  rw [Nat.zero_add]
  exact (hfr j hj).below hbW2 hz0
 refine dn (vS (vT ?_))
 have hE := setCells_eff wb [sv, .int .i64 flex] W2 0
 have hzz := hE.size
 refine ⟨by simp only [dF]; rw [a2]; exact hdf, .agg #[sv, .int .i64 flex], results_cell (b := wb) (o := 0) (cs := [sv, .int .i64 flex]) (by simp (disch := (try simp only [sP]); omega) only [eV, h0]) hM ?_, sv, rfl, ?_, ?_⟩
 ·intro j v hv
  refine setCells_cell wb _ W2 0 (fun j hj => ?_) j v hv
  rw [Nat.zero_add]
  exact ((hfr j hj).below hbW2 hz0).1
 ·rcases hs2 with ⟨h, _⟩ | ⟨q, o, cap, h1, h2, h3, h4⟩
  ·rw [← hsv] at h; cases h
  ·refine .inr ⟨q, o, cap, h1, h2, by omega, SFs.Rep.mono hzz (SFs.Rep.other (b := wb) (fun k hk => ?_) (fun i hi => ?_) h4)⟩
   ·rcases Nat.lt_or_ge k W2.heap.size with h | h
    ·exact hE.blockEq h (fun i hh => hk hh.1)
    ·have e : (setCells W2 wb 0 [sv, .int .i64 flex]).heap.size = W2.heap.size := by simp [setCells]
     rw [Array.getElem?_eq_none h, Array.getElem?_eq_none (by rw [e]; exact h)]
   ·rw [hbW2.cell (p := ⟨wb, i, none⟩) hz0]
    exact h2c i hi
 ·exact (hb0.trans (hbW2.mono (by omega))).trans (hE.below (by have := hbW2.size; omega) (by rintro k i hk ⟨h, _⟩; omega))
end
end Go.Km
namespace Go.Km
open Go Go.RowKit
attribute [local irreducible] vc rO_ runG runS runD
structure ML where
 implMax : FuncId
 spec : FuncId
 again : FuncId
 law : FuncId
 fits2 : FuncId
 fits3 : FuncId
 fits4 : FuncId
 tTup : TypeId
def c_fits2 (E : Env) (A : ML) : Code :=
 (sq [(rg [(oQ 1 (.box E.tT (.tmp 0)) 0),
   (oQ 2 (.assign (.const (.bool false))) E.tO)]),
  (sq [(rg [(oQ 3 (.fieldAddr E.tT (.tmp 1) 1) 0),
    (oQ 4 (.load E.tB (.tmp 3)) E.tB),
    (oQ 5 (.call { callee := .builtin .len, args := #[(.tmp 4)], argTypes := #[E.tB] }) E.tI),
    (oQ 6 (.binOp .gtr E.tI (.tmp 5) (.const (.int .i64 2147483647)) E.tI) E.tO)]),
   (.cond (.tmp 6)
    (sq [(rg [(oQ 2 (.assign (.const (.bool false))) E.tO)]),
     .ret])
    .skip)]),
  (sq [(rg [(oQ 7 (.fieldAddr E.tT (.tmp 1) 3) 0),
    (oQ 8 (.load E.tS (.tmp 7)) E.tS),
    (oQ 9 (.call { callee := .builtin .len, args := #[(.tmp 8)], argTypes := #[E.tS] }) E.tI),
    (oQ 10 (.binOp .gtr E.tI (.tmp 9) (.const (.int .i64 2147483647)) E.tI) E.tO)]),
   (.cond (.tmp 10)
    (sq [(rg [(oQ 2 (.assign (.const (.bool false))) E.tO)]),
     .ret])
    .skip)]),
  (sq [(rg [(oQ 11 (.fieldAddr E.tT (.tmp 1) 4) 0),
    (oQ 12 (.load E.tK (.tmp 11)) E.tK),
    (oQ 13 (.call { callee := .value (.func A.fits3), args := #[(.tmp 12)], argTypes := #[E.tK] }) E.tO),
    (oQ 14 (.unOp .not E.tO (.tmp 13)) E.tO)]),
   (.cond (.tmp 14)
    (sq [(rg [(oQ 2 (.assign (.const (.bool false))) E.tO)]),
     .ret])
    .skip)]),
  (rg [(oQ 2 (.assign (.const (.bool true))) E.tO)]),
  .ret])
def c_fits3 (E : Env) (A : ML) : Code :=
 (sq [(rg [(oQ 2 (.assign (.const (.bool false))) E.tO)]),
  (sq [(rg [(oQ 5 (.move (.tmp 0)) E.tK),
    (oQ 6 (.call { callee := .builtin .len, args := #[(.tmp 5)], argTypes := #[E.tK] }) E.tI),
    (oQ 7 (.binOp .gtr E.tI (.tmp 6) (.const (.int .i64 2147483647)) E.tI) E.tO)]),
   (.cond (.tmp 7)
    (sq [(rg [(oQ 2 (.assign (.const (.bool false))) E.tO)]),
     .ret])
    .skip)]),
  (sq [(rg [(oQ 8 (.move (.tmp 0)) E.tK),
    (oQ 9 (.call { callee := .builtin .len, args := #[(.tmp 8)], argTypes := #[E.tK] }) E.tI),
    (oQ 10 (.move (.const (.int .i64 0))) E.tI)]),
   (.block 0 (.loop (sq [(rg [(oQ 11 (.binOp .lss E.tI (.tmp 10) (.tmp 9) E.tI) 0)]),
      (.cond (.tmp 11)
       .skip
       (.exit 0)),
      (.block 1 (sq [(rg [(oQ 12 (.indexAddr E.tK (.tmp 8) (.tmp 10)) 0),
         (oQ 13 (.load E.tUnk (.tmp 12)) E.tUnk),
         (oQ 4 (.alloc E.tUnk) 0),
         ⟨none, .store E.tUnk (.tmp 4) (.tmp 13), 0, "", #[], none⟩]),
        (rg [(oQ 14 (.load E.tUnk (.tmp 4)) E.tUnk),
         (oQ 15 (.call { callee := .value (.func A.fits4), args := #[(.tmp 14)], argTypes := #[E.tUnk] }) E.tO),
         (oQ 16 (.unOp .not E.tO (.tmp 15)) E.tO)]),
        (.cond (.tmp 16)
         (sq [(rg [(oQ 2 (.assign (.const (.bool false))) E.tO)]),
          .ret])
         .skip)])),
      (rg [(oQ 17 (.binOp .add E.tI (.tmp 10) (.const (.int .i64 1)) E.tI) E.tI),
       (oQ 10 (.move (.tmp 17)) E.tI)])])))]),
  (rg [(oQ 2 (.assign (.const (.bool true))) E.tO)]),
  .ret])
def c_fits4 (E : Env) (A : ML) : Code :=
 (sq [(rg [(oQ 1 (.box E.tUnk (.tmp 0)) 0),
   (oQ 2 (.assign (.const (.bool false))) E.tO)]),
  (sq [(rg [(oQ 3 (.fieldAddr E.tUnk (.tmp 1) 1) 0),
    (oQ 4 (.load E.tB (.tmp 3)) E.tB),
    (oQ 5 (.call { callee := .builtin .len, args := #[(.tmp 4)], argTypes := #[E.tB] }) E.tI),
    (oQ 6 (.binOp .gtr E.tI (.tmp 5) (.const (.int .i64 2147483647)) E.tI) E.tO)]),
   (.cond (.tmp 6)
    (sq [(rg [(oQ 2 (.assign (.const (.bool false))) E.tO)]),
     .ret])
    .skip)]),
  (rg [(oQ 2 (.assign (.const (.bool true))) E.tO)]),
  .ret])
def c_cutL (E : Env) (A : ML) : Code :=
 (sq [(rg [(oQ 4 (.box E.tT (.tmp 1)) 0),
   (oQ 6 (.assign (.const (.bool false))) E.tO)]),
  (sq [(rg [(oQ 13 (.load E.tT (.tmp 4)) E.tT),
    (oQ 14 (.call { callee := .value (.func A.fits2), args := #[(.tmp 13)], argTypes := #[E.tT] }) E.tO),
    (oQ 15 (.unOp .not E.tO (.tmp 14)) E.tO)]),
   (.cond (.tmp 15)
    (sq [(rg [(oQ 6 (.assign (.const (.bool true))) E.tO)]),
     .ret])
    .skip)]),
  (rg [(oQ 16 (.call { callee := .value (.func A.implMax), args := #[], argTypes := #[] }) E.tI),
   (oQ 7 (.assign (.tmp 16)) E.tI)]),
  (sq [(rg [(oQ 17 (.move (.tmp 7)) E.tI),
    (oQ 18 (.binOp .lss E.tI (.tmp 17) (.const (.int .i64 0)) E.tI) E.tO)]),
   (.cond (.tmp 18)
    (sq [(rg [(oQ 6 (.assign (.const (.bool false))) E.tO)]),
     .ret])
    .skip)]),
  (rgd [(oQ 19 (.call { callee := .value (.func A.spec), args := #[], argTypes := #[] }) E.tMsg),
   (oQ 20 (.move (.tmp 0)) E.tU8),
   (oQ 21 (.move (.tmp 7)) E.tI),
   ⟨some 22, .call { callee := .value (.func E.lVersion), args := #[(.tmp 20), (.tmp 21)], argTypes := #[E.tU8, E.tI] }, E.tI, "", #[⟨1, .data⟩, ⟨2, .data⟩, ⟨0, .chain⟩], none⟩,
   (oQ 23 (.load E.tT (.tmp 4)) E.tT),
   ⟨some 24, .call { callee := .value (.func E.sWrite), args := #[(.tmp 19), (.tmp 22), (.tmp 23)], argTypes := #[E.tMsg, E.tI, E.tT] }, E.tB, "", #[⟨0, .data⟩, ⟨3, .data⟩, ⟨4, .data⟩, ⟨3, .chain⟩], none⟩,
   ⟨some 8, .assign (.tmp 24), E.tB, "", #[⟨5, .data⟩, ⟨5, .chain⟩, ⟨0, .phase⟩, ⟨1, .phase⟩, ⟨2, .phase⟩, ⟨3, .phase⟩, ⟨4, .phase⟩, ⟨5, .phase⟩], none⟩]),
  (rg [(oQ 26 (.move (.tmp 0)) E.tU8),
   (oQ 27 (.move (.tmp 7)) E.tI),
   (oQ 28 (.call { callee := .value (.func E.lVersion), args := #[(.tmp 26), (.tmp 27)], argTypes := #[E.tU8, E.tI] }) E.tI),
   (oQ 29 (.move (.tmp 8)) E.tB),
   (oQ 30 (.call { callee := .value (.func A.again), args := #[(.tmp 28), (.tmp 29)], argTypes := #[E.tI, E.tB] }) A.tTup),
   (oQ 25 (.move (.tmp 30)) A.tTup),
   (oQ 31 (.extract (.tmp 25) 0) E.tB),
   (oQ 32 (.extract (.tmp 25) 1) E.tO),
   (oQ 9 (.assign (.tmp 31)) E.tB),
   (oQ 10 (.assign (.tmp 32)) E.tO)]),
  (sq [(rg [(oQ 33 (.move (.tmp 8)) E.tB),
    (oQ 34 (.call { callee := .builtin .len, args := #[(.tmp 33)], argTypes := #[E.tB] }) E.tI),
    (oQ 35 (.binOp .eql E.tI (.tmp 34) (.const (.int .i64 0)) E.tI) E.tO)]),
   (.cond (.tmp 35)
    (sq [(rg [(oQ 36 (.move (.tmp 10)) E.tO),
      (oQ 6 (.assign (.tmp 36)) E.tO)]),
     .ret])
    .skip)]),
  (rgd [(oQ 38 (.move (.tmp 0)) E.tU8),
   (oQ 39 (.move (.tmp 7)) E.tI),
   ⟨some 40, .call { callee := .value (.func E.lVersion), args := #[(.tmp 38), (.tmp 39)], argTypes := #[E.tU8, E.tI] }, E.tI, "", #[⟨0, .data⟩, ⟨1, .data⟩], none⟩,
   (oQ 41 (.move (.tmp 8)) E.tB),
   (oQ 42 (.move (.tmp 2)) E.tU16),
   ⟨some 43, .convert E.tU16 E.tI (.tmp 42), E.tI, "", #[⟨4, .data⟩], none⟩,
   (oQ 44 (.move (.tmp 8)) E.tB),
   ⟨some 45, .call { callee := .builtin .len, args := #[(.tmp 44)], argTypes := #[E.tB] }, E.tI, "", #[⟨6, .data⟩], none⟩,
   ⟨some 46, .binOp .rem E.tI (.tmp 43) (.tmp 45) E.tI, E.tI, "", #[⟨5, .data⟩, ⟨7, .data⟩], none⟩,
   ⟨some 47, .slice E.tB (.tmp 41) none (some (.tmp 46)) none, E.tB, "", #[⟨3, .data⟩, ⟨8, .data⟩], none⟩,
   ⟨some 48, .call { callee := .value (.func A.again), args := #[(.tmp 40), (.tmp 47)], argTypes := #[E.tI, E.tB] }, A.tTup, "", #[⟨2, .data⟩, ⟨9, .data⟩, ⟨2, .chain⟩], none⟩,
   ⟨some 37, .move (.tmp 48), A.tTup, "", #[⟨10, .data⟩], none⟩,
   ⟨some 49, .extract (.tmp 37) 0, E.tB, "", #[⟨11, .data⟩], none⟩,
   ⟨some 50, .extract (.tmp 37) 1, E.tO, "", #[⟨11, .data⟩, ⟨14, .gcOnly .lateStores⟩], none⟩,
   ⟨some 11, .assign (.tmp 49), E.tB, "", #[⟨12, .data⟩, ⟨10, .chain⟩, ⟨0, .phase⟩, ⟨1, .phase⟩, ⟨2, .phase⟩, ⟨3, .phase⟩, ⟨4, .phase⟩, ⟨5, .phase⟩, ⟨6, .phase⟩, ⟨7, .phase⟩, ⟨8, .phase⟩, ⟨9, .phase⟩, ⟨10, .phase⟩, ⟨11, .phase⟩, ⟨12, .phase⟩, ⟨13, .textOnly .lateStores⟩], none⟩,
   ⟨some 12, .assign (.tmp 50), E.tO, "", #[⟨13, .data⟩, ⟨14, .chain⟩, ⟨0, .phase⟩, ⟨1, .phase⟩, ⟨2, .phase⟩, ⟨3, .phase⟩, ⟨4, .phase⟩, ⟨5, .phase⟩, ⟨6, .phase⟩, ⟨7, .phase⟩, ⟨8, .phase⟩, ⟨9, .phase⟩, ⟨10, .phase⟩, ⟨11, .phase⟩, ⟨12, .phase⟩, ⟨13, .phase⟩, ⟨14, .phase⟩], none⟩]),
  (rg [(oQ 51 (.move (.tmp 10)) E.tO),
   (oQ 52 (.move (.tmp 51)) E.tO),
   ⟨some 53, .move (.tmp 12), E.tO, "", #[], some (1, true)⟩,
   ⟨some 54, .unOp .not E.tO (.tmp 53), E.tO, "", #[], some (1, true)⟩,
   (oQ 55 (.pick (.tmp 52) (.tmp 54) (.const (.bool false))) E.tO),
   (oQ 6 (.assign (.tmp 55)) E.tO)]),
  .ret])
section
variable {P : Program} {E : Env} {w : World} {U : Nat}
abbrev AnyB (P : Program) (f : FuncId) (args : Array Value) (w : World) : Prop := CallsV P f args w fun v w' => (∃ b, v = .bool b) ∧ Below w.heap.size w w'
theorem fits4_ok (H : SEnv P E) {A : ML} (ht : Text P A.fits4 1 7 #[.tmp 2] (c_fits4 E A)) {k : Int} {sv : Value} {l : List UInt8} (ho : OctsB w U sv l) : AnyB P A.fits4 #[.agg [.int .u32 k, sv].toArray] w := by
 obtain ⟨ad, cap, rfl, _, _⟩ := ho.form
 refine CallsV.enter ht (by simp) ?_
 intro a hsz hdf harg
 have e0 := harg 0 (.agg [.int .u32 k, .slice ad l.length cap].toArray) (by simp)
 unfold c_fits4
 refine vX ?_
 refine r_box (v := .agg [.int .u32 k, .slice ad l.length cap].toArray) (by simp (disch := (try simp only [sP]); omega) only [eV, e0]) ?_
 refine rA (dn ?_)
 have hb1 : Below w.heap.size w (w.alloc (.cells (Value.agg [.int .u32 k, .slice ad l.length cap].toArray).cells E.tUnk)) := (Below.refl _ w).alloc (o := .cells _ _) (Nat.le_refl _)
 have c1 : (w.alloc (.cells (Value.agg [.int .u32 k, .slice ad l.length cap].toArray).cells E.tUnk)).cell? ⟨w.heap.size, 0 + 1, none⟩ = some (.slice ad l.length cap) := cells_new w _ E.tUnk (by simp [Value.cells])
 generalize w.alloc (.cells (Value.agg [.int .u32 k, .slice ad l.length cap].toArray).cells E.tUnk) = w1 at *
 refine vS (vX ?_)
 refine rF (b := w.heap.size) (o := 0) (by simp (disch := (try simp only [sP]); omega) only [eV]) (offs_inv H.fUnk (by decide)) ?_
 refine rL (b := w.heap.size) (o := 0 + 1) (by simp (disch := (try simp only [sP]); omega) only [eV]) H.oBytes c1 ?_
 refine r_len (ad := ad) (n := l.length) (c := cap) (rB H.row) (by simp (disch := (try simp only [sP]); omega) only [eV]) ?_
 refine r_gtr (k := .i64) (m := (l.length : Int)) (n := 2147483647) (by simp (disch := (try simp only [sP]); omega) only [eV]) rfl ?_
 refine dn ?_
 refine vS (vC (t := decide ((l.length : Int) > 2147483647)) (by simp (disch := (try simp only [sP]); omega) only [eV]) ?_ ?_)
 ·intro h
  refine vX (rA (dn (vS (vT ?_))))
  exact ⟨by simp only [dF]; exact hdf, .bool false, rO (by simp (disch := (try simp only [sP]); omega) only [eV]), ⟨_, rfl⟩, hb1⟩
 intro h
 refine vK (vN (vX (rA (dn (vS (vT ?_))))))
 exact ⟨by simp only [dF]; exact hdf, .bool true, rO (by simp (disch := (try simp only [sP]); omega) only [eV]), ⟨_, rfl⟩, hb1⟩
theorem fits3_ok (H : SEnv P E) {A : ML} (ht4 : Text P A.fits4 1 7 #[.tmp 2] (c_fits4 E A)) (ht : Text P A.fits3 1 18 #[.tmp 2] (c_fits3 E A)) {uv : Value} {u : List (Nat × List UInt8)} (hu : UnkB w U uv u) (hU : U ≤ w.heap.size) (hbig : u.length ≤ 9223372036854775807) : AnyB P A.fits3 #[uv] w := by
 obtain ⟨ad, cap, rfl, _, hit⟩ := hu.items
 obtain ⟨z, hz, hzc⟩ := rowB_zero H.rUnks
 refine CallsV.enter ht (by simp) ?_
 intro a hsz hdf harg
 have e0 := harg 0 (.slice ad u.length cap) (by simp)
 unfold c_fits3
 refine vX (rA (dn (vS (vX (rM ?_)))))
 refine r_len (ad := ad) (n := u.length) (c := cap) (rB H.rUnks) (by simp (disch := (try simp only [sP]); omega) only [eV, e0]) ?_
 refine r_gtr (k := .i64) (m := (u.length : Int)) (n := 2147483647) (by simp (disch := (try simp only [sP]); omega) only [eV]) rfl ?_
 refine dn ?_
 refine vS (vC (t := decide ((u.length : Int) > 2147483647)) (by simp (disch := (try simp only [sP]); omega) only [eV]) ?_ ?_)
 ·intro h
  refine vX (rA (dn (vS (vT ?_))))
  exact ⟨by simp only [dF]; exact hdf, .bool false, rO (by simp (disch := (try simp only [sP]); omega) only [eV]), ⟨_, rfl⟩, Below.refl _ _⟩
 intro h
 have hlen : u.length ≤ 2147483647 := by
  have : ¬ ((u.length : Int) > 2147483647) := by simpa using h
  omega
 refine vK (vN (vS (vX (rM ?_))))
 refine r_len (ad := ad) (n := u.length) (c := cap) (rB H.rUnks) (by simp (disch := (try simp only [sP]); omega) only [eV, e0]) ?_
 refine rM (dn ?_)
 generalize hG : Act.put _ (some 10) _ = G
 have hsG : G.tmps.size = 18 := by rw [← hG]; simp only [zP]; exact hsz
 have hdG : G.defers = [] := by rw [← hG]; simp only [dF]; exact hdf
 have k8 : G.eval (.tmp 8) = .slice ad u.length cap := by rw [← hG]; simp (disch := (try simp only [sP]); omega) only [eV, e0]
 have k9 : G.eval (.tmp 9) = .int .i64 (u.length : Nat) := by rw [← hG]; simp (disch := (try simp only [sP]); omega) only [eV]
 have k10 : G.eval (.tmp 10) = .int .i64 ((0 : Nat) : Int) := by rw [← hG]; simp (disch := (try simp only [sP]); omega) only [eV]; rfl
 clear hG
 refine vS (vc_block (vc_loop (fun B V => ∃ i : Nat, i ≤ u.length ∧ B.tmps.size = 18 ∧ B.defers = [] ∧ B.eval (.tmp 8) = .slice ad u.length cap ∧ B.eval (.tmp 9) = .int .i64 (u.length : Nat) ∧ B.eval (.tmp 10) = .int .i64 (i : Int) ∧ Below w.heap.size w V)
  (fun B _ => u.length - (intOf (B.eval (.tmp 10))).toNat) ?_ ?_))
 ·exact ⟨0, Nat.zero_le _, hsG, hdG, k8, k9, k10, Below.refl _ _⟩
 rintro B V ⟨i, hi, hsB, hdB, g8, g9, g10, hbV⟩
 refine vX ?_
 refine r_lss (k := .i64) (m := (i : Int)) (n := (u.length : Int)) g10 g9 ?_
 refine dn ?_
 refine vS (vC (t := decide ((i : Int) < (u.length : Int))) (by simp (disch := (try simp only [sP]); omega) only [eV]) ?_ ?_)
 ·intro hlt
  have hlt' : i < u.length := by simpa using hlt
  refine vK ?_
  obtain ⟨q, o, s, rfl, hq, hk, hcs, hoc⟩ := hit i u[i] (List.getElem?_eq_getElem hlt')
  have hcsV : Cells V q (o + i * 2) [.int .u32 (u[i].1 : Int), s] := hcs.below (hbV.mono hU) hq
  have hocV : OctsB V U s u[i].2 := hoc.below (hbV.mono hU)
  refine vS (vc_block (vX ?_))
  refine r_index (k := .i64) (j := i) (b := q) (o := o) (len := u.length) (cap := cap) (rB H.rUnks) (by simp (disch := (try simp only [sP]); omega) only [eV, g8]) (by simp (disch := (try simp only [sP]); omega) only [eV, g10]) hlt' ?_
  refine r_loadAgg (b := q) (o := o + i * 2) (cs := [.int .u32 (u[i].1 : Int), s]) (by simp (disch := (try simp only [sP]); omega) only [eV]) H.aUnk hcsV ?_
  refine r_alloc hz ?_
  refine r_storeAgg (b := V.heap.size) (o := 0) (cs := [.int .u32 (u[i].1 : Int), s]) (by simp (disch := (try simp only [sP]); omega) only [eV]) (by simp (disch := (try simp only [sP]); omega) only [eV]) (by intro v hv; simp only [List.mem_cons, List.not_mem_nil, or_false] at hv; rcases hv with rfl | rfl; rfl; exact hoc.one) H.aUnk ?_ ?_
  ·intro j hj
   rw [Nat.zero_add]
   exact free_new V _ _ (by rw [hzc]; simpa using hj)
  refine dn ?_
  have hcell : Cells (setCells (V.alloc (.cells z.cells E.tUnk)) V.heap.size 0 [.int .u32 (u[i].1 : Int), s]) V.heap.size 0 [.int .u32 (u[i].1 : Int), s] := by
   intro j v hv
   refine setCells_cell V.heap.size _ _ 0 (fun j hj => ?_) j _ hv
   rw [Nat.zero_add]
   exact (free_new V z.cells E.tUnk (by rw [hzc]; simpa using hj)).1
  have hb3 : Below V.heap.size V (setCells (V.alloc (.cells z.cells E.tUnk)) V.heap.size 0 [.int .u32 (u[i].1 : Int), s]) := by
   refine ((Below.refl V.heap.size V).alloc (o := .cells _ _) (Nat.le_refl _)).trans ((setCells_eff V.heap.size _ _ 0).below (by simp) (by rintro k i hk ⟨rfl, _, _⟩; omega))
  generalize setCells (V.alloc (.cells z.cells E.tUnk)) V.heap.size 0 [.int .u32 (u[i].1 : Int), s] = V1 at hcell hb3 ⊢
  have hbV1 : Below w.heap.size w V1 := hbV.trans (hb3.mono hbV.size)
  refine vX ?_
  refine r_loadAgg (b := V.heap.size) (o := 0) (cs := [.int .u32 (u[i].1 : Int), s]) (by simp (disch := (try simp only [sP]); omega) only [eV]) H.aUnk hcell ?_
  refine r_call' (args := #[.agg [.int .u32 (u[i].1 : Int), s].toArray]) ?_ (fits4_ok (k := (u[i].1 : Int)) H ht4 (hocV.below (hb3.mono (Nat.le_trans hU hbV.size)))) ?_
  ·simp only [lM]
   simp (disch := (try simp only [sP]); omega) only [eV]
  rintro v V2 ⟨⟨b, rfl⟩, hb4⟩
  have hbV2 : Below w.heap.size w V2 := hbV1.trans (hb4.mono hbV1.size)
  refine r_not (b := b) (by simp (disch := (try simp only [sP]); omega) only [eV]) ?_
  refine dn ?_
  refine vS (vC (t := !b) (by simp (disch := (try simp only [sP]); omega) only [eV]) ?_ ?_)
  ·intro _
   refine vX (rA (dn (vS (vT ?_))))
   exact ⟨by simp only [dF]; exact hdB, .bool false, rO (by simp (disch := (try simp only [sP]); omega) only [eV]), ⟨_, rfl⟩, hbV2⟩
  intro _
  refine vK (vN (vX ?_))
  refine r_add (k := .i64) (m := (i : Int)) (n := 1) (by simp (disch := (try simp only [sP]); omega) only [eV, g10]) rfl ?_
  rw [wrap_i64 (by omega) (by omega)]
  refine rM (dn (vN ?_))
  generalize hG : Act.put _ (some 10) _ = G
  have hsG : G.tmps.size = 18 := by rw [← hG]; simp only [zP]; exact hsB
  have hdG : G.defers = [] := by rw [← hG]; simp only [dF]; exact hdB
  have k8 : G.eval (.tmp 8) = .slice (some ⟨q, o, none⟩) u.length cap := by rw [← hG]; simp (disch := (try simp only [sP]); omega) only [eV, g8]
  have k9 : G.eval (.tmp 9) = .int .i64 (u.length : Nat) := by rw [← hG]; simp (disch := (try simp only [sP]); omega) only [eV, g9]
  have k10 : G.eval (.tmp 10) = .int .i64 ((i + 1 : Nat) : Int) := by rw [← hG]; simp (disch := (try simp only [sP]); omega) only [eV]; rfl
  clear hG
  refine ⟨⟨i + 1, hlt', hsG, hdG, k8, k9, k10, hbV2⟩, ?_⟩
  show u.length - (intOf _).toNat < u.length - (intOf _).toNat
  rw [k10, g10]
  simp only [intOf, Int.toNat_natCast]
  omega
 ·intro hge
  refine vc_exit ?_
  simp only [Exit.then, Exit.inBlock, if_true]
  refine vN (vX (rA (dn (vS (vT ?_)))))
  exact ⟨by simp only [dF]; exact hdB, .bool true, rO (by simp (disch := (try simp only [sP]); omega) only [eV]), ⟨_, rfl⟩, hbV⟩
theorem fits2_ok (H : SEnv P E) {A : ML} (ht4 : Text P A.fits4 1 7 #[.tmp 2] (c_fits4 E A)) (ht3 : Text P A.fits3 1 18 #[.tmp 2] (c_fits3 E A)) (ht : Text P A.fits2 1 15 #[.tmp 2] (c_fits2 E A)) {t : Tr} {ts : List Value} (hr : t.Rep w U ts) (hU : U ≤ w.heap.size) (hul : ∀ n s nl l u, t = .mk n s nl l u → u.length ≤ 9223372036854775807) : AnyB P A.fits2 #[.agg ts.toArray] w := by
 cases t with
 | mk n s nl l u =>
 have hul := hul n s nl l u rfl
 obtain ⟨sv, lv, uv, rfl, hs, hun, hl⟩ := hr
 obtain ⟨ad, cap, rfl, _, _⟩ := hs.form
 obtain ⟨lad, lcap, rfl⟩ : ∃ ad cap, lv = .slice ad l.len cap := by
  rcases hl with ⟨⟨ad, cap, rfl⟩, h0⟩ | ⟨q, o, cap, rfl, _⟩
  ·exact ⟨_, _, by rw [h0]⟩
  ·exact ⟨_, _, rfl⟩
 refine CallsV.enter ht (by simp) ?_
 intro a hsz hdf harg
 have e0 := harg 0 (.agg [.int .i64 n, .slice ad s.length cap, .bool nl, .slice lad l.len lcap, uv].toArray) (by simp)
 unfold c_fits2
 refine vX ?_
 refine r_box (v := .agg [.int .i64 n, .slice ad s.length cap, .bool nl, .slice lad l.len lcap, uv].toArray) (by simp (disch := (try simp only [sP]); omega) only [eV, e0]) ?_
 refine rA (dn ?_)
 have hb1 : Below w.heap.size w (w.alloc (.cells (Value.agg [.int .i64 n, .slice ad s.length cap, .bool nl, .slice lad l.len lcap, uv].toArray).cells E.tT)) := (Below.refl _ w).alloc (o := .cells _ _) (Nat.le_refl _)
 have hcs : Cells (w.alloc (.cells (Value.agg [.int .i64 n, .slice ad s.length cap, .bool nl, .slice lad l.len lcap, uv].toArray).cells E.tT)) w.heap.size 0 [.int .i64 n, .slice ad s.length cap, .bool nl, .slice lad l.len lcap, uv] := by
  intro j v hv
  rw [Nat.zero_add]
  exact cells_new w _ E.tT (by simpa [Value.cells] using hv)
 generalize w.alloc (.cells (Value.agg [.int .i64 n, .slice ad s.length cap, .bool nl, .slice lad l.len lcap, uv].toArray).cells E.tT) = w1 at *
 refine vS (vX ?_)
 refine rF (b := w.heap.size) (o := 0) (by simp (disch := (try simp only [sP]); omega) only [eV]) (offs_inv H.fTree (by decide)) ?_
 refine rL (b := w.heap.size) (o := 0 + 1) (by simp (disch := (try simp only [sP]); omega) only [eV]) H.oBytes (hcs 1 _ rfl) ?_
 refine r_len (ad := ad) (n := s.length) (c := cap) (rB H.row) (by simp (disch := (try simp only [sP]); omega) only [eV]) ?_
 refine r_gtr (k := .i64) (m := (s.length : Int)) (n := 2147483647) (by simp (disch := (try simp only [sP]); omega) only [eV]) rfl ?_
 refine dn ?_
 refine vS (vC (t := decide ((s.length : Int) > 2147483647)) (by simp (disch := (try simp only [sP]); omega) only [eV]) ?_ ?_)
 ·intro h
  refine vX (rA (dn (vS (vT ?_))))
  exact ⟨by simp only [dF]; exact hdf, .bool false, rO (by simp (disch := (try simp only [sP]); omega) only [eV]), ⟨_, rfl⟩, hb1⟩
 intro _
 refine vK (vN (vS (vX ?_)))
 refine rF (b := w.heap.size) (o := 0) (by simp (disch := (try simp only [sP]); omega) only [eV]) (offs_inv H.fTree (by decide)) ?_
 refine rL (b := w.heap.size) (o := 0 + 3) (by simp (disch := (try simp only [sP]); omega) only [eV]) H.oTrees (hcs 3 _ rfl) ?_
 refine r_len (ad := lad) (n := l.len) (c := lcap) (rB H.rTrees) (by simp (disch := (try simp only [sP]); omega) only [eV]) ?_
 refine r_gtr (k := .i64) (m := (l.len : Int)) (n := 2147483647) (by simp (disch := (try simp only [sP]); omega) only [eV]) rfl ?_
 refine dn ?_
 refine vS (vC (t := decide ((l.len : Int) > 2147483647)) (by simp (disch := (try simp only [sP]); omega) only [eV]) ?_ ?_)
 ·intro h
  refine vX (rA (dn (vS (vT ?_))))
  exact ⟨by simp only [dF]; exact hdf, .bool false, rO (by simp (disch := (try simp only [sP]); omega) only [eV]), ⟨_, rfl⟩, hb1⟩
 intro _
 refine vK (vN (vS (vX ?_)))
 refine rF (b := w.heap.size) (o := 0) (by simp (disch := (try simp only [sP]); omega) only [eV]) (offs_inv H.fTree (by decide)) ?_
 refine rL (b := w.heap.size) (o := 0 + 4) (by simp (disch := (try simp only [sP]); omega) only [eV]) H.oUnks (hcs 4 _ rfl) ?_
 refine r_call' (args := #[uv]) ?_ (fits3_ok H ht4 ht3 (hun.below (hb1.mono hU)) (Nat.le_trans hU hb1.size) hul) ?_
 ·simp only [lM]
  simp (disch := (try simp only [sP]); omega) only [eV]
 rintro v w2 ⟨⟨b, rfl⟩, hb2⟩
 have hb12 : Below w.heap.size w w2 := hb1.trans (hb2.mono hb1.size)
 refine r_not (b := b) (by simp (disch := (try simp only [sP]); omega) only [eV]) ?_
 refine dn ?_
 refine vS (vC (t := !b) (by simp (disch := (try simp only [sP]); omega) only [eV]) ?_ ?_)
 ·intro h
  refine vX (rA (dn (vS (vT ?_))))
  exact ⟨by simp only [dF]; exact hdf, .bool false, rO (by simp (disch := (try simp only [sP]); omega) only [eV]), ⟨_, rfl⟩, hb12⟩
 intro _
 refine vK (vN (vX (rA (dn (vS (vT ?_))))))
 exact ⟨by simp only [dF]; exact hdf, .bool true, rO (by simp (disch := (try simp only [sP]); omega) only [eV]), ⟨_, rfl⟩, hb12⟩
end
end Go.Km
namespace Go.Km
open Go Go.RowKit
attribute [local irreducible] vc rO_ runG runS runD
structure Spd (m : Msg) (fs : SFs) (flex : Int) (mx : Nat) : Prop where
 good : fs.good = true
 len : fs.len ≤ 65536
 agr : m.fs.agr fs = true
 fx : ∀ ver : Nat, ver ≤ mx → m.isFlex ver = (decide (flex ≥ 0) && decide ((ver : Int) ≥ flex))
 lp : lpB m mx = true
 kept : m.kept = false
 mx : mx < 32768
theorem isFlex_eq {m : Msg} {flex : Int} (h : (match m.flex with | none => decide (flex < 0) | some f => decide (flex = (f : Int))) = true) (ver : Nat) : m.isFlex ver = (decide (flex ≥ 0) && decide ((ver : Int) ≥ flex)) := by
 unfold Msg.isFlex
 cases hm : m.flex with
 | none =>
  rw [hm] at h
  have h0 : flex < 0 := by simpa using h
  have h1 : ¬ (flex ≥ 0) := by omega
  simp [h1]
 | some f =>
  rw [hm] at h
  have h1 : flex = (f : Int) := by simpa using h
  subst h1
  have h2 : ((f : Int) ≥ 0) := by omega
  simp only [h2, decide_true, Bool.true_and]
  by_cases h3 : f ≤ ver
  ·have : ((ver : Int) ≥ (f : Int)) := by omega
   simp [h3, this]
  ·have : ¬ ((ver : Int) ≥ (f : Int)) := by omega
   simp [h3, this]
structure LawT (P : Program) (E : Env) (A : ML) (m : Msg) (fs : SFs) (flex : Int) (mx : Nat) : Prop where
 se : SEnv P E
 sl : SLay P E
 st : STexts P E
 hz8 : zeroT P E.tU8 = some (.int .u8 0)
 hoM : offs P E.tMsg 2 = true
 hM : aggT P E.tMsg = some 2
 ver : Text P E.lVersion 2 10 #[.tmp 4] (c_lVersion E)
 f4 : Text P A.fits4 1 7 #[.tmp 2] (c_fits4 E A)
 f3 : Text P A.fits3 1 18 #[.tmp 2] (c_fits3 E A)
 f2 : Text P A.fits2 1 15 #[.tmp 2] (c_fits2 E A)
 max : ∀ w, CallsV P A.implMax #[] w fun v w' => v = .int .i64 mx ∧ Below w.heap.size w w'
 spec : SpecC P A.spec fs flex
 again : AgainC P E m A.again mx
def Tr.small (t : Tr) : Prop := ∀ n s nl l u, t = .mk n s nl l u → u.length ≤ 9223372036854775807
end Go.Km
namespace Go.Km
open Go Go.RowKit Go.ChangeShapes Go.WideShapes Go.ChangeAt
def structB (P : Program) (t : TypeId) (l : List (TypeId × Nat)) : Bool :=
 match P.underlying t with
 | some (.struct fs) => fs.toList.map (fun f => (f.type, f.offset)) == l
 | _ => false
theorem structB_inv {P : Program} {t : TypeId} {l : List (TypeId × Nat)} (h : structB P t l = true) :
  ∃ fs : Array Field, P.underlying t = some (.struct fs) ∧ fs.size = l.length ∧ ∀ (i : Nat) (p : TypeId × Nat), l[i]? = some p → ∃ f : Field, fs[i]? = some f ∧ f.type = p.1 ∧ f.offset = p.2 := by
 unfold structB at h
 split at h
 ·rename_i fs hu
  simp only [beq_iff_eq] at h
  refine ⟨fs, hu, by rw [← h]; simp, fun i p hp => ?_⟩
  rw [← h, List.getElem?_map, Option.map_eq_some_iff] at hp
  obtain ⟨f, hf, rfl⟩ := hp
  exact ⟨f, by simpa using hf, rfl, rfl⟩
 ·cases h
structure TreeT (P : Program) (E : Env) : Prop where
 tree : structB P E.tT [(E.tI64, 0), (E.tB, 1), (E.tO, 2), (E.tS, 3), (E.tK, 4)] = true
 unk : structB P E.tUnk [(E.tW, 0), (E.tB, 1)] = true
 trees : P.underlying E.tS = some (.slice E.tT)
 unks : P.underlying E.tK = some (.slice E.tUnk)
 bytes : P.underlying E.tB = some (.slice E.tU8)
 u8 : P.underlying E.tU8 = some (.int .u8)
 i64 : P.underlying E.tI64 = some (.int .i64)
 u32 : P.underlying E.tW = some (.int .u32)
 bool : P.underlying E.tO = some .bool
 cTree : P.cellsOf E.tT = 5
 cUnk : P.cellsOf E.tUnk = 2
 c8 : P.cellsOf E.tU8 = 1
 c64 : P.cellsOf E.tI64 = 1
 c32 : P.cellsOf E.tW = 1
 cBool : P.cellsOf E.tO = 1
 cBytes : P.cellsOf E.tB = 1
 cTrees : P.cellsOf E.tS = 1
 cUnks : P.cellsOf E.tK = 1
mutual
def Tr.wt : Tr → Nat
 | .mk _ s _ l u => 1 + s.length + l.wt + (u.map fun x => 1 + x.2.length).sum
def Trs.wt : Trs → Nat
 | .nil => 0
 | .cons t r => t.wt + r.wt
end
structure Bulk {H : Type} (B : DataW H → Nat) (BA : List (DataW H) → Nat) : Prop where
 agg : ∀ l, B (.agg l) = BA l + 1
 slice : ∀ l r, B (.slice l r) = BA l + BA r + 1
 nil : BA [] = 0
 cons : ∀ d r, BA (d :: r) = B d + BA r
 pos : ∀ d, 1 ≤ B d
theorem Bulk.len {H : Type} {B : DataW H → Nat} {BA : List (DataW H) → Nat} (b : Bulk B BA) : ∀ l : List (DataW H), l.length ≤ BA l
 | [] => by simp
 | d :: r => by
  have h1 := b.len r
  have h2 := b.pos d
  rw [b.cons, List.length_cons]
  omega
theorem Bulk.sum {H α : Type} {B : DataW H → Nat} {BA : List (DataW H) → Nat} (b : Bulk B BA) {f : α → Nat} : ∀ (l : List α) (es : List (DataW H × List MemPlace)), l.length = es.length → (∀ (i : Nat) (x : α) (y : DataW H × List MemPlace), l[i]? = some x → es[i]? = some y → f x ≤ B y.1) → (l.map f).sum ≤ BA (es.map (·.1))
 | [], es, _, _ => by simp
 | x :: l, [], h, _ => by simp at h
 | x :: l, y :: es, h, hp => by
  have h1 := b.sum l es (by simpa using h) (fun i x y hx hy => hp (i + 1) x y (by simpa using hx) (by simpa using hy))
  have h2 := hp 0 x y rfl rfl
  simp only [List.map_cons, List.sum_cons, b.cons]
  omega
section
variable {H : Type} {enc : TypeId × Value → H} {P : Program} {E : Env} {W : World} {sp : Nat → Bool} {held : Bool} {B : DataW H → Nat} {BA : List (DataW H) → Nat}
theorem cells_get {a : Addr} {n : Nat} {c : List Value} (h : W.cells? 0 a n = some c) : c.length = n ∧ ∀ j, j < n → W.cell? (a.add j) = c[j]? := by
 unfold World.cells? at h
 rw [if_pos (Nat.zero_le _)] at h
 have h1 := mapM_some_length h
 refine ⟨by simpa using h1, fun j hj => ?_⟩
 exact mapM_some_get h j j (by simp [hj])
theorem spot_none {a : Addr} {v : Value} (h : W.cell? a = some v) : a.spot = none := by
 unfold World.cell? at h
 split at h
 ·split at h
  ·cases h
  ·rename_i h2; simpa using h2
 ·cases h
theorem cells_lit {q o n : Nat} {c : List Value} (h : ∀ j, j < n → W.cell? ((⟨q, o, none⟩ : Addr).add j) = c[j]?) (hc : c.length = n) : Cells W q o c := by
 intro j v hv
 have hj := (List.getElem?_eq_some_iff.1 hv).1
 have := h j (by omega)
 rw [Addr.add_lit] at this
 rw [this]
 exact hv
theorem trod_octs (T : TreeT P E) (b : Bulk B BA) {fuel : Nat} {c : List Value} {x : DataW H × List MemPlace} (h : DataW.trod enc P W 0 sp held fuel E.tB c = some x) : ∃ v l, c = [v] ∧ OctsB W W.heap.size v l ∧ l.length ≤ B x.1 := by
 rcases open_ints T.bytes T.u8 T.c8 h with ⟨rfl, _⟩ | ⟨a, len, cap, zs, rfl, _, hl, hm, hz, hx, hcell, hwz⟩
 ·exact ⟨_, [], rfl, .inl ⟨nilS, rfl⟩, Nat.zero_le _⟩
 have hzl : len ≤ zs.length := by rw [hz]; split <;> omega
 rcases Nat.eq_zero_or_pos len with rfl | hpos
 ·exact ⟨_, [], rfl, .inl ⟨⟨_, _, rfl⟩, rfl⟩, Nat.zero_le _⟩
 have h0 := hcell 0 (by omega)
 rw [Addr.add_zero'] at h0
 obtain ⟨q, o, s⟩ := a
 have hsn := spot_none h0
 simp only at hsn
 subst hsn
 have hlen : ((zs.take len).map fun n => UInt8.ofNat n.toNat).length = len := by simp; omega
 have hbk : len ≤ B x.1 := by
  rw [hx]
  show len ≤ B (.slice _ _)
  rw [b.slice]
  have := b.len (lits (H := H) .u8 (zs.take len))
  have e : (lits (H := H) .u8 (zs.take len)).length = len := by simp [lits]; omega
  omega
 refine ⟨_, (zs.take len).map fun n => UInt8.ofNat n.toNat, rfl, .inr ⟨q, o, cap, by rw [hlen], by rw [hlen]; exact hl, World.block_lt_of_cell? W _ h0, fun j u hu => ?_⟩, by rw [hlen]; exact hbk⟩
 have hj : j < len := by
  rcases Nat.lt_or_ge j len with h | h
  ·exact h
  ·rw [List.getElem?_eq_none (by simp; omega)] at hu; cases hu
 have hcj := hcell j (by omega)
 rw [Addr.add_lit] at hcj
 rw [hcj]
 have hb2 := range_u8 hwz j
 simp only [List.getElem?_map, List.getElem?_take, if_pos hj, List.getElem?_eq_getElem (show j < zs.length by omega), Option.map_some, Option.some.injEq] at hu
 subst hu
 have e : zs.getD j 0 = zs[j]'(by omega) := by simp [List.getD, List.getElem?_eq_getElem (show j < zs.length by omega)]
 rw [e]
 rw [List.getD_eq_getElem?_getD] at e
 rw [e] at hb2
 simp only [bv, UInt8.toNat_ofNat']
 congr 2
 omega
theorem u32_nat' {a : Int} (h : (Lit.int .u32 a).wf = true) : ∃ n : Nat, a = (n : Int) ∧ n < 4294967296 := by
 have h2 : IntKind.u32.min ≤ a ∧ a ≤ IntKind.u32.max := by
  simpa [Lit.wf] using h
 have e1 : IntKind.u32.min = 0 := by decide
 have e2 : IntKind.u32.max = 4294967295 := by decide
 rw [e1, e2] at h2
 exact ⟨a.toNat, by omega, by omega⟩
theorem trod_unk (T : TreeT P E) (b : Bulk B BA) {fuel : Nat} {c : List Value} {x : DataW H × List MemPlace} (h : DataW.trod enc P W 0 sp held fuel E.tUnk c = some x) : ∃ (k : Nat) (v : Value) (l : List UInt8), c = [.int .u32 (k : Int), v] ∧ k < 4294967296 ∧ OctsB W W.heap.size v l ∧ 1 + l.length ≤ B x.1 := by
 obtain ⟨fs, hu, hsz, hget⟩ := structB_inv T.unk
 obtain ⟨xs, n, _, hx, hcl, hxl, hf⟩ := DataW.trod_struct hu h
 rw [T.cUnk] at hcl
 obtain ⟨c0, c1, rfl⟩ : ∃ c0 c1, c = [c0, c1] := by
  match c, hcl with
  | [c0, c1], _ => exact ⟨c0, c1, rfl⟩
 obtain ⟨f0, h0, h1, h2⟩ := hget 0 _ rfl
 obtain ⟨f1, g0, g1, g2⟩ := hget 1 _ rfl
 have a0 := hf 0 f0 h0
 have a1 := hf 1 f1 g0
 rw [h1, h2, T.c32] at a0
 rw [g1, g2, T.cBytes] at a1
 rw [List.getElem?_eq_getElem (show 0 < xs.length by rw [hxl, hsz]; simp)] at a0
 rw [List.getElem?_eq_getElem (show 1 < xs.length by rw [hxl, hsz]; simp)] at a1
 obtain ⟨k, e0, _, hw⟩ := DataW.trod_int T.u32 a0
 obtain ⟨v, l, e1, ho, hbk⟩ := trod_octs T b a1
 obtain ⟨m, rfl, hm⟩ := u32_nat' hw
 have hxs : ∃ x0 x1, xs = [x0, x1] := by
  match xs, (show xs.length = 2 by rw [hxl, hsz]; rfl) with
  | [x0, x1], _ => exact ⟨x0, x1, rfl⟩
 obtain ⟨x0, x1, rfl⟩ := hxs
 have hB : 1 + l.length ≤ B x.1 := by
  rw [hx]
  show _ ≤ B (.agg _)
  simp only [List.map_cons, List.map_nil, b.agg, b.cons, b.nil]
  have h3 : l.length ≤ B x1.1 := hbk
  omega
 simp only [List.drop_zero, List.take_succ_cons, List.take_zero, List.cons.injEq, and_true] at e0
 simp only [List.drop_succ_cons, List.drop_zero, List.take_succ_cons, List.take_zero, List.cons.injEq, and_true] at e1
 subst e0 e1
 exact ⟨m, _, l, rfl, hm, ho, hB⟩
theorem list_of {α : Type} {p : Nat → α → Prop} : ∀ {n : Nat}, (∀ i, i < n → ∃ x, p i x) → ∃ l : List α, l.length = n ∧ ∀ (i : Nat) (x : α), l[i]? = some x → p i x
 | 0, _ => ⟨[], rfl, fun i x h => by simp at h⟩
 | n + 1, h => by
  obtain ⟨l, hl, hp⟩ := list_of (fun i hi => h i (by omega) : ∀ i, i < n → ∃ x, p i x)
  obtain ⟨x, hx⟩ := h n (by omega)
  refine ⟨l ++ [x], by simp [hl], fun i y hy => ?_⟩
  rcases Nat.lt_or_ge i n with hi | hi
  ·rw [List.getElem?_append_left (by omega)] at hy
   exact hp i y hy
  ·rw [List.getElem?_append_right (by omega)] at hy
   have : i - l.length = 0 := by
    rcases Nat.eq_zero_or_pos (i - l.length) with h0 | h0
    ·exact h0
    ·rw [List.getElem?_eq_none (by simp; omega)] at hy; cases hy
   rw [this] at hy
   simp only [List.getElem?_cons_zero, Option.some.injEq] at hy
   subst hy
   have : i = n := by omega
   subst this
   exact hx
theorem trod_items {t e : TypeId} {s : Nat} (ht : P.underlying t = some (.slice e)) (hc : P.cellsOf e = s) (hs : 0 < s) {fuel : Nat} {c : List Value} {x : DataW H × List MemPlace} (h : DataW.trod enc P W 0 sp held fuel t c = some x) :
  (∃ v, c = [v] ∧ NilS v) ∨ ∃ (q o len cap n : Nat) (elems rest : List (DataW H × List MemPlace)), fuel = n + 1 ∧ c = [.slice (some ⟨q, o, none⟩) len cap] ∧ len ≤ cap ∧ q < W.heap.size ∧ x.1 = .slice (elems.map (·.1)) (rest.map (·.1)) ∧ elems.length = len ∧
   ∀ i, i < len → ∃ (c : List Value) (y : DataW H × List MemPlace), elems[i]? = some y ∧ Cells W q (o + i * s) c ∧ DataW.trod enc P W 0 sp held n e c = some y := by
 rcases DataW.trod_slice ht h with ⟨rfl, _⟩ | ⟨a, len, cap, elems, rest, n, hn, rfl, hx, _, hl, _, hel, hget, _⟩
 ·exact .inl ⟨_, rfl, nilS⟩
 rw [hc] at hget
 have each : ∀ i, i < len → ∃ (c : List Value) (y : DataW H × List MemPlace), elems[i]? = some y ∧ W.cells? 0 (a.add (i * s)) s = some c ∧ DataW.trod enc P W 0 sp held n e c = some y := fun i hi => by
  have := hget i hi
  rw [List.getElem?_eq_getElem (by omega)] at this
  obtain ⟨c, h1, h2⟩ := Option.bind_eq_some_iff.1 this
  exact ⟨c, _, List.getElem?_eq_getElem (by omega), h1, h2⟩
 rcases Nat.eq_zero_or_pos len with rfl | hpos
 ·exact .inl ⟨_, rfl, _, _, rfl⟩
 obtain ⟨c0, y0, _, hc0, _⟩ := each 0 hpos
 obtain ⟨hl0, hg0⟩ := cells_get hc0
 have h00 := hg0 0 hs
 rw [Nat.zero_mul, Addr.add_zero', Addr.add_zero', List.getElem?_eq_getElem (by omega)] at h00
 obtain ⟨q, o, sp'⟩ := a
 have hsn := spot_none h00
 simp only at hsn
 subst hsn
 refine .inr ⟨q, o, len, cap, n, elems, rest, hn, rfl, hl, World.block_lt_of_cell? W _ h00, by rw [hx], hel, fun i hi => ?_⟩
 obtain ⟨c, y, h0, h1, h2⟩ := each i hi
 obtain ⟨h3, h4⟩ := cells_get h1
 rw [Addr.add_lit] at h4
 exact ⟨c, y, h0, cells_lit h4 h3, h2⟩
theorem trod_unks (T : TreeT P E) (b : Bulk B BA) {fuel : Nat} {c : List Value} {x : DataW H × List MemPlace} (h : DataW.trod enc P W 0 sp held fuel E.tK c = some x) : ∃ v u, c = [v] ∧ UnkB W W.heap.size v u ∧ (∀ x ∈ u, x.1 < 4294967296) ∧ (u.map fun x => 1 + x.2.length).sum ≤ B x.1 := by
 rcases trod_items T.unks T.cUnk (by decide) h with ⟨v, rfl, hv⟩ | ⟨q, o, len, cap, n, elems, rest, _, rfl, hl, hq, hx, hel, hit⟩
 ·exact ⟨v, [], rfl, .inl ⟨hv, rfl⟩, by simp, by simp⟩
 obtain ⟨u, hul, hu⟩ := list_of (p := fun i (x : Nat × List UInt8) => (∃ sv, x.1 < 4294967296 ∧ Cells W q (o + i * 2) [.int .u32 (x.1 : Int), sv] ∧ OctsB W W.heap.size sv x.2) ∧ ∀ y, elems[i]? = some y → 1 + x.2.length ≤ B y.1) (fun i hi => by
  obtain ⟨c, y, h0, h1, h2⟩ := hit i hi
  obtain ⟨k, v, l, rfl, hk, ho, hb⟩ := trod_unk T b h2
  refine ⟨(k, l), ⟨v, hk, h1, ho⟩, fun y' hy' => ?_⟩
  rw [h0] at hy'
  cases hy'
  exact hb)
 refine ⟨_, u, rfl, .inr ⟨q, o, cap, by rw [hul], by rw [hul]; exact hl, hq, fun i x hx => (hu i x hx).1⟩, fun x hx => ?_, ?_⟩
 ·obtain ⟨i, hi⟩ := List.mem_iff_getElem?.1 hx
  obtain ⟨⟨_, h1, _⟩, _⟩ := hu i x hi
  exact h1
 ·have := b.sum (f := fun (x : Nat × List UInt8) => 1 + x.2.length) u elems (by omega) (fun i x y h1 h2 => (hu i x h1).2 y h2)
  rw [hx, b.slice]
  omega
def Trs.ofL : List Tr → Trs
 | [] => .nil
 | t :: l => .cons t (Trs.ofL l)
theorem Trs.ofL_len : ∀ l : List Tr, (Trs.ofL l).len = l.length
 | [] => rfl
 | t :: l => by simp [Trs.ofL, Trs.len, Trs.ofL_len l]
theorem Trs.ofL_rep {U q : Nat} : ∀ (l : List Tr) (o : Nat), (∀ (i : Nat) (t : Tr), l[i]? = some t → ∃ c, Cells W q (o + i * 5) c ∧ t.Rep W U c) → (Trs.ofL l).Rep W U q o
 | [], _, _ => trivial
 | t :: l, o, h => by
  obtain ⟨c, h1, h2⟩ := h 0 t rfl
  refine ⟨⟨c, by simpa using h1, h2⟩, Trs.ofL_rep l (o + 5) (fun i t ht => ?_)⟩
  obtain ⟨c, h3, h4⟩ := h (i + 1) t (by simpa using ht)
  exact ⟨c, by rwa [show o + 5 + i * 5 = o + (i + 1) * 5 by omega], h4⟩
theorem Trs.ofL_wt : ∀ l : List Tr, (Trs.ofL l).wt = (l.map Tr.wt).sum
 | [] => rfl
 | t :: l => by simp [Trs.ofL, Trs.wt, Trs.ofL_wt l]
theorem Trs.ofL_tok : ∀ (l : List Tr), (∀ t ∈ l, t.tok) → (Trs.ofL l).tok
 | [], _ => trivial
 | t :: l, h => ⟨h t (by simp), Trs.ofL_tok l (fun x hx => h x (by simp [hx]))⟩
theorem trod_tree (T : TreeT P E) (b : Bulk B BA) : ∀ (fuel : Nat) (c : List Value) (x : DataW H × List MemPlace), DataW.trod enc P W 0 sp held fuel E.tT c = some x → ∃ t : Tr, t.Rep W W.heap.size c ∧ t.tok ∧ t.wt ≤ B x.1 := by
 intro fuel
 induction fuel using Nat.strongRecOn with
 | ind fuel ih =>
  intro c x h
  obtain ⟨fs, hu, hsz, hget⟩ := structB_inv T.tree
  obtain ⟨xs, n, hfn, hx, hcl, hxl, hf⟩ := DataW.trod_struct hu h
  rw [T.cTree] at hcl
  obtain ⟨c0, c1, c2, c3, c4, rfl⟩ : ∃ c0 c1 c2 c3 c4, c = [c0, c1, c2, c3, c4] := by
   match c, hcl with
   | [c0, c1, c2, c3, c4], _ => exact ⟨c0, c1, c2, c3, c4, rfl⟩
  obtain ⟨f0, h00, h01, h02⟩ := hget 0 _ rfl
  obtain ⟨f1, h10, h11, h12⟩ := hget 1 _ rfl
  obtain ⟨f2, h20, h21, h22⟩ := hget 2 _ rfl
  obtain ⟨f3, h30, h31, h32⟩ := hget 3 _ rfl
  obtain ⟨f4, h40, h41, h42⟩ := hget 4 _ rfl
  have a0 := hf 0 f0 h00
  have a1 := hf 1 f1 h10
  have a2 := hf 2 f2 h20
  have a3 := hf 3 f3 h30
  have a4 := hf 4 f4 h40
  rw [h01, h02, T.c64, List.getElem?_eq_getElem (show 0 < xs.length by rw [hxl, hsz]; simp)] at a0
  rw [h11, h12, T.cBytes, List.getElem?_eq_getElem (show 1 < xs.length by rw [hxl, hsz]; simp)] at a1
  rw [h21, h22, T.cBool, List.getElem?_eq_getElem (show 2 < xs.length by rw [hxl, hsz]; simp)] at a2
  rw [h31, h32, T.cTrees, List.getElem?_eq_getElem (show 3 < xs.length by rw [hxl, hsz]; simp)] at a3
  rw [h41, h42, T.cUnks, List.getElem?_eq_getElem (show 4 < xs.length by rw [hxl, hsz]; simp)] at a4
  obtain ⟨k, e0, _, _⟩ := DataW.trod_int T.i64 a0
  obtain ⟨sv, s, e1, hs, hsB⟩ := trod_octs T b a1
  obtain ⟨nb, e2, _⟩ := DataW.trod_bool T.bool a2
  obtain ⟨uv, u, e4, hun, htok, huB⟩ := trod_unks T b a4
  have hxs : ∃ x0 x1 x2 x3 x4, xs = [x0, x1, x2, x3, x4] := by
   match xs, (show xs.length = 5 by rw [hxl, hsz]; rfl) with
   | [x0, x1, x2, x3, x4], _ => exact ⟨x0, x1, x2, x3, x4, rfl⟩
  obtain ⟨x0, x1, x2, x3, x4, rfl⟩ := hxs
  have hsB' : s.length ≤ B x1.1 := hsB
  have huB' : (u.map fun x => 1 + x.2.length).sum ≤ B x4.1 := huB
  have hxB : B x0.1 + (B x1.1 + (B x2.1 + (B x3.1 + B x4.1))) + 1 = B x.1 := by
   rw [hx]
   show _ = B (.agg _)
   simp only [List.map_cons, List.map_nil, b.agg, b.cons, b.nil, Nat.add_zero]
  simp only [List.drop_zero, List.drop_succ_cons, List.take_succ_cons, List.take_zero, List.cons.injEq, and_true] at e0 e1 e2 e4
  subst e0 e1 e2 e4
  simp only [List.drop_zero, List.drop_succ_cons, List.take_succ_cons, List.take_zero] at a3
  rcases trod_items T.trees T.cTree (by decide) a3 with ⟨v, e3, hv⟩ | ⟨q, o, len, cap, m, elems, rest, hm, e3, hl, hq, hx3, hel, hit⟩
  ·simp only [List.cons.injEq, and_true] at e3
   subst e3
   refine ⟨.mk k s nb .nil u, ⟨c1, c3, c4, rfl, hs, hun, .inl ⟨hv, rfl⟩⟩, ⟨htok, trivial⟩, ?_⟩
   simp only [Tr.wt, Trs.wt]
   omega
  ·simp only [List.cons.injEq, and_true] at e3
   subst e3
   obtain ⟨l, hll, hlt⟩ := list_of (p := fun i (t : Tr) => (∃ c, Cells W q (o + i * 5) c ∧ t.Rep W W.heap.size c) ∧ t.tok ∧ ∀ y, elems[i]? = some y → t.wt ≤ B y.1) (fun i hi => by
    obtain ⟨c, y, h0, h1, h2⟩ := hit i hi
    obtain ⟨t, h3, h4, h5⟩ := ih m (by omega) c y h2
    refine ⟨t, ⟨c, h1, h3⟩, h4, fun y' hy' => ?_⟩
    rw [h0] at hy'
    cases hy'
    exact h5)
   refine ⟨.mk k s nb (Trs.ofL l) u, ⟨c1, _, c4, rfl, hs, hun, .inr ⟨q, o, cap, by rw [Trs.ofL_len, hll], by rw [Trs.ofL_len, hll]; exact hl, hq, Trs.ofL_rep l o (fun i t ht => (hlt i t ht).1)⟩⟩, ⟨htok, Trs.ofL_tok l (fun t ht => ?_)⟩, ?_⟩
   ·obtain ⟨i, hi⟩ := List.mem_iff_getElem?.1 ht
    exact (hlt i t hi).2.1
   ·have h6 := b.sum (f := Tr.wt) l elems (by omega) (fun i x y h1 h2 => (hlt i x h1).2.2 y h2)
    have h7 : BA (elems.map (·.1)) + 1 ≤ B x3.1 := by
     have hx3' : x3.1 = .slice (elems.map (·.1)) (rest.map (·.1)) := hx3
     rw [hx3', b.slice]
     omega
    simp only [Tr.wt, Trs.ofL_wt]
    omega
end
end Go.Km
namespace Go.Km
open Go Go.RowKit Go.ChangeShapes Go.WideShapes Go.ChangeAt
theorem uvF_max : ∀ (f n : Nat), (uvF f n).length ≤ f + 1
 | 0, n => by simp [uvF]
 | f + 1, n => by
  have := uvF_max f (n / 128)
  unfold uvF
  split
  ·simp
  ·simp only [List.length_cons]; omega
theorem uvar_max (n : Nat) : (Go.Km.uvar n).length ≤ 10 := uvF_max 9 n
def Scal.width : Scal → Nat
 | .bool | .i8 => 1
 | .i16 | .u16 => 2
 | .i32 => 4
 | .i64 | .f64 => 8
theorem Scal.wr_width (s : Scal) (n : Int) : (s.wr n).length = s.width := by
 cases s <;> simp [Scal.wr, Scal.width, be_len]
mutual
def Ty.cost : Ty → Nat
 | .scal s _ | .named s _ _ => s.width
 | .uuid => 16
 | .text | .ntext | .ntextFrom _ | .bytes | .nbytes => 11
 | .list _ _ e => 10 + e.cost
 | .struct _ _ _ fs => fs.cost
 | .nstruct _ _ _ _ _ => 1
def Flds.cost : Flds → Nat
 | .nil _ => 20
 | .cons _ ty r => ty.cost + r.cost
end
theorem wrStr_max (fx : Bool) (l : List UInt8) : (wrStr fx l).length ≤ 10 + l.length := by
 have := uvar_max (l.length + 1)
 cases fx <;> simp [wrStr, be_len] <;> omega
theorem wrBytes_max (fx : Bool) (l : List UInt8) : (wrBytes fx l).length ≤ 10 + l.length := by
 have := uvar_max (l.length + 1)
 cases fx <;> simp [wrBytes, be_len] <;> omega
theorem wrLen_max (fx : Bool) (n : Nat) : (wrLen fx n).length ≤ 10 := by
 have := uvar_max (n + 1)
 cases fx <;> simp [wrLen, be_len] <;> omega
theorem wrNull_max (fx : Bool) : (wrNull fx).length ≤ 10 := by
 cases fx <;> simp [wrNull, be_len]
theorem Tr.wt_pos (t : Tr) : 1 ≤ t.wt := by
 cases t; simp only [Tr.wt]; omega
theorem Tr.wt_s (t : Tr) : 1 + t.s.length ≤ t.wt := by
 cases t; simp only [Tr.wt, Tr.s]; omega
theorem Trs.wt_get : ∀ {l : Trs} {i : Nat} {t : Tr}, l.get i = some t → t.wt ≤ l.wt
 | .nil, _, _, h => by cases h
 | .cons t r, 0, u, e => by
  simp only [Trs.get, Option.some.injEq] at e
  subst e
  simp only [Trs.wt]; omega
 | .cons t r, i + 1, u, e => by
  have := Trs.wt_get (l := r) e
  simp only [Trs.wt]; omega
theorem Tr.wt_at (t : Tr) (i : Nat) : (t.at i).wt ≤ t.wt := by
 have hp := t.wt_pos
 cases t with
 | mk n s nl l u =>
  simp only [Tr.at]
  cases hg : l.get i with
  | none => exact hp
  | some x =>
   have := Trs.wt_get hg
   simp only [Option.getD_some, Tr.wt]
   omega
theorem Trs.wt_toL : ∀ l : Trs, (l.toL.map Tr.wt).sum = l.wt
 | .nil => rfl
 | .cons t r => by simp [Trs.toL, Trs.wt, Trs.wt_toL r]
theorem Tr.wt_l (t : Tr) : 1 + (t.l.map Tr.wt).sum ≤ t.wt := by
 cases t with
 | mk n s nl l u =>
  simp only [Tr.l, Trs.wt_toL, Tr.wt]
  omega
theorem sum_take (f : Tr → Nat) : ∀ (k : Nat) (l : List Tr), ((l.take k).map f).sum ≤ (l.map f).sum
 | 0, l => by simp
 | k + 1, [] => by simp
 | k + 1, x :: l => by
  have := sum_take f k l
  simp only [List.take_succ_cons, List.map_cons, List.sum_cons]
  omega
theorem flat_cost {g : Tr → List UInt8} {c : Nat} : ∀ (l : List Tr), (∀ t ∈ l, (g t).length ≤ c * t.wt) → ((l.map g).flatten).length ≤ c * (l.map Tr.wt).sum
 | [], _ => by simp
 | t :: l, h => by
  have h1 := h t (by simp)
  have h2 := flat_cost l (fun x hx => h x (by simp [hx]))
  simp only [List.map_cons, List.flatten_cons, List.length_append, List.sum_cons, Nat.mul_add]
  omega
def tagWt (u : List (Nat × List UInt8)) : Nat := (u.map fun x => 1 + x.2.length).sum
theorem tagWt_cons (x : Nat × List UInt8) (l : List (Nat × List UInt8)) : tagWt (x :: l) = 1 + x.2.length + tagWt l := by simp [tagWt]
theorem insU_wt (x : Nat × List UInt8) : ∀ l, tagWt (insU x l) ≤ 1 + x.2.length + tagWt l
 | [] => by simp [insU, tagWt]
 | z :: r => by
  have := insU_wt x r
  unfold insU
  split
  ·rw [tagWt_cons, tagWt_cons]; omega
  ·split
   ·rw [tagWt_cons]; omega
   ·rw [tagWt_cons, tagWt_cons]; omega
theorem unk_wt (least : Nat) : ∀ (u acc : List (Nat × List UInt8)), tagWt (u.foldl (fun l x => if x.1 < least then l else insU x l) acc) ≤ tagWt acc + tagWt u
 | [], acc => by simp [tagWt]
 | x :: u, acc => by
  simp only [List.foldl_cons]
  have h1 := unk_wt least u (if x.1 < least then acc else insU x acc)
  have h2 : tagWt (if x.1 < least then acc else insU x acc) ≤ 1 + x.2.length + tagWt acc := by
   split
   ·omega
   ·exact insU_wt x acc
  rw [tagWt_cons]
  omega
theorem tagWt_take : ∀ (k : Nat) (u : List (Nat × List UInt8)), tagWt (u.take k) ≤ tagWt u
 | 0, u => by simp [tagWt]
 | k + 1, [] => by simp [tagWt]
 | k + 1, x :: u => by
  have := tagWt_take k u
  rw [List.take_succ_cons, tagWt_cons, tagWt_cons]
  omega
theorem tags_cost : ∀ (l : List (Nat × List UInt8)), ((l.map wrTag).flatten).length ≤ 20 * tagWt l
 | [] => by simp [tagWt]
 | x :: l => by
  have h1 := tags_cost l
  have h2 := uvar_max x.1
  have h3 := uvar_max x.2.length
  simp only [List.map_cons, List.flatten_cons, List.length_append, wrTag, tagWt_cons]
  omega
theorem tagWt_map : ∀ (u : List (Nat × List UInt8)), tagWt (u.map fun x => (x.1, x.2.take 32767)) ≤ tagWt u
 | [] => by simp [tagWt]
 | x :: u => by
  have h1 := tagWt_map u
  have h2 : (x.2.take 32767).length ≤ x.2.length := by rw [List.length_take]; omega
  rw [List.map_cons, tagWt_cons, tagWt_cons]
  show 1 + (x.2.take 32767).length + _ ≤ _
  omega
theorem wrTags_cost (fx : Bool) (t : Tr) : (if fx then wrTags (tagsD fx t) else []).length ≤ 20 * t.wt := by
 cases fx with
 | false => simp
 | true =>
  simp only [if_true]
  cases t with
  | mk n s nl l u =>
   have h1 := uvar_max (tagsD true (.mk n s nl l u)).length
   have h2 := tags_cost (tagsD true (.mk n s nl l u))
   have h3 : tagWt (tagsD true (.mk n s nl l u)) ≤ tagWt u := by
    have e : tagsD true (.mk n s nl l u) = (unk 0 u).map (fun x => (x.1, x.2.take 32767)) := rfl
    rw [e]
    have h4 := unk_wt 0 (u.take 32767) []
    have h5 := tagWt_take 32767 u
    have h6 := tagWt_map (unk 0 u)
    have h7 : tagWt ([] : List (Nat × List UInt8)) = 0 := rfl
    have h8 : tagWt (unk 0 u) = tagWt ((u.take 32767).foldl (fun l x => if x.1 < 0 then l else insU x l) []) := rfl
    omega
   have h9 : (Tr.mk n s nl l u).wt = 1 + s.length + l.wt + tagWt u := by simp [Tr.wt, tagWt]
   simp only [wrTags, List.length_append]
   omega
mutual
theorem Ty.wr_cost (fx : Bool) (ver : Nat) : ∀ (ty : Ty) (kind nul el : Int) (sub : SFs) (nl : Bool) (t : Tr), ty.agr kind nul el sub = true → (ty.wr fx ver (ty.toD fx ver sub nl t)).length ≤ ty.cost * t.wt
 | .scal s _, kind, nul, el, sub, nl, t, h | .named s _ _, kind, nul, el, sub, nl, t, h => by
  simp only [Ty.toD, Ty.wr, Ty.cost, s.wr_width]
  exact Nat.le_mul_of_pos_right _ t.wt_pos
 | .uuid, kind, nul, el, sub, nl, t, h => by
  have := t.wt_pos
  simp only [Ty.toD, Ty.wr, Ty.cost, List.length_append, List.length_take, List.length_replicate]
  omega
 | .text, kind, nul, el, sub, nl, t, h => by
  have h1 := t.wt_s
  simp only [Ty.toD, Ty.wr, Ty.cost]
  have h2 := wrStr_max fx (if nl = true then [] else t.s.take 32767)
  have h3 : (if nl = true then [] else t.s.take 32767).length ≤ t.s.length := by
   split
   ·simp
   ·rw [List.length_take]; omega
  omega
 | .bytes, kind, nul, el, sub, nl, t, h => by
  have h1 := t.wt_s
  simp only [Ty.toD, Ty.wr, Ty.cost, Option.getD_some]
  have h2 := wrBytes_max fx (if nl = true then [] else t.s.take 32767)
  have h3 : (if nl = true then [] else t.s.take 32767).length ≤ t.s.length := by
   split
   ·simp
   ·rw [List.length_take]; omega
  omega
 | .ntext, kind, nul, el, sub, nl, t, h => by
  have h1 := t.wt_s
  simp only [Ty.toD, Ty.wr, Ty.cost]
  cases nl with
  | true => cases fx <;> simp [wrNStr, be_len] <;> omega
  | false =>
   have h2 := wrStr_max fx (t.s.take 32767)
   have h3 : (t.s.take 32767).length ≤ t.s.length := by rw [List.length_take]; omega
   simp only [Bool.false_eq_true, if_false, wrNStr]
   omega
 | .nbytes, kind, nul, el, sub, nl, t, h => by
  have h1 := t.wt_s
  simp only [Ty.toD, Ty.wr, Ty.cost]
  cases nl with
  | true => cases fx <;> simp [wrNBytes, be_len] <;> omega
  | false =>
   have h2 := wrBytes_max fx (t.s.take 32767)
   have h3 : (t.s.take 32767).length ≤ t.s.length := by rw [List.length_take]; omega
   simp only [Bool.false_eq_true, if_false, wrNBytes]
   omega
 | .ntextFrom N, kind, nul, el, sub, nl, t, h => by
  have h1 := t.wt_s
  simp only [Ty.toD, Ty.wr, Ty.cost]
  have h0 := wrStr_max fx []
  simp only [List.length_nil] at h0
  cases nl with
  | true =>
   simp only [if_true, Option.getD_none]
   split
   ·omega
   ·cases fx <;> simp [wrNStr, be_len] <;> omega
  | false =>
   have h2 := wrStr_max fx (t.s.take 32767)
   have h3 : (t.s.take 32767).length ≤ t.s.length := by rw [List.length_take]; omega
   simp only [Bool.false_eq_true, if_false, wrNStr, Option.getD_some]
   split <;> omega
 | .list TS null e, kind, nul, el, sub, nl, t, h => by
  simp only [Ty.agr, Bool.and_eq_true, beq_iff_eq, bne_iff_ne, ne_eq] at h
  obtain ⟨⟨⟨rfl, hnul⟩, hel⟩, he⟩ := h
  have h1 := t.wt_l
  have hp := t.wt_pos
  have hc : 10 + e.cost * 0 ≤ (10 + e.cost) * t.wt := by
   have := Nat.mul_le_mul (Nat.le_add_right 10 e.cost) hp
   omega
  simp only [Ty.toD, Ty.cost]
  split
  ·simp only [Ty.wr]
   have h2 := wrNull_max fx
   have h3 := wrLen_max fx 0
   split <;> omega
  ·simp only [Ty.wr, List.length_map, List.map_map, List.length_append]
   have h2 := wrLen_max fx (t.l.take 32767).length
   have h3 := flat_cost (g := (fun d => e.wr fx ver d) ∘ fun t => e.toD fx ver sub false t) (c := e.cost) (t.l.take 32767) (fun x _ => Ty.wr_cost fx ver e el (-1) 0 sub false x he)
   have h4 := Nat.mul_le_mul (Nat.le_refl e.cost) (Nat.le_trans (sum_take Tr.wt 32767 t.l) (show (t.l.map Tr.wt).sum ≤ t.wt by omega))
   rw [Nat.add_mul]
   omega
 | .nstruct _ _ _ _ _, kind, nul, el, sub, nl, t, h => by simp [Ty.agr] at h
 | .struct TP TU F fs, kind, nul, el, sub, nl, t, h => by
  simp only [Ty.agr, Bool.and_eq_true, beq_iff_eq, decide_eq_true_eq] at h
  simp only [Ty.toD, Ty.wr, Ty.cost]
  exact Flds.wr_cost fx ver fs sub 0 t h.2
theorem Flds.wr_cost (fx : Bool) (ver : Nat) : ∀ (fs : Flds) (sub : SFs) (i : Nat) (t : Tr), fs.agr sub = true → (fs.wr fx ver (fs.toD fx ver sub i t) (tagsD fx t)).length ≤ fs.cost * t.wt
 | .nil _, .nil, i, t, h => by
  simp only [Flds.wr, Flds.cost]
  exact wrTags_cost fx t
 | .nil _, .cons _ _, i, t, h => by simp [Flds.agr] at h
 | .cons _ _ _, .nil, i, t, h => by simp [Flds.agr] at h
 | .cons v ty r, .cons (.mk kind fr to nul tag df el sub) rs, i, t, h => by
  simp only [Flds.agr, Bool.and_eq_true, decide_eq_true_eq] at h
  have h1 := Flds.wr_cost fx ver r rs (i + 1) t h.2
  simp only [Flds.toD, Flds.wr, Flds.cost, List.length_append, Nat.add_mul]
  cases hv : v.has ver with
  | false => simp only [Bool.false_eq_true, if_false, List.length_nil]; omega
  | true =>
   simp only [if_true]
   have h2 := Ty.wr_cost fx ver ty kind nul el sub ((SF.mk kind fr to nul tag df el sub).isNull ver (t.at i)) (t.at i) h.1.2
   have h3 := Nat.mul_le_mul (Nat.le_refl ty.cost) (Tr.wt_at t i)
   have h4 : (SF.mk kind fr to nul tag df el sub).subs = sub := rfl
   rw [h4]
   omega
end
theorem part_big {fx : Bool} {ver : Nat} {fs : Flds} {sf : SFs} (h : fs.agr sf = true) (hc : fs.cost ≤ 2047) {t : Tr} (ht : t.wt ≤ 1048576) : (sf.part ver fx t).length ≤ big := by
 rw [part_wr h]
 refine Nat.le_trans (Flds.wr_cost fx ver fs sf 0 t h) (Nat.le_trans (Nat.mul_le_mul hc ht) ?_)
 unfold big
 omega
theorem tags_small {t : Tr} (ht : t.wt ≤ 1048576) : ∀ n s nl l u, t = .mk n s nl l u → u.length ≤ 9223372036854775807 := by
 rintro n s nl l u rfl
 have h : ∀ u : List (Nat × List UInt8), u.length ≤ (u.map fun x => 1 + x.2.length).sum := fun u => by
  induction u with
  | nil => simp
  | cons x u ih => simp only [List.length_cons, List.map_cons, List.sum_cons]; omega
 have := h u
 simp only [Tr.wt] at ht
 omega
theorem u16_nat' {a : Int} (h : (Lit.int .u16 a).wf = true) : ∃ n : Nat, a = (n : Int) ∧ n < 65536 := by
 have h2 : IntKind.u16.min ≤ a ∧ a ≤ IntKind.u16.max := by
  simpa [Lit.wf] using h
 have e1 : IntKind.u16.min = 0 := by decide
 have e2 : IntKind.u16.max = 65535 := by decide
 rw [e1, e2] at h2
 exact ⟨a.toNat, by omega, by omega⟩
section
variable {H : Type} {enc : TypeId × Value → H} {P : Program} {E : Env} {B : DataW H → Nat} {BA : List (DataW H) → Nat}
theorem open_tree (T : TreeT P E) (b : Bulk B BA) {W : World} {base : Nat} {v : Value} {d : DataW H} {p : List MemPlace} (hval : Value.okWide P W .any base E.tT v) (h : DataW.Trod enc P W 0 (fun _ => true) true E.tT v d p) :
  ∃ (ts : List Value) (t : Tr), v = .agg ts.toArray ∧ t.Rep W W.heap.size ts ∧ t.tok ∧ t.wt ≤ B d := by
 obtain ⟨fs, hu, _⟩ := structB_inv T.tree
 unfold Value.okWide at hval
 rw [hu] at hval
 obtain ⟨cs, rfl, _⟩ := hval
 obtain ⟨fuel, hf⟩ := h
 obtain ⟨t, h1, h2, h3⟩ := trod_tree T b fuel _ _ hf
 exact ⟨cs.toList, t, by simp, h1, h2, h3⟩
theorem cutRow (T : TreeT P E) (b : Bulk B BA) {f : Func} {L : FuncId} {s : ChangeSpec} {apart : Bool} {tb : TypeId} (hp : f.params = #[E.tU8, E.tT, E.tU16]) (hrt : f.resultTypes = #[tb]) (hub : P.underlying tb = some .bool) (hvars : s.vars = []) (hfn : ∀ d1 d2 d3 : DataW H, s.fn H [d1, d2, d3] = { results := [.lit (.bool true)], args := [d1, d2, d3] })
  (hl : laidOutB P = true) (hr8 : P.readableRec E.tU8 = true ∧ E.tU8 < P.types.size) (hrT : P.readableRec E.tT = true ∧ E.tT < P.types.size) (hr16 : P.readableRec E.tU16 = true ∧ E.tU16 < P.types.size) (hu16 : P.underlying E.tU16 = some (.int .u16))
  {W : World} {base : Nat} {args : Array Value} {ds gs : List (DataW H)} {before : List MemPlace} (hbk : BA (ds ++ gs) ≤ 1048576)
  (walk : ∀ n k : Nat, n < 256 → k < 65536 → ∀ (t : Tr) (ts : List Value), t.Rep W W.heap.size ts → t.tok → t.wt ≤ 1048576 → CallsV P L #[.int .u8 n, .agg ts.toArray, .int .u16 k] W fun v w' => v = .bool true ∧ Below W.heap.size W w')
  (hval : ∀ (j : Nat) t v, f.params[j]? = some t → args[j]? = some v → Value.okWide P W .any base t v) (hW : DataW.Whole enc P f.params.toList s.vars apart W args.toList ds gs before) :
  Calls P L args W fun e W' => ∃ v, e = .returned v ∧ s.post enc P f apart true false false W args v W' := by
 have hW' := hW
 obtain ⟨p, q, hA, hV, rfl, _, _⟩ := hW
 rw [hp] at hA hval
 obtain ⟨v0, vs0, d0, ds0, p0, q0, hargs, rfl, rfl, h0, r0⟩ := trodAll_cons hA
 obtain ⟨v1, vs1, d1, ds1, p1, q1, rfl, rfl, rfl, h1, r1⟩ := trodAll_cons r0
 obtain ⟨v2, vs2, d2, ds2, p2, q2, rfl, rfl, rfl, h2, r2⟩ := trodAll_cons r1
 obtain ⟨rfl, rfl, rfl⟩ := trodAll_nil r2
 obtain rfl : args = #[v0, v1, v2] := by cases args; simp_all
 obtain ⟨a, rfl, rfl, rfl, wa⟩ := open_int T.u8 (hval 0 _ v0 rfl rfl) h0
 obtain ⟨ts, t, rfl, hr, htk, hwt⟩ := open_tree T b (hval 1 _ v1 rfl rfl) h1
 obtain ⟨c, rfl, rfl, rfl, wc⟩ := open_int hu16 (hval 2 _ v2 rfl rfl) h2
 obtain ⟨n, rfl, hn⟩ := u8_nat' wa
 obtain ⟨k, rfl, hk⟩ := u16_nat' wc
 have hd : B d1 ≤ 1048576 := by
  simp only [List.cons_append, List.nil_append, b.cons] at hbk
  omega
 refine (walk n k hn hk t ts hr htk (Nat.le_trans hwt hd)).2.mono ?_
 rintro e W' ⟨v, rfl, rfl, hb⟩
 refine ⟨_, rfl, boolPost hW' hvars hl ?_ hb hrt hub (hfn _ _ _)⟩
 rw [hp]
 intro t ht
 simp only [List.mem_cons, List.not_mem_nil, or_false] at ht
 rcases ht with rfl | rfl | rfl
 ·exact hr8
 ·exact hrT
 ·exact hr16
end
end Go.Km
namespace Go.Km
open Go Go.RowKit
theorem SubsC.nil {P : Program} : SubsC P [] := fun f h => by simp at h
theorem SubsC.none {P : Program} {f : SF} {l : List FE} (h : f.sub = .nil) (r : SubsC P l) : SubsC P ((f, none) :: l) := by
 intro x hx
 rcases List.mem_cons.1 hx with rfl | hx
 ·exact h
 ·exact r x hx
theorem SubsC.some {P : Program} {f : SF} {g : FuncId} {l : List FE} (h : LitC P g f.sub) (r : SubsC P l) : SubsC P ((f, some g) :: l) := by
 intro x hx
 rcases List.mem_cons.1 hx with rfl | hx
 ·exact h
 ·exact r x hx
end Go.Km
