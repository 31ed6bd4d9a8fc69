/- spec.value -/
import Derived.Test.YtnbhpeaapbpaeaaKmP1
set_option linter.unusedSimpArgs false
set_option linter.unusedVariables false
namespace Go.Km
open Go Go.RowKit
attribute [local irreducible] vc runOps runG runS runD

/-- The texts of the spec's functions. -/
structure STexts (P : Program) (E : Env) : Prop where
  has : Text P E.sHas 2 20 #[.tmp 4] (c_sHas E)
  null : Text P E.sNull 3 20 #[.tmp 6] (c_sNull E)
  whole : Text P E.sWhole 1 8 #[.tmp 2] (c_sWhole E)
  things : Text P E.sThings 1 8 #[.tmp 2] (c_sThings E)
  at' : Text P E.sAt 2 16 #[.cell 4 E.tTree] (c_sAt E)
  uvar : Text P E.sUvar 1 20 #[.tmp 2] (c_sUvar E)
  fixed : Text P E.sFixed 2 22 #[.tmp 4] (c_sFixed E)
  width : Text P E.sWidth 1 11 #[.tmp 2] (c_sWidth E)
  counted : Text P E.sCounted 4 28 #[.tmp 8] (c_sCounted E)
  value : Text P E.sValue 6 70 #[.tmp 12] (c_sValue E)
  field : Text P E.sField 4 76 #[.tmp 8] (c_sField E)
  known : Text P E.sKnown 1 23 #[.tmp 2] (c_sKnown E)
  usual : Text P E.sUsual 2 91 #[.tmp 4] (c_sUsual E)
  unknown : Text P E.sUnknown 2 85 #[.tmp 4] (c_sUnknown E)
  part : Text P E.sPart 4 132 #[.tmp 8] (c_sPart E)
  dflt : Text P E.sDefault 1 35 #[.cell 2 E.tTree] (c_sDefault E)
  write : Text P E.sWrite 3 21 #[.tmp 6] (c_sWrite E)
  same : Text P E.sSame 2 26 #[.tmp 4] (c_sSame E)
  mixed : P.follows .mixedOrders = true

/-- A slice of fields below U. -/
def SlF (w : World) (U : Nat) (v : Value) (fs : SFs) : Prop :=
  (v = .slice none 0 0 ∧ fs.len = 0) ∨ ∃ q o cap, v = .slice (some ⟨q, o, none⟩) fs.len cap ∧ fs.len ≤ cap ∧ q < U ∧ fs.Rep w U q o
theorem SlF.below {w w' : World} {U : Nat} {v : Value} {fs : SFs} (h : SlF w U v fs) (hw : Below U w w') : SlF w' U v fs := by
  rcases h with h | ⟨q, o, cap, h1, h2, h3, h4⟩
  · exact .inl h
  · exact .inr ⟨q, o, cap, h1, h2, h3, h4.below hw h3⟩
theorem OctsB.mono {W : World} {B B' : Nat} {v : Value} {l : List UInt8} (h : OctsB W B v l) (hB : B ≤ B') : OctsB W B' v l := by
  rcases h with h | ⟨q, o, cap, h1, h2, h3, h4⟩
  · exact .inl h
  · exact .inr ⟨q, o, cap, h1, h2, by omega, h4⟩
theorem UnkB.mono {W : World} {B B' : Nat} {v : Value} {u : List (Nat × List UInt8)} (h : UnkB W B v u) (hB : B ≤ B') : UnkB W B' v u := by
  rcases h with h | ⟨q, o, cap, h1, h2, h3, h4⟩
  · exact .inl h
  · refine .inr ⟨q, o, cap, h1, h2, by omega, fun i x hx => ?_⟩
    obtain ⟨sv, h0, h5, h6⟩ := h4 i x hx
    exact ⟨sv, h0, h5, h6.mono hB⟩
mutual
theorem Tr.Rep.mono {w : World} {U U' : Nat} (hU : U ≤ U') : ∀ {t : Tr} {cs : List Value}, t.Rep w U cs → t.Rep w U' cs
  | .mk n s nl l u, cs, ⟨sv, lv, uv, h1, h2, h3, h4⟩ => by
    refine ⟨sv, lv, uv, h1, h2.mono hU, h3.mono hU, ?_⟩
    rcases h4 with h4 | ⟨q, o, cap, h5, h6, h7, h8⟩
    · exact .inl h4
    · exact .inr ⟨q, o, cap, h5, h6, by omega, Trs.Rep.mono hU h8⟩
theorem Trs.Rep.mono {w : World} {U U' q : Nat} (hU : U ≤ U') : ∀ {l : Trs} {o : Nat}, l.Rep w U q o → l.Rep w U' q o
  | .nil, _, _ => trivial
  | .cons t r, o, ⟨⟨c, h1, h2⟩, h3⟩ => ⟨⟨c, h1, Tr.Rep.mono hU h2⟩, Trs.Rep.mono hU h3⟩
end
mutual
theorem SF.Rep.mono {w : World} {U U' : Nat} (hU : U ≤ U') : ∀ {t : SF} {cs : List Value}, t.Rep w U cs → t.Rep w U' cs
  | .mk kind fr to nul tag df el sub, cs, ⟨sv, h1, h4⟩ => by
    refine ⟨sv, h1, ?_⟩
    rcases h4 with h4 | ⟨q, o, cap, h5, h6, h7, h8⟩
    · exact .inl h4
    · exact .inr ⟨q, o, cap, h5, h6, by omega, SFs.Rep.mono hU h8⟩
theorem SFs.Rep.mono {w : World} {U U' q : Nat} (hU : U ≤ U') : ∀ {l : SFs} {o : Nat}, l.Rep w U q o → l.Rep w U' q o
  | .nil, _, _ => trivial
  | .cons t r, o, ⟨⟨c, h1, h2⟩, h3⟩ => ⟨⟨c, h1, SF.Rep.mono hU h2⟩, SFs.Rep.mono hU h3⟩
end
theorem SlF.mono {w : World} {U U' : Nat} {v : Value} {fs : SFs} (h : SlF w U v fs) (hU : U ≤ U') : SlF w U' v fs := by
  rcases h with h | ⟨q, o, cap, h1, h2, h3, h4⟩
  · exact .inl h
  · exact .inr ⟨q, o, cap, h1, h2, by omega, h4.mono hU⟩
/-- What spec.part must give of these fields. -/
def PartC (P : Program) (E : Env) (ver : Int) (fx : Bool) (fs : SFs) : Prop :=
  ∀ (U : Nat) (w : World) (sv : Value) (t : Tr) (ts : List Value), U ≤ w.heap.size → SlF w U sv fs → t.Rep w U ts → (fs.part ver fx t).length ≤ big →
    Gives P E E.sPart U #[sv, .int .i64 ver, .bool fx, .agg ts.toArray] (fs.part ver fx t) w

def cText (E : Env) (X t : Nat) (size : Int) : Code :=
  sq [(rg [⟨some t, .fieldAddr E.tTree (.tmp 11) 1, 0, "", #[], none⟩,
        ⟨some (t + 1), .load E.tBytes (.tmp t), E.tBytes, "", #[], none⟩,
        ⟨some (t + 2), .call { callee := .value (.func E.sWhole), args := #[(.tmp (t + 1))], argTypes := #[E.tBytes] }, E.tBytes, "", #[], none⟩,
        ⟨some X, .assign (.tmp (t + 2)), E.tBytes, "", #[], none⟩]),
      (sq [(rg [⟨some (t + 3), .move (.tmp 2), E.tBool, "", #[], none⟩]),
        (.cond (.tmp (t + 3))
          (rg [⟨some X, .assign (.const (.slice none 0 0)), E.tBytes, "", #[], none⟩])
          .skip)]),
      (rg [⟨some (t + 4), .move (.tmp 4), E.tBool, "", #[], none⟩,
        ⟨some (t + 5), .move (.tmp 2), E.tBool, "", #[], none⟩,
        ⟨some (t + 6), .move (.tmp X), E.tBytes, "", #[], none⟩,
        ⟨some (t + 7), .call { callee := .builtin .len, args := #[(.tmp (t + 6))], argTypes := #[E.tBytes] }, E.tInt, "", #[], none⟩,
        ⟨some (t + 8), .call { callee := .value (.func E.sCounted), args := #[(.tmp (t + 4)), (.tmp (t + 5)), (.tmp (t + 7)), (.const (.int .i64 size))], argTypes := #[E.tBool, E.tBool, E.tInt, E.tInt] }, E.tBytes, "", #[], none⟩,
        ⟨some (t + 9), .move (.tmp X), E.tBytes, "", #[], none⟩,
        ⟨some (t + 10), .call { callee := .builtin .append, args := #[(.tmp (t + 8)), (.tmp (t + 9))], argTypes := #[E.tBytes, E.tBytes] }, E.tBytes, "", #[], none⟩,
        ⟨some 12, .assign (.tmp (t + 10)), E.tBytes, "", #[], none⟩]),
      .ret]

section
variable {P : Program} {E : Env} {w : World} {U : Nat}

theorem OctsB.form {v : Value} {l : List UInt8} (h : OctsB w U v l) : ∃ ad cap, v = .slice ad l.length cap ∧ l.length ≤ cap ∧ ∀ n w', n ≤ l.length → Below U w w' → OctsB w' U (.slice ad n cap) (l.take n) := by
  rcases h with ⟨rfl, rfl⟩ | ⟨q, o, cap, rfl, hcap, hq, hc⟩
  · refine ⟨none, 0, rfl, Nat.le_refl _, fun n w' hn _ => ?_⟩
    simp only [List.length_nil, Nat.le_zero] at hn
    subst hn
    exact .inl ⟨rfl, rfl⟩
  · refine ⟨_, cap, rfl, hcap, fun n w' hn hw => .inr ⟨q, o, cap, ?_, ?_, hq, ?_⟩⟩
    · rw [List.length_take, Nat.min_eq_left hn]
    · rw [List.length_take]; omega
    · rw [List.map_take]
      exact (hc.below hw hq).take n
theorem OctsB.src {v : Value} {l : List UInt8} {T e : TypeId} (hT : sliceT P T = some (e, 1)) (h : OctsB w U v l) : Src P 1 T v l.length (l.map bv) w := by
  rcases h with ⟨rfl, rfl⟩ | ⟨q, o, cap, rfl, hcap, hq, hc⟩
  · exact src_nil hT
  · exact src_cells hT hc (by simp) (bv_one l)

theorem s_text (H : SEnv P E) (HT : STexts P E) {A : Act} {W : World} {X t size : Nat} {nl fx : Bool} {b : Nat} {sv : Value} {s : List UInt8} {Q : Exit → Act → World → Prop} (hX : X = 14 ∨ X = 15) (ht : 16 < t) (ht2 : t + 11 ≤ 70) (hsz8 : size ≤ 8)
    (hs : A.tmps.size = 70) (hd : A.defers = []) (f2 : A.eval (.tmp 2) = .bool nl) (f4 : A.eval (.tmp 4) = .bool fx) (f11 : A.eval (.tmp 11) = .pointer (some ⟨b, 0, none⟩)) (hc : W.cell? ⟨b, 1, none⟩ = some sv)
    (ho : OctsB w U sv s) (hw : Below U w W) (hU : U ≤ w.heap.size) (hbig : (cnt fx nl (if nl then [] else s.take 32767 : List UInt8).length size ++ (if nl then [] else s.take 32767)).length ≤ big)
    (hQ : ∀ a' w', (Out P #[.tmp 12] fun v w' => w'.ownsRow U E.tU8 1 v (cnt fx nl (if nl then [] else s.take 32767 : List UInt8).length size ++ (if nl then [] else s.take 32767)).length ((cnt fx nl (if nl then [] else s.take 32767 : List UInt8).length size ++ (if nl then [] else s.take 32767)).map bv) ∧ Below U w w') .ret a' w' → Q .ret a' w') : vc P (cText E X t size) Q A W := by
  obtain ⟨ad, cap, rfl, hcap, htake⟩ := ho.form
  have hsl := rowB_slice H.row
  unfold cText
  refine vc_sq (vc_rg (by simp) ?_)
  refine r_field (b := b) (o := 0) (by simp (disch := (first | omega | (simp only [sP]; omega))) only [eS, eN, eC, f11]) (offs_inv H.fTree (by decide)) ?_
  refine r_load (b := b) (o := 0 + 1) (by simp (disch := (first | omega | (simp only [sP]; omega))) only [eS, eN, eC]) H.oBytes (by simpa using hc) ?_
  refine r_call' (args := #[.slice ad s.length cap]) ?_ (s_first (T := E.tBytes) (e := E.tU8) (c := .skip) (.inl hsl) H.int hcap HT.whole) ?_
  · simp only [List.map_toArray, List.map_cons, List.map_nil]
    simp (disch := (first | omega | (simp only [sP]; omega))) only [eS, eN, eC]
  rintro v w' ⟨rfl, rfl⟩
  refine r_assign ?_
  refine dn ?_
  have hlt : s.take (min s.length 32767) = s.take 32767 := by
    rcases Nat.le_total s.length 32767 with h | h
    · rw [Nat.min_eq_left h, List.take_length, List.take_of_length_le h]
    · rw [Nat.min_eq_right h]
  have ho2 : ∀ w2, Below U w w2 → OctsB w2 U (.slice ad (min s.length 32767) cap) (s.take 32767) := by
    intro w2 hw2
    have := htake (min s.length 32767) w2 (Nat.min_le_left _ _) hw2
    rwa [hlt] at this
  have tail : ∀ (B : Act) (xv : Value) (x : List UInt8), B.tmps.size = 70 → B.defers = [] → B.eval (.tmp 2) = .bool nl → B.eval (.tmp 4) = .bool fx → B.eval (.tmp X) = xv → (∀ w2, Below U w w2 → OctsB w2 U xv x) → x = (if nl then [] else s.take 32767) →
      vc P (sq [(rg [⟨some (t + 4), .move (.tmp 4), E.tBool, "", #[], none⟩,
        ⟨some (t + 5), .move (.tmp 2), E.tBool, "", #[], none⟩,
        ⟨some (t + 6), .move (.tmp X), E.tBytes, "", #[], none⟩,
        ⟨some (t + 7), .call { callee := .builtin .len, args := #[(.tmp (t + 6))], argTypes := #[E.tBytes] }, E.tInt, "", #[], none⟩,
        ⟨some (t + 8), .call { callee := .value (.func E.sCounted), args := #[(.tmp (t + 4)), (.tmp (t + 5)), (.tmp (t + 7)), (.const (.int .i64 size))], argTypes := #[E.tBool, E.tBool, E.tInt, E.tInt] }, E.tBytes, "", #[], none⟩,
        ⟨some (t + 9), .move (.tmp X), E.tBytes, "", #[], none⟩,
        ⟨some (t + 10), .call { callee := .builtin .append, args := #[(.tmp (t + 8)), (.tmp (t + 9))], argTypes := #[E.tBytes, E.tBytes] }, E.tBytes, "", #[], none⟩,
        ⟨some 12, .assign (.tmp (t + 10)), E.tBytes, "", #[], none⟩]), .ret]) Q B w' := by
    intro B xv x hs2 hd2 g2 g4 gX hox hx
    rw [← hx] at hbig hQ
    obtain ⟨ad2, cap2, rfl, _, _⟩ := (hox w (Below.refl _ _)).form
    have hxl : x.length ≤ big := by rw [List.length_append] at hbig; omega
    have hX70 : X < t := by omega
    refine vc_sq (vc_rg (by simp) ?_)
    refine r_move ?_
    refine r_move ?_
    refine r_move ?_
    refine r_len (ad := ad2) (n := x.length) (c := cap2) hsl (by simp (disch := (first | omega | (simp only [sP]; omega))) only [eS, eN, eC, gX]) ?_
    refine r_call' (args := #[.bool fx, .bool nl, .int .i64 (x.length : Int), .int .i64 (size : Int)]) ?_ (s_counted (U := U) HT.counted HT.uvar HT.fixed H.row H.u8 H.u64 H.i64 H.int hxl hsz8 (Nat.le_trans hU hw.size)) ?_
    · simp only [List.map_toArray, List.map_cons, List.map_nil]
      simp (disch := (first | omega | (simp only [sP]; omega))) only [eS, eN, eC, g2, g4]
    rintro v w2 ⟨hown, hb2⟩
    have hbw : Below U w w2 := hw.trans hb2
    refine r_move ?_
    refine r_append (sz := 1) (U := U) (m := x.length) (news := x.map bv) H.row (by simp (disch := (first | omega | (simp only [sP]; omega))) only [eS, eN, eC]) (by simp (disch := (first | omega | (simp only [sP]; omega))) only [eS, eN, eC, gX]) hown (Nat.le_trans hU hbw.size) ((hox w2 hbw).src hsl) (by rw [List.length_append] at hbig; exact hbig) ?_
    intro v' w3 h1 h2
    rw [← List.length_append, ← List.map_append] at h1
    refine r_assign ?_
    refine dn ?_
    refine vc_sq (vc_ret ?_)
    exact hQ _ _ ⟨by simp only [defers_put]; exact hd2, v', results_one (by simp (disch := (first | omega | (simp only [sP]; omega))) only [eS, eN, eC]), h1, hbw.trans h2⟩
  refine vc_sq (vc_sq (vc_rg (by simp) ?_))
  refine r_move ?_
  refine dn ?_
  refine vc_sq (vc_cond (t := nl) (by simp (disch := (first | omega | (simp only [sP]; omega))) only [eS, eN, eC, f2]) ?_ ?_)
  · intro hn
    refine vc_rg (by simp) ?_
    refine r_assign ?_
    refine dn ?_
    refine vc_sq_nil ?_
    exact tail _ (.slice none 0 0) [] (by simp only [size_put]; exact hs) (by simp only [defers_put]; exact hd) (by simp (disch := (first | omega | (simp only [sP]; omega))) only [eS, eN, eC, f2]) (by simp (disch := (first | omega | (simp only [sP]; omega))) only [eS, eN, eC, f4]) (by simp (disch := (first | omega | (simp only [sP]; omega))) only [eS, eN, eC]) (fun _ _ => .inl ⟨rfl, rfl⟩) (by rw [hn]; rfl)
  · intro hn
    refine vc_skip ?_
    refine vc_sq_nil ?_
    exact tail _ (.slice ad (min s.length 32767) cap) (s.take 32767) (by simp only [size_put]; exact hs) (by simp only [defers_put]; exact hd) (by simp (disch := (first | omega | (simp only [sP]; omega))) only [eS, eN, eC, f2]) (by simp (disch := (first | omega | (simp only [sP]; omega))) only [eS, eN, eC, f4]) (by simp (disch := (first | omega | (simp only [sP]; omega))) only [eS, eN, eC]) ho2 (by rw [hn]; rfl)
end
end Go.Km
