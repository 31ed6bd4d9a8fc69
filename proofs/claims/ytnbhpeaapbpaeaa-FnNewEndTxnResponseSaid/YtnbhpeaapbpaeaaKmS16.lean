/- spec.part. -/
import Derived.Test.YtnbhpeaapbpaeaaKmS15
set_option linter.unusedSimpArgs false
set_option linter.unusedVariables false
namespace Go.Km
open Go Go.RowKit
attribute [local irreducible] vc runOps runG runS runD

theorem known_neg (l : List Int) (h : ∀ t ∈ l, t < 0) : known l = 0 := by
  have := known_lt (B := 0) l (by simpa using h)
  omega
theorem SFs.recs_len (v : Int) (fx : Bool) : ∀ (fs : SFs) (k : Nat) (t : Tr), (fs.recs v fx k t).length = fs.len
  | .nil, _, _ => by simp [SFs.recs, SFs.len]
  | .cons f r, k, t => by simp [SFs.recs, SFs.len, SFs.recs_len v fx r]
theorem SFs.recs_get (v : Int) (fx : Bool) : ∀ (fs : SFs) (k i : Nat) (t : Tr) (f : SF), fs.get i = some f → (fs.recs v fx k t)[i]? = some (f.tag, f.has v, f.usual (t.at (k + i)), f.wr v fx (t.at (k + i)))
  | .nil, _, _, _, _, h => by cases h
  | .cons (.mk _ _ _ _ _ _ _ _) r, k, 0, t, f, h => by
    simp only [SFs.get, Option.some.injEq] at h
    subst h
    simp [SFs.recs, SF.tag]
  | .cons (.mk _ _ _ _ _ _ _ _) r, k, i + 1, t, f, h => by
    simp only [SFs.get] at h
    have := SFs.recs_get v fx r (k + 1) i t f h
    rw [show k + 1 + i = k + (i + 1) by omega] at this
    simpa [SFs.recs] using this
theorem SFs.recs_tags (v : Int) (fx : Bool) : ∀ (fs : SFs) (k : Nat) (t : Tr), (fs.recs v fx k t).map (·.1) = fs.tags
  | .nil, _, _ => by simp [SFs.recs, SFs.tags]
  | .cons (.mk _ _ _ _ _ _ _ _) r, k, t => by simp [SFs.recs, SFs.tags, SFs.recs_tags v fx r]
/-- What a field gives to the beginning of a part. -/
def Rec.out (r : Rec) : List UInt8 := if r.1 < 0 && r.2.1 then r.2.2.2 else []
def Tr.tags : Tr → List (Nat × List UInt8)
  | .mk _ _ _ _ u => u
theorem SFs.part_eq {v : Int} {fx : Bool} {fs : SFs} {t : Tr} (hnt : ∀ t ∈ fs.tags, t < 0) :
    fs.part v fx t = if fx then ((fs.recs v fx 0 t).map Rec.out).flatten ++ Go.Km.uvar (unk (known fs.tags) t.tags).length ++ ((unk (known fs.tags) t.tags).map fun x => wrTg x.1 (x.2.take 32767)).flatten else ((fs.recs v fx 0 t).map Rec.out).flatten := by
  cases t with
  | mk n s nl l u =>
  unfold SFs.part assemble
  simp only [SFs.recs_tags, known_neg _ hnt, List.range_zero, List.flatMap_nil, List.nil_append, List.length_nil, Nat.zero_add, List.length_map, List.map_map, Tr.tags]
  rfl

section
variable {P : Program} {E : Env} {w : World} {U : Nat}
theorem s_partM (H : SEnv P E) (HL : SLay P E) (HT : STexts P E) (hunk : UnkC P E) {fs : SFs} {sv uv v9 : Value} {u : List (Nat × List UInt8)} {b : Nat} {A : Act} {W0 : World} {Q : Exit → Act → World → Prop} {xs : List UInt8} {fx : Bool}
    (hs : A.tmps.size = 132) (hd : A.defers = []) (f0 : A.eval (.tmp 0) = sv) (f2 : A.eval (.tmp 2) = .bool fx) (f7 : A.eval (.tmp 7) = .pointer (some ⟨b, 0, none⟩)) (f9 : A.eval (.tmp 9) = v9) (f10 : A.eval (.tmp 10) = .slice none 0 0) (f11 : A.eval (.tmp 11) = .int .i64 0)
    (hsf : SlF w U sv fs) (hnt : ∀ t ∈ fs.tags, t < 0) (hfl : fs.len ≤ big) (hbW : b < W0.heap.size) (hc : W0.cell? ⟨b, 4, none⟩ = some uv) (hu : UnkB w U uv u) (hU : U ≤ w.heap.size) (hw : Below U w W0) (hown : W0.ownsRow U E.tU8 1 v9 xs.length (xs.map bv))
    {R : List UInt8} (hR : R = if fx then xs ++ Go.Km.uvar (unk (known fs.tags) u).length ++ ((unk (known fs.tags) u).map fun x => wrTg x.1 (x.2.take 32767)).flatten else xs) (hbig : R.length ≤ big)
    (hQ : ∀ a' w', Out P #[.tmp 8] (fun v w' => w'.ownsRow U E.tU8 1 v R.length (R.map bv) ∧ Below U w w') .ret a' w' → Q .ret a' w') :
    vc P (sq [
    (sq [(rg [⟨some 46, .move (.tmp 2), E.tBool, "", #[], none⟩,
        ⟨some 47, .unOp .not E.tBool (.tmp 46), E.tBool, "", #[], none⟩]),
      (.cond (.tmp 47)
        (sq [(rg [⟨some 48, .move (.tmp 9), E.tBytes, "", #[], none⟩,
            ⟨some 8, .assign (.tmp 48), E.tBytes, "", #[], none⟩]),
          .ret])
        .skip)]),
    (sq [(rg [⟨some 49, .move (.tmp 0), E.tFlds, "", #[], none⟩,
        ⟨some 50, .call { callee := .value (.func E.sKnown), args := #[(.tmp 49)], argTypes := #[E.tFlds] }, E.tU32, "", #[], none⟩,
        ⟨some 51, .convert E.tU32 E.tInt (.tmp 50), E.tInt, "", #[], none⟩,
        ⟨some 52, .move (.const (.int .i64 0)), E.tInt, "", #[], none⟩]),
      (.block 2 (.loop (sq [(rg [⟨some 53, .binOp .lss E.tInt (.tmp 52) (.tmp 51) E.tInt, E.tBool, "", #[], none⟩]),
            (.cond (.tmp 53)
              .skip
              (.exit 2)),
            (.block 3 (sq [(rg [⟨some 54, .move (.tmp 52), E.tInt, "", #[], none⟩,
                  ⟨some 14, .assign (.tmp 54), E.tInt, "", #[], none⟩]),
                (rg [⟨some 55, .move (.tmp 0), E.tFlds, "", #[], none⟩,
                  ⟨some 56, .call { callee := .builtin .len, args := #[(.tmp 55)], argTypes := #[E.tFlds] }, E.tInt, "", #[], none⟩,
                  ⟨some 57, .move (.const (.int .i64 0)), E.tInt, "", #[], none⟩]),
                (.block 4 (.loop (sq [(rg [⟨some 58, .binOp .lss E.tInt (.tmp 57) (.tmp 56) E.tInt, 0, "", #[], none⟩]),
                      (.cond (.tmp 58)
                        .skip
                        (.exit 4)),
                      (.block 5 (sq [(rg [⟨some 59, .move (.tmp 57), E.tInt, "", #[], none⟩,
                            ⟨some 60, .indexAddr E.tFlds (.tmp 55) (.tmp 57), 0, "", #[], none⟩,
                            ⟨some 61, .load E.tFld (.tmp 60), E.tFld, "", #[], none⟩,
                            ⟨some 16, .alloc E.tFld, 0, "", #[], none⟩,
                            ⟨some 15, .assign (.tmp 59), E.tInt, "", #[], none⟩,
                            ⟨none, .store E.tFld (.tmp 16) (.tmp 61), 0, "", #[], none⟩]),
                          (rgd [⟨some 62, .fieldAddr E.tFld (.tmp 16) 4, 0, "", #[], none⟩,
                            ⟨some 63, .load E.tInt (.tmp 62), E.tInt, "", #[⟨0, .data⟩], none⟩,
                            ⟨some 64, .move (.tmp 14), E.tInt, "", #[], none⟩,
                            ⟨some 65, .binOp .eql E.tInt (.tmp 63) (.tmp 64) E.tInt, E.tBool, "", #[⟨1, .data⟩, ⟨2, .data⟩], none⟩,
                            ⟨some 66, .move (.tmp 65), E.tBool, "", #[⟨3, .data⟩], none⟩,
                            ⟨some 67, .load E.tFld (.tmp 16), E.tFld, "", #[⟨4, .guard⟩], some (4, true)⟩,
                            ⟨some 68, .load E.tTree (.tmp 7), E.tTree, "", #[⟨4, .guard⟩], some (4, true)⟩,
                            ⟨some 69, .move (.tmp 15), E.tInt, "", #[⟨4, .guard⟩], some (4, true)⟩,
                            ⟨some 70, .call { callee := .value (.func E.sAt), args := #[(.tmp 68), (.tmp 69)], argTypes := #[E.tTree, E.tInt] }, E.tTree, "", #[⟨6, .data⟩, ⟨7, .data⟩, ⟨4, .chain⟩, ⟨4, .guard⟩], some (4, true)⟩,
                            ⟨some 71, .call { callee := .value (.func E.sUsual), args := #[(.tmp 67), (.tmp 70)], argTypes := #[E.tFld, E.tTree] }, E.tBool, "", #[⟨5, .data⟩, ⟨8, .data⟩, ⟨8, .chain⟩, ⟨4, .guard⟩], some (4, true)⟩,
                            ⟨some 72, .unOp .not E.tBool (.tmp 71), E.tBool, "", #[⟨9, .data⟩, ⟨4, .guard⟩], some (4, true)⟩,
                            ⟨some 73, .pick (.tmp 66) (.tmp 72) (.const (.bool false)), E.tBool, "", #[⟨4, .data⟩, ⟨10, .data⟩], none⟩]),
                          (.cond (.tmp 73)
                            (sq [(rgd [⟨some 74, .load E.tFld (.tmp 16), E.tFld, "", #[], none⟩,
                                ⟨some 75, .move (.tmp 1), E.tInt, "", #[], none⟩,
                                ⟨some 76, .move (.tmp 2), E.tBool, "", #[], none⟩,
                                ⟨some 77, .load E.tTree (.tmp 7), E.tTree, "", #[], none⟩,
                                ⟨some 78, .move (.tmp 15), E.tInt, "", #[], none⟩,
                                ⟨some 79, .call { callee := .value (.func E.sAt), args := #[(.tmp 77), (.tmp 78)], argTypes := #[E.tTree, E.tInt] }, E.tTree, "", #[⟨3, .data⟩, ⟨4, .data⟩], none⟩,
                                ⟨some 80, .call { callee := .value (.func E.sField), args := #[(.tmp 74), (.tmp 75), (.tmp 76), (.tmp 79)], argTypes := #[E.tFld, E.tInt, E.tBool, E.tTree] }, E.tBytes, "", #[⟨0, .data⟩, ⟨1, .data⟩, ⟨2, .data⟩, ⟨5, .data⟩, ⟨5, .chain⟩], none⟩,
                                ⟨some 17, .assign (.tmp 80), E.tBytes, "", #[⟨6, .data⟩, ⟨6, .chain⟩, ⟨0, .phase⟩, ⟨1, .phase⟩, ⟨2, .phase⟩, ⟨3, .phase⟩, ⟨4, .phase⟩, ⟨5, .phase⟩, ⟨6, .phase⟩], none⟩]),
                              (rg [⟨some 81, .move (.tmp 10), E.tBytes, "", #[], none⟩,
                                ⟨some 82, .move (.tmp 14), E.tInt, "", #[], none⟩,
                                ⟨some 83, .convert E.tInt E.tU64 (.tmp 82), E.tU64, "", #[], none⟩,
                                ⟨some 84, .call { callee := .value (.func E.sUvar), args := #[(.tmp 83)], argTypes := #[E.tU64] }, E.tBytes, "", #[], none⟩,
                                ⟨some 85, .call { callee := .builtin .append, args := #[(.tmp 81), (.tmp 84)], argTypes := #[E.tBytes, E.tBytes] }, E.tBytes, "", #[], none⟩,
                                ⟨some 86, .move (.tmp 17), E.tBytes, "", #[], none⟩,
                                ⟨some 87, .call { callee := .builtin .len, args := #[(.tmp 86)], argTypes := #[E.tBytes] }, E.tInt, "", #[], none⟩,
                                ⟨some 88, .convert E.tInt E.tU64 (.tmp 87), E.tU64, "", #[], none⟩,
                                ⟨some 89, .call { callee := .value (.func E.sUvar), args := #[(.tmp 88)], argTypes := #[E.tU64] }, E.tBytes, "", #[], none⟩,
                                ⟨some 90, .call { callee := .builtin .append, args := #[(.tmp 85), (.tmp 89)], argTypes := #[E.tBytes, E.tBytes] }, E.tBytes, "", #[], none⟩,
                                ⟨some 91, .move (.tmp 17), E.tBytes, "", #[], none⟩,
                                ⟨some 92, .call { callee := .builtin .append, args := #[(.tmp 90), (.tmp 91)], argTypes := #[E.tBytes, E.tBytes] }, E.tBytes, "", #[], none⟩,
                                ⟨some 10, .assign (.tmp 92), E.tBytes, "", #[], none⟩]),
                              (rg [⟨some 93, .move (.tmp 11), E.tInt, "", #[], none⟩,
                                ⟨some 94, .binOp .add E.tInt (.tmp 93) (.const (.int .i64 1)) E.tInt, E.tInt, "", #[], none⟩,
                                ⟨some 11, .assign (.tmp 94), E.tInt, "", #[], none⟩])])
                            .skip)])),
                      (rg [⟨some 95, .binOp .add E.tInt (.tmp 57) (.const (.int .i64 1)) E.tInt, E.tInt, "", #[], none⟩,
                        ⟨some 57, .move (.tmp 95), E.tInt, "", #[], none⟩])])))])),
            (rg [⟨some 96, .binOp .add E.tInt (.tmp 52) (.const (.int .i64 1)) E.tInt, E.tInt, "", #[], none⟩,
              ⟨some 52, .move (.tmp 96), E.tInt, "", #[], none⟩])])))]),
    (sq [(rg [⟨some 97, .move (.tmp 0), E.tFlds, "", #[], none⟩,
        ⟨some 98, .fieldAddr E.tTree (.tmp 7) 4, 0, "", #[], none⟩,
        ⟨some 99, .load E.tUnks (.tmp 98), E.tUnks, "", #[], none⟩,
        ⟨some 100, .call { callee := .value (.func E.sUnknown), args := #[(.tmp 97), (.tmp 99)], argTypes := #[E.tFlds, E.tUnks] }, E.tUnks, "", #[], none⟩,
        ⟨some 101, .call { callee := .builtin .len, args := #[(.tmp 100)], argTypes := #[E.tUnks] }, E.tInt, "", #[], none⟩,
        ⟨some 102, .move (.const (.int .i64 0)), E.tInt, "", #[], none⟩]),
      (.block 6 (.loop (sq [(rg [⟨some 103, .binOp .lss E.tInt (.tmp 102) (.tmp 101) E.tInt, 0, "", #[], none⟩]),
            (.cond (.tmp 103)
              .skip
              (.exit 6)),
            (.block 7 (sq [(rg [⟨some 104, .indexAddr E.tUnks (.tmp 100) (.tmp 102), 0, "", #[], none⟩,
                  ⟨some 105, .load E.tUnk (.tmp 104), E.tUnk, "", #[], none⟩,
                  ⟨some 19, .alloc E.tUnk, 0, "", #[], none⟩,
                  ⟨none, .store E.tUnk (.tmp 19) (.tmp 105), 0, "", #[], none⟩]),
                (rg [⟨some 106, .fieldAddr E.tUnk (.tmp 19) 1, 0, "", #[], none⟩,
                  ⟨some 107, .load E.tBytes (.tmp 106), E.tBytes, "", #[], none⟩,
                  ⟨some 108, .call { callee := .value (.func E.sWhole), args := #[(.tmp 107)], argTypes := #[E.tBytes] }, E.tBytes, "", #[], none⟩,
                  ⟨some 20, .assign (.tmp 108), E.tBytes, "", #[], none⟩]),
                (rg [⟨some 109, .move (.tmp 10), E.tBytes, "", #[], none⟩,
                  ⟨some 110, .fieldAddr E.tUnk (.tmp 19) 0, 0, "", #[], none⟩,
                  ⟨some 111, .load E.tU32 (.tmp 110), E.tU32, "", #[], none⟩,
                  ⟨some 112, .convert E.tU32 E.tU64 (.tmp 111), E.tU64, "", #[], none⟩,
                  ⟨some 113, .call { callee := .value (.func E.sUvar), args := #[(.tmp 112)], argTypes := #[E.tU64] }, E.tBytes, "", #[], none⟩,
                  ⟨some 114, .call { callee := .builtin .append, args := #[(.tmp 109), (.tmp 113)], argTypes := #[E.tBytes, E.tBytes] }, E.tBytes, "", #[], none⟩,
                  ⟨some 115, .move (.tmp 20), E.tBytes, "", #[], none⟩,
                  ⟨some 116, .call { callee := .builtin .len, args := #[(.tmp 115)], argTypes := #[E.tBytes] }, E.tInt, "", #[], none⟩,
                  ⟨some 117, .convert E.tInt E.tU64 (.tmp 116), E.tU64, "", #[], none⟩,
                  ⟨some 118, .call { callee := .value (.func E.sUvar), args := #[(.tmp 117)], argTypes := #[E.tU64] }, E.tBytes, "", #[], none⟩,
                  ⟨some 119, .call { callee := .builtin .append, args := #[(.tmp 114), (.tmp 118)], argTypes := #[E.tBytes, E.tBytes] }, E.tBytes, "", #[], none⟩,
                  ⟨some 120, .move (.tmp 20), E.tBytes, "", #[], none⟩,
                  ⟨some 121, .call { callee := .builtin .append, args := #[(.tmp 119), (.tmp 120)], argTypes := #[E.tBytes, E.tBytes] }, E.tBytes, "", #[], none⟩,
                  ⟨some 10, .assign (.tmp 121), E.tBytes, "", #[], none⟩]),
                (rg [⟨some 122, .move (.tmp 11), E.tInt, "", #[], none⟩,
                  ⟨some 123, .binOp .add E.tInt (.tmp 122) (.const (.int .i64 1)) E.tInt, E.tInt, "", #[], none⟩,
                  ⟨some 11, .assign (.tmp 123), E.tInt, "", #[], none⟩])])),
            (rg [⟨some 124, .binOp .add E.tInt (.tmp 102) (.const (.int .i64 1)) E.tInt, E.tInt, "", #[], none⟩,
              ⟨some 102, .move (.tmp 124), E.tInt, "", #[], none⟩])])))]),
    (rg [⟨some 125, .move (.tmp 9), E.tBytes, "", #[], none⟩,
      ⟨some 126, .move (.tmp 11), E.tInt, "", #[], none⟩,
      ⟨some 127, .convert E.tInt E.tU64 (.tmp 126), E.tU64, "", #[], none⟩,
      ⟨some 128, .call { callee := .value (.func E.sUvar), args := #[(.tmp 127)], argTypes := #[E.tU64] }, E.tBytes, "", #[], none⟩,
      ⟨some 129, .call { callee := .builtin .append, args := #[(.tmp 125), (.tmp 128)], argTypes := #[E.tBytes, E.tBytes] }, E.tBytes, "", #[], none⟩,
      ⟨some 130, .move (.tmp 10), E.tBytes, "", #[], none⟩,
      ⟨some 131, .call { callee := .builtin .append, args := #[(.tmp 129), (.tmp 130)], argTypes := #[E.tBytes, E.tBytes] }, E.tBytes, "", #[], none⟩,
      ⟨some 8, .assign (.tmp 131), E.tBytes, "", #[], none⟩]),
    .ret]) Q A W0 := by
  have hUW0 : U ≤ W0.heap.size := Nat.le_trans hU hw.size
  refine vc_sq (vc_sq (vc_rg (by simp) ?_))
  refine r_move ?_
  refine r_not (b := fx) (by simp (disch := (first | omega | (simp only [sP]; omega))) only [eS, eN, eC, f2]) ?_
  refine dn ?_
  cases fx with
  | false =>
    simp only [Bool.false_eq_true, if_false] at hR
    subst hR
    refine vc_sq (vc_cond (t := true) (by (try simp (disch := (first | omega | (simp only [sP]; omega))) only [eS, eN, eC]) <;> (first | rfl | assumption)) ?_ (fun h => by cases h))
    intro _
    refine vc_sq (vc_rg (by simp) ?_)
    refine r_move ?_
    refine r_assign ?_
    refine dn ?_
    refine vc_sq (vc_ret ?_)
    exact hQ _ _ ⟨by simp only [defers_put]; exact hd, v9, results_one (by simp (disch := (first | omega | (simp only [sP]; omega))) only [eS, eN, eC, f9]), hown, hw⟩
  | true =>
    simp only [if_true] at hR
    refine vc_sq (vc_cond (t := false) (by (try simp (disch := (first | omega | (simp only [sP]; omega))) only [eS, eN, eC]) <;> (first | rfl | assumption)) (fun h => by cases h) ?_)
    intro _
    refine vc_skip ?_
    refine vc_sq_nil ?_
    refine vc_sq (vc_sq (vc_rg (by simp) ?_))
    refine r_move ?_
    refine r_call' (args := #[sv]) ?_ (s_known (U := W0.heap.size) H HL HT ((hsf.below hw).mono hUW0) (Nat.le_refl _) (fun t ht => by have := hnt t ht; omega) hfl) ?_
    · simp only [List.map_toArray, List.map_cons, List.map_nil]
      simp (disch := (first | omega | (simp only [sP]; omega))) only [eS, eN, eC, f0]
    rintro v W1 ⟨rfl, hb1⟩
    rw [known_neg _ hnt] at *
    refine r_conv (k := .u32) (k' := .i64) (m := ((0 : Nat) : Int)) H.u32 H.int (by simp (disch := (first | omega | (simp only [sP]; omega))) only [eS, eN, eC]) ?_
    have hw0 : IntKind.i64.wrap ((0 : Nat) : Int) = 0 := by rw [wrap_i64 (by omega) (by omega)]; rfl
    rw [hw0]
    refine r_move ?_
    refine dn ?_
    have hown1 := own_below hown hb1
    have hc1 : W1.cell? ⟨b, 4, none⟩ = some uv := by rw [hb1.cell (p := ⟨b, 4, none⟩) hbW]; exact hc
    have hw1 : Below U w W1 := hw.trans (hb1.mono hUW0)
    refine vc_sq (vc_block (vc_count (fun m B V => V = W1 ∧ m = 0 ∧ B.tmps.size = 132 ∧ B.defers = [] ∧ B.eval (.tmp 0) = sv ∧ B.eval (.tmp 7) = .pointer (some ⟨b, 0, none⟩) ∧ B.eval (.tmp 9) = v9 ∧ B.eval (.tmp 10) = .slice none 0 0 ∧ B.eval (.tmp 11) = .int .i64 0 ∧ B.eval (.tmp 51) = .int .i64 0 ∧ B.eval (.tmp 52) = .int .i64 0) 0 ?_ ?_ ?_))
    · exact ⟨rfl, rfl, by simp only [size_put]; exact hs, by simp only [defers_put]; exact hd, (by simp (disch := (first | omega | (simp only [sP]; omega))) only [eS, eN, eC, f0]), (by simp (disch := (first | omega | (simp only [sP]; omega))) only [eS, eN, eC, f7]), (by simp (disch := (first | omega | (simp only [sP]; omega))) only [eS, eN, eC, f9]), (by simp (disch := (first | omega | (simp only [sP]; omega))) only [eS, eN, eC, f10]), (by simp (disch := (first | omega | (simp only [sP]; omega))) only [eS, eN, eC, f11]), (by simp (disch := (first | omega | (simp only [sP]; omega))) only [eS, eN, eC]), (by simp (disch := (first | omega | (simp only [sP]; omega))) only [eS, eN, eC])⟩
    · rintro m B V ⟨_, h, _⟩
      omega
    · rintro B V ⟨rfl, _, hsB, hdB, g0, g7, g9, g10, g11, g51, g52⟩
      refine vc_sq (vc_rg (by simp) ?_)
      refine r_lss (k := .i64) (m := 0) (n := 0) g52 g51 ?_
      refine dn ?_
      refine vc_sq (vc_cond (t := false) (by (try simp (disch := (first | omega | (simp only [sP]; omega))) only [eS, eN, eC]) <;> (first | rfl | assumption)) (fun h => by cases h) ?_)
      intro _
      refine vc_exit ?_
      simp only [Exit.then, Exit.inBlock, if_true]
      refine vc_sq_nil ?_
      have htags : known fs.tags = 0 := known_neg _ hnt
      refine s_partU (fs := fs) (sv := sv) (uv := uv) (u := u) (b := b) H HT hunk (by simp only [size_put]; exact hsB) (by simp only [defers_put]; exact hdB) (by simp (disch := (first | omega | (simp only [sP]; omega))) only [eS, eN, eC, g0]) (by simp (disch := (first | omega | (simp only [sP]; omega))) only [eS, eN, eC, g7]) (by simp (disch := (first | omega | (simp only [sP]; omega))) only [eS, eN, eC, g9]) (by simp (disch := (first | omega | (simp only [sP]; omega))) only [eS, eN, eC, g10]) (by simp (disch := (first | omega | (simp only [sP]; omega))) only [eS, eN, eC, g11]) hsf (fun t ht => by have := hnt t ht; omega) hfl hc1 hu hU hw1 hown1 rfl ?_ ?_
      · rw [htags, ← hR]; exact hbig
      · rw [htags, ← hR]; exact hQ

set_option maxHeartbeats 1000000 in
theorem s_part (H : SEnv P E) (HL : SLay P E) (HT : STexts P E) (hunk : UnkC P E) {ver : Int} {fx : Bool} {fs : SFs} (hnt : ∀ t ∈ fs.tags, t < 0) (hfl : fs.len ≤ big) (hfc : ∀ i f, fs.get i = some f → FieldC P E ver fx f) : PartC P E ver fx fs := by
  intro U w sv t ts hU hsf hrt hbig
  have hfl' : fs.len ≤ big := hfl
  unfold big at hfl
  refine CallsV.enter HT.part (by simp) ?_
  intro a hsz hdf harg
  have e0 := harg 0 sv (by simp)
  have e1 := harg 1 (.int .i64 ver) (by simp)
  have e2 := harg 2 (.bool fx) (by simp)
  have e3 := harg 3 (.agg ts.toArray) (by simp)
  obtain ⟨z, hz, hzc⟩ := lays_zero HL.fld
  unfold c_sPart
  refine vc_sq (vc_rg (by simp) ?_)
  refine r_box (v := .agg ts.toArray) (by simp (disch := (first | omega | (simp only [sP]; omega))) only [eS, eN, eC, e3]) ?_
  refine r_assign ?_
  refine dn ?_
  generalize hw1 : w.alloc (.cells (Value.agg ts.toArray).cells E.tTree) = W1
  have hb1 : Below U w W1 := by rw [← hw1]; exact (Below.refl U w).alloc (o := .cells _ _) hU
  have hz1 : W1.heap.size = w.heap.size + 1 := by rw [← hw1]; simp
  have c1 : Cells W1 w.heap.size 0 ts := by
    intro i v hv
    rw [← hw1, Nat.zero_add]
    exact cells_new w _ E.tTree (by simpa [Value.cells] using hv)
  clear hw1
  generalize hbb : w.heap.size = b at *
  have hUW1 : U ≤ W1.heap.size := by omega
  refine vc_sq (vc_rg (by simp) ?_)
  refine r_assign ?_
  refine r_assign ?_
  refine dn ?_
  refine vc_sq (vc_rg (by simp) ?_)
  refine r_assign ?_
  refine dn ?_
  have hpe := SFs.part_eq (v := ver) (fx := fx) (t := t) hnt
  generalize hrs : fs.recs ver fx 0 t = rs at hpe
  have hrl : rs.length = fs.len := by rw [← hrs]; exact SFs.recs_len ver fx fs 0 t
  have hrg : ∀ i f, fs.get i = some f → rs[i]? = some (f.tag, f.has ver, f.usual (t.at i), f.wr ver fx (t.at i)) := by
    intro i f hf
    have := SFs.recs_get ver fx fs 0 i t f hf
    rw [hrs, Nat.zero_add] at this
    exact this
  have hob : ((rs.map Rec.out).flatten).length ≤ big := by
    rw [hpe] at hbig
    split at hbig
    · simp only [List.length_append] at hbig; omega
    · exact hbig
  obtain ⟨ad, cap, hsv⟩ : ∃ ad cap, sv = .slice ad fs.len cap := by
    rcases hsf with ⟨rfl, h0⟩ | ⟨q, o, cap, rfl, _⟩
    · exact ⟨none, 0, by rw [h0]⟩
    · exact ⟨_, cap, rfl⟩
  have hget : ∀ V, Below U w V → ∀ i f, fs.get i = some f → i < fs.len → ∃ q o c, sv = .slice (some ⟨q, o, none⟩) fs.len cap ∧ q < U ∧ Cells V q (o + i * 8) c ∧ f.Rep V U c := by
    intro V hV i f hf hi
    rcases hsf with ⟨rfl, h0⟩ | ⟨q, o, cap', h1, _, hq, hrep⟩
    · omega
    · obtain ⟨c, h2, h3⟩ := hrep.get hf
      rw [h1] at hsv
      simp only [Value.slice.injEq] at hsv
      obtain ⟨_, _, rfl⟩ := hsv
      exact ⟨q, o, c, h1, hq, h2.below hV hq, h3.below hV⟩
  refine vc_sq (vc_sq (vc_rg (by simp) ?_))
  refine r_move ?_
  refine r_len (ad := ad) (n := fs.len) (c := cap) H.sFlds (by simp (disch := (first | omega | (simp only [sP]; omega))) only [eS, eN, eC, e0, hsv]) ?_
  refine r_move ?_
  refine dn ?_
  refine vc_sq (vc_block (vc_count (fun m B V => m ≤ fs.len ∧ B.tmps.size = 132 ∧ B.defers = [] ∧ B.eval (.tmp 0) = sv ∧ B.eval (.tmp 1) = .int .i64 ver ∧ B.eval (.tmp 2) = .bool fx ∧ B.eval (.tmp 7) = .pointer (some ⟨b, 0, none⟩) ∧ B.eval (.tmp 10) = .slice none 0 0 ∧ B.eval (.tmp 11) = .int .i64 0 ∧
    B.eval (.tmp 21) = sv ∧ B.eval (.tmp 22) = .int .i64 (fs.len : Int) ∧ B.eval (.tmp 23) = .int .i64 ((fs.len - m : Nat) : Int) ∧ W1.heap.size ≤ V.heap.size ∧ Below W1.heap.size W1 V ∧
    ∃ xs : List UInt8, V.ownsRow W1.heap.size E.tU8 1 (B.eval (.tmp 9)) xs.length (xs.map bv) ∧ xs = ((rs.take (fs.len - m)).map Rec.out).flatten) fs.len ?_ ?_ ?_))
  · refine ⟨Nat.le_refl _, by simp only [size_put]; exact hsz, by simp only [defers_put]; exact hdf, (by simp (disch := (first | omega | (simp only [sP]; omega))) only [eS, eN, eC, e0]), (by simp (disch := (first | omega | (simp only [sP]; omega))) only [eS, eN, eC, e1]), (by simp (disch := (first | omega | (simp only [sP]; omega))) only [eS, eN, eC, e2]), (by simp (disch := (first | omega | (simp only [sP]; omega))) only [eS, eN, eC]), (by simp (disch := (first | omega | (simp only [sP]; omega))) only [eS, eN, eC]), (by simp (disch := (first | omega | (simp only [sP]; omega))) only [eS, eN, eC]), (by simp (disch := (first | omega | (simp only [sP]; omega))) only [eS, eN, eC, e0]), (by simp (disch := (first | omega | (simp only [sP]; omega))) only [eS, eN, eC]), ?_, Nat.le_refl _, Below.refl _ _, [], ?_, by simp⟩
    · simp (disch := (first | omega | (simp only [sP]; omega))) only [eS, eN, eC]
      simp
    · rw [show Act.eval _ (.tmp 9) = Value.slice none 0 0 by simp (disch := (first | omega | (simp only [sP]; omega))) only [eS, eN, eC]]
      exact World.ownsRow_nil _ _ _ _
  · rintro m B V ⟨hm, hsB, hdB, g0, g1, g2, g7, g10, g11, g21, g22, g23, hWV, hbV, xs, hown, hxs⟩
    have hi : fs.len - (m + 1) < fs.len := by omega
    have him : fs.len - m = (fs.len - (m + 1)) + 1 := by omega
    rw [him]
    generalize hii : fs.len - (m + 1) = i at *
    obtain ⟨f, hf⟩ := SFs.get_lt fs i hi
    have hbVU : Below U w V := hb1.trans (hbV.mono hUW1)
    obtain ⟨q, o, c, hsv', hq, hc, hrc⟩ := hget V hbVU i f hf hi
    have htag := SFs.tags_get fs i f hf
    have hil : i < fs.tags.length := by rw [SFs.tags_len]; exact hi
    have htag' : fs.tags[i] = f.tag := by rw [List.getElem?_eq_getElem hil] at htag; exact Option.some.inj htag
    have hneg : f.tag < 0 := by rw [← htag']; exact hnt _ (List.getElem_mem hil)
    have hir : i < rs.length := by omega
    have hri : rs[i] = (f.tag, f.has ver, f.usual (t.at i), f.wr ver fx (t.at i)) := by
      have := hrg i f hf
      rw [List.getElem?_eq_getElem hir] at this
      exact Option.some.inj this
    have hsucc := flat_succ rs Rec.out i hir
    have hle := flat_le rs Rec.out (i + 1)
    rw [hsucc, ← hxs, hri] at hle
    rw [hsucc, ← hxs, hri]
    have hro : Rec.out (f.tag, f.has ver, f.usual (t.at i), f.wr ver fx (t.at i)) = if f.has ver then f.wr ver fx (t.at i) else [] := by
      simp [Rec.out, hneg]
    rw [hro] at hle ⊢
    have ht5 : Cells V b 0 ts := c1.below hbV (by omega)
    have hUV : U ≤ V.heap.size := Nat.le_trans hUW1 hWV
    refine vc_sq (vc_rg (by simp) ?_)
    refine r_lss (k := .i64) (m := (i : Int)) (n := (fs.len : Int)) g23 g22 ?_
    refine dn ?_
    refine vc_sq (vc_cond (t := true) ?_ ?_ (fun h => by cases h))
    · simp (disch := (first | omega | (simp only [sP]; omega))) only [eS, eN, eC]
      simp only [Value.bool.injEq, decide_eq_true_eq]
      omega
    intro _
    refine vc_skip ?_
    refine vc_sq (vc_block (vc_sq (vc_rg (by simp) ?_)))
    refine r_move ?_
    refine r_index (k := .i64) (j := i) (b := q) (o := o) (len := fs.len) (cap := cap) H.sFlds (by simp (disch := (first | omega | (simp only [sP]; omega))) only [eS, eN, eC, g21, hsv']) (by simp (disch := (first | omega | (simp only [sP]; omega))) only [eS, eN, eC, g23]) hi ?_
    refine r_loadAgg (b := q) (o := o + i * 8) (cs := c) (by simp (disch := (first | omega | (simp only [sP]; omega))) only [eS, eN, eC]) (by rw [hrc.len]; exact H.aFld) hc ?_
    refine r_alloc hz ?_
    refine r_assign ?_
    refine r_storeAgg (b := V.heap.size) (o := 0) (cs := c) (by simp (disch := (first | omega | (simp only [sP]; omega))) only [eS, eN, eC]) (by simp (disch := (first | omega | (simp only [sP]; omega))) only [eS, eN, eC]) hrc.one (by rw [hrc.len]; exact H.aFld) ?_ ?_
    · intro j hj
      rw [Nat.zero_add]
      exact free_new V _ _ (by rw [hzc]; rw [hrc.len] at hj; simpa using hj)
    refine dn ?_
    have hcell : Cells (setCells (V.alloc (.cells z.cells E.tFld)) V.heap.size 0 c) V.heap.size 0 c := by
      intro j v hv
      refine setCells_cell V.heap.size c _ 0 (fun j hj => ?_) j _ hv
      rw [Nat.zero_add]
      exact (free_new V z.cells E.tFld (by rw [hzc]; rw [hrc.len] at hj; simpa using hj)).1
    have hb2 : Below V.heap.size V (setCells (V.alloc (.cells z.cells E.tFld)) V.heap.size 0 c) := by
      refine ((Below.refl V.heap.size V).alloc (o := .cells _ _) (Nat.le_refl _)).trans ((setCells_eff V.heap.size c _ 0).below (by simp) (by rintro k i hk ⟨rfl, _, _⟩; omega))
    have hz2 : V.heap.size < (setCells (V.alloc (.cells z.cells E.tFld)) V.heap.size 0 c).heap.size := by
      have := (setCells_eff V.heap.size c (V.alloc (.cells z.cells E.tFld)) 0).size
      simp at this
      omega
    have hc4 : (setCells (V.alloc (.cells z.cells E.tFld)) V.heap.size 0 c).cell? ⟨V.heap.size, 0 + 4, none⟩ = some (.int .i64 f.tag) := by
      refine hcell 4 _ ?_
      cases f with
      | mk => obtain ⟨sv2, rfl, _⟩ := hrc; rfl
    generalize setCells (V.alloc (.cells z.cells E.tFld)) V.heap.size 0 c = V1 at hcell hb2 hz2 hc4 ⊢
    have hrc1 := (hrc.below (hb2.mono hUV)).mono (U' := V1.heap.size) (by omega)
    generalize hG : (((((B.put (some 24) _).put (some 25) _).put (some 26) _).put (some 27) _).put (some 13) _).put (some 12) _ = G
    have hsG : G.tmps.size = 132 := by rw [← hG]; simp only [size_put]; exact hsB
    have hdG : G.defers = [] := by rw [← hG]; simp only [defers_put]; exact hdB
    have k0 : G.eval (.tmp 0) = sv := by rw [← hG]; simp (disch := (first | omega | (simp only [sP]; omega))) only [eS, eN, eC, g0]
    have k1 : G.eval (.tmp 1) = .int .i64 ver := by rw [← hG]; simp (disch := (first | omega | (simp only [sP]; omega))) only [eS, eN, eC, g1]
    have k2 : G.eval (.tmp 2) = .bool fx := by rw [← hG]; simp (disch := (first | omega | (simp only [sP]; omega))) only [eS, eN, eC, g2]
    have k7 : G.eval (.tmp 7) = .pointer (some ⟨b, 0, none⟩) := by rw [← hG]; simp (disch := (first | omega | (simp only [sP]; omega))) only [eS, eN, eC, g7]
    have k9 : G.eval (.tmp 9) = B.eval (.tmp 9) := by rw [← hG]; simp (disch := (first | omega | (simp only [sP]; omega))) only [eS, eN, eC]
    have k10 : G.eval (.tmp 10) = .slice none 0 0 := by rw [← hG]; simp (disch := (first | omega | (simp only [sP]; omega))) only [eS, eN, eC, g10]
    have k11 : G.eval (.tmp 11) = .int .i64 0 := by rw [← hG]; simp (disch := (first | omega | (simp only [sP]; omega))) only [eS, eN, eC, g11]
    have k12 : G.eval (.tmp 12) = .int .i64 (i : Int) := by rw [← hG]; simp (disch := (first | omega | (simp only [sP]; omega))) only [eS, eN, eC, g23]
    have k13 : G.eval (.tmp 13) = .pointer (some ⟨V.heap.size, 0, none⟩) := by rw [← hG]; simp (disch := (first | omega | (simp only [sP]; omega))) only [eS, eN, eC]
    have k21 : G.eval (.tmp 21) = sv := by rw [← hG]; simp (disch := (first | omega | (simp only [sP]; omega))) only [eS, eN, eC, g21]
    have k22 : G.eval (.tmp 22) = .int .i64 (fs.len : Int) := by rw [← hG]; simp (disch := (first | omega | (simp only [sP]; omega))) only [eS, eN, eC, g22]
    have k23 : G.eval (.tmp 23) = .int .i64 (i : Int) := by rw [← hG]; simp (disch := (first | omega | (simp only [sP]; omega))) only [eS, eN, eC, g23]
    rw [← k9] at hown
    clear hG
    generalize hv9 : G.eval (.tmp 9) = v9 at *
    refine vc_sq (vc_rgS [0, 1, 2, 3, 4, 5, 6, 7] rfl ?_)
    refine runS_do rfl (wants_none rfl) (r_field (b := V.heap.size) (o := 0) (by simp (disch := (first | omega | (simp only [sP]; omega))) only [eS, eN, eC, k13]) (offs_inv H.fFld (by decide)) (dn (runS_then ?_)))
    refine runS_do rfl (wants_none rfl) (r_load (b := V.heap.size) (o := 0 + 4) (by simp (disch := (first | omega | (simp only [sP]; omega))) only [eS, eN, eC]) H.oInt hc4 (dn (runS_then ?_)))
    refine runS_do rfl (wants_none rfl) (r_lss (k := .i64) (m := f.tag) (n := 0) (by simp (disch := (first | omega | (simp only [sP]; omega))) only [eS, eN, eC]) rfl (dn (runS_then ?_)))
    rw [show decide (f.tag < 0) = true by simpa using hneg]
    (refine runS_do rfl (wants_none rfl) ?_; refine r_move ?_; refine dn (runS_then ?_))
    refine runS_do rfl (by rw [wants_some (b := true) rfl rfl (by (try simp (disch := (first | omega | (simp only [sP]; omega))) only [eS, eN, eC]) <;> (first | rfl | assumption))]; rfl) (r_loadAgg (b := V.heap.size) (o := 0) (cs := c) (by simp (disch := (first | omega | (simp only [sP]; omega))) only [eS, eN, eC, k13]) (by rw [hrc.len]; exact H.aFld) hcell (dn (runS_then ?_)))
    (refine runS_do rfl (by rw [wants_some (b := true) rfl rfl (by (try simp (disch := (first | omega | (simp only [sP]; omega))) only [eS, eN, eC]) <;> (first | rfl | assumption))]; rfl) ?_; refine r_move ?_; refine dn (runS_then ?_))
    refine runS_do rfl (by rw [wants_some (b := true) rfl rfl (by (try simp (disch := (first | omega | (simp only [sP]; omega))) only [eS, eN, eC]) <;> (first | rfl | assumption))]; rfl) ?_
    refine r_call' (args := #[.agg c.toArray, .int .i64 ver]) ?_ (s_has (U := V1.heap.size) (v := ver) H HT.has hrc1 (Nat.le_refl _)) ?_
    · simp only [List.map_toArray, List.map_cons, List.map_nil]
      simp (disch := (first | omega | (simp only [sP]; omega))) only [eS, eN, eC, k1]
    rintro v V2 ⟨rfl, hb3⟩
    refine dn (runS_then ?_)
    refine runS_do rfl (wants_none rfl) (r_pickT (by simp (disch := (first | omega | (simp only [sP]; omega))) only [eS, eN, eC]) (dn (runS_then ?_)))
    refine runS_nil ?_
    have hV2 : Below V.heap.size V V2 := hb2.trans (hb3.mono (by omega))
    have hown2 := own_below hown hV2
    have hcell2 : Cells V2 V.heap.size 0 c := hcell.below hb3 (by omega)
    have ht52 : Cells V2 b 0 ts := ht5.below hV2 (by omega)
    have hwi : IntKind.i64.wrap ((i : Int) + 1) = ((i + 1 : Nat) : Int) := by rw [wrap_i64 (by omega) (by omega)]; rfl
    have fin : ∀ (B' : Act) (V' : World) (ys : List UInt8) (x9 : Value), B'.tmps.size = 132 → B'.defers = [] → B'.eval (.tmp 0) = sv → B'.eval (.tmp 1) = .int .i64 ver → B'.eval (.tmp 2) = .bool fx → B'.eval (.tmp 7) = .pointer (some ⟨b, 0, none⟩) → B'.eval (.tmp 10) = .slice none 0 0 → B'.eval (.tmp 11) = .int .i64 0 →
        B'.eval (.tmp 21) = sv → B'.eval (.tmp 22) = .int .i64 (fs.len : Int) → B'.eval (.tmp 23) = .int .i64 (i : Int) → B'.eval (.tmp 9) = x9 → W1.heap.size ≤ V'.heap.size → Below W1.heap.size W1 V' → V'.ownsRow W1.heap.size E.tU8 1 x9 ys.length (ys.map bv) → ys = xs ++ (if f.has ver then f.wr ver fx (t.at i) else []) → ∀ Q : Exit → Act → World → Prop,
        (∀ A', (m ≤ fs.len ∧ A'.tmps.size = 132 ∧ A'.defers = [] ∧ A'.eval (.tmp 0) = sv ∧ A'.eval (.tmp 1) = .int .i64 ver ∧ A'.eval (.tmp 2) = .bool fx ∧ A'.eval (.tmp 7) = .pointer (some ⟨b, 0, none⟩) ∧ A'.eval (.tmp 10) = .slice none 0 0 ∧ A'.eval (.tmp 11) = .int .i64 0 ∧
    A'.eval (.tmp 21) = sv ∧ A'.eval (.tmp 22) = .int .i64 (fs.len : Int) ∧ A'.eval (.tmp 23) = .int .i64 ((i + 1 : Nat) : Int) ∧ W1.heap.size ≤ V'.heap.size ∧ Below W1.heap.size W1 V' ∧
    ∃ zs : List UInt8, V'.ownsRow W1.heap.size E.tU8 1 (A'.eval (.tmp 9)) zs.length (zs.map bv) ∧ zs = xs ++ (if f.has ver then f.wr ver fx (t.at i) else [])) → Q .normal A' V') →
        vc P (sq [(rg [⟨some 45, .binOp .add E.tInt (.tmp 23) (.const (.int .i64 1)) E.tInt, E.tInt, "", #[], none⟩, ⟨some 23, .move (.tmp 45), E.tInt, "", #[], none⟩])]) Q B' V' := by
      intro B' V' ys x9 b0 b1 b2 b3 b4 b5 b6 b7 b8 b9 b10 b11 b12 b13 b14 b15 Q hQ
      refine vc_sq (vc_rg (by simp) ?_)
      refine r_add (k := .i64) (m := (i : Int)) (n := 1) (by simp (disch := (first | omega | (simp only [sP]; omega))) only [eS, eN, eC, b10]) rfl ?_
      refine r_move ?_
      refine dn ?_
      refine vc_sq_nil ?_
      refine hQ _ ⟨by omega, by simp only [size_put]; exact b0, by simp only [defers_put]; exact b1, (by simp (disch := (first | omega | (simp only [sP]; omega))) only [eS, eN, eC, b2]), (by simp (disch := (first | omega | (simp only [sP]; omega))) only [eS, eN, eC, b3]), (by simp (disch := (first | omega | (simp only [sP]; omega))) only [eS, eN, eC, b4]), (by simp (disch := (first | omega | (simp only [sP]; omega))) only [eS, eN, eC, b5]), (by simp (disch := (first | omega | (simp only [sP]; omega))) only [eS, eN, eC, b6]), (by simp (disch := (first | omega | (simp only [sP]; omega))) only [eS, eN, eC, b7]), (by simp (disch := (first | omega | (simp only [sP]; omega))) only [eS, eN, eC, b8]), (by simp (disch := (first | omega | (simp only [sP]; omega))) only [eS, eN, eC, b9]), ?_, b12, b13, ys, ?_, b15⟩
      · simp (disch := (first | omega | (simp only [sP]; omega))) only [eS, eN, eC]
        rw [hwi]
      · rw [show Act.eval _ (.tmp 9) = x9 by simp (disch := (first | omega | (simp only [sP]; omega))) only [eS, eN, eC, b11]]
        exact b14
    generalize hh : f.has ver = hb at *
    refine vc_sq (vc_cond (t := hb) (by (try simp (disch := (first | omega | (simp only [sP]; omega))) only [eS, eN, eC]) <;> (first | rfl | assumption)) ?_ ?_)
    · intro hb'
      subst hb'
      simp only [if_true] at hle fin ⊢
      rw [List.length_append] at hle
      have hbd : Below V2.heap.size V2 { V2 with drawn := V2.drawn + 1 } := ⟨rfl, rfl, rfl, Nat.le_refl _, fun _ _ => rfl⟩
      have hVV2 : V.heap.size < V2.heap.size := Nat.lt_of_lt_of_le hz2 hb3.size
      have mkS : ∀ w2, Below V2.heap.size V2 w2 → Cells w2 V.heap.size 0 c ∧ Cells w2 b 0 ts := fun w2 h2 => ⟨hcell2.below h2 hVV2, ht52.below h2 (by omega)⟩
      have hS := mkS _ hbd
      have hUV2 : U ≤ V2.heap.size := by omega
      have hV2d : Below U w { V2 with drawn := V2.drawn + 1 } := (hbVU.trans (hV2.mono hUV)).trans (hbd.mono hUV2)
      have hrc2 : f.Rep { V2 with drawn := V2.drawn + 1 } V2.heap.size c := (hrc.below ((hV2.mono hUV).trans (hbd.mono hUV2))).mono hUV2
      have hrt2 : t.Rep { V2 with drawn := V2.drawn + 1 } V2.heap.size ts := (hrt.below hV2d).mono hUV2
      refine vc_rgd [(0, true), (1, true), (2, true), (3, true), (4, true), (5, true), (6, false), (7, false), (8, false), (9, true)] (fun W' => Cells W' V.heap.size 0 c ∧ Cells W' b 0 ts) HT.mixed (by kernel_rfl) rfl (by kernel_rfl) (fun _ _ _ _ h => False.elim h) ?_
      refine d_pure rfl rfl rfl (wants_none rfl) (by simp only [size_put, hsG]; decide) hS (fun w' hS' => r_move (dn ⟨rfl, rfl, rfl⟩)) ?_
      refine d_pure rfl rfl rfl (wants_none rfl) (by simp only [size_put, hsG]; decide) hS (fun w' hS' => r_loadAgg (b := V.heap.size) (o := 0) (cs := c) (by simp (disch := (first | omega | (simp only [sP]; omega))) only [eS, eN, eC, k13]) (by rw [hrc.len]; exact H.aFld) hS'.1 (dn ⟨rfl, rfl, rfl⟩)) ?_
      refine d_pure rfl rfl rfl (wants_none rfl) (by simp only [size_put, hsG]; decide) hS (fun w' hS' => r_move (dn ⟨rfl, rfl, rfl⟩)) ?_
      refine d_pure rfl rfl rfl (wants_none rfl) (by simp only [size_put, hsG]; decide) hS (fun w' hS' => r_move (dn ⟨rfl, rfl, rfl⟩)) ?_
      refine d_pure rfl rfl rfl (wants_none rfl) (by simp only [size_put, hsG]; decide) hS (fun w' hS' => r_loadAgg (b := b) (o := 0) (cs := ts) (by simp (disch := (first | omega | (simp only [sP]; omega))) only [eS, eN, eC, k7]) (by rw [hrt.len]; exact H.aTree) hS'.2 (dn ⟨rfl, rfl, rfl⟩)) ?_
      refine d_pure rfl rfl rfl (wants_none rfl) (by simp only [size_put, hsG]; decide) hS (fun w' hS' => r_move (dn ⟨rfl, rfl, rfl⟩)) ?_
      refine d_sole rfl (wants_none rfl) ?_
      refine r_call' (args := #[.agg ts.toArray, .int .i64 (i : Int)]) ?_ (s_at (U := V2.heap.size) (i := i) H HL HT.at' hrt2 (Nat.le_refl _)) ?_
      · simp only [List.map_toArray, List.map_cons, List.map_nil]
        simp (disch := (first | omega | (simp only [sP]; omega))) only [eS, eN, eC, k12]
      rintro v3 w3 ⟨c2, rfl, hr2, hb4⟩
      refine dn (d_then (mkS _ (hbd.trans hb4)) ?_)
      refine d_sole rfl (wants_none rfl) ?_
      refine r_call' (args := #[.agg c.toArray, .int .i64 ver, .bool fx, .agg c2.toArray]) ?_ (hfc i f hf V2.heap.size w3 c (t.at i) c2 hb4.size (hrc2.below hb4) (hr2.below hb4) (by omega)) ?_
      · simp only [List.map_toArray, List.map_cons, List.map_nil]
        simp (disch := (first | omega | (simp only [sP]; omega))) only [eS, eN, eC, k1, k2]
      rintro v4 w4 ⟨h4, hb5⟩
      have hV4 : Below V2.heap.size V2 w4 := (hbd.trans hb4).trans hb5
      refine dn (d_then (mkS _ hV4) ?_)
      refine d_sole rfl (wants_none rfl) ?_
      have hown4 := own_below hown2 hV4
      have hWV2 : W1.heap.size ≤ V2.heap.size := by omega
      refine r_appendG (sz := 1) (U := W1.heap.size) (v := v9) (m := (f.wr ver fx (t.at i)).length) (news := (f.wr ver fx (t.at i)).map bv) H.row (by simp (disch := (first | omega | (simp only [sP]; omega))) only [eS, eN, eC, hv9]) (by simp (disch := (first | omega | (simp only [sP]; omega))) only [eS, eN, eC]) hown4 (Nat.le_trans hWV2 hV4.size) (src_own (rowB_slice H.row) h4 (bv_one _)) (by omega) ?_
      intro v6 w6 h6 hb6 hg6 _
      rw [← List.length_append, ← List.map_append] at h6
      have hS4 := mkS _ hV4
      have hVw4 : V.heap.size < w4.heap.size := Nat.lt_of_lt_of_le hVV2 hV4.size
      have hS6 : Cells w6 V.heap.size 0 c ∧ Cells w6 b 0 ts := ⟨hS4.1.grown hg6 hVw4 (fun he => by have := own_block_lt hown he.symm; omega), hS4.2.below hb6 (by omega)⟩
      refine dn (d_then hS6 ?_)
      refine d_pure rfl rfl rfl (wants_none rfl) (by simp only [size_put, hsG]; decide) hS6 (fun w' hS' => r_assign (dn ⟨rfl, rfl, rfl⟩)) ?_
      refine d_nil ?_
      refine vc_sq_nil ?_
      have hV6 : Below W1.heap.size V w6 := ((hV2.mono hWV).trans (hV4.mono hWV2)).trans hb6
      exact fin _ w6 (xs ++ f.wr ver fx (t.at i)) v6 (by simp only [size_put]; exact hsG) (by simp only [defers_put]; exact hdG) (by simp (disch := (first | omega | (simp only [sP]; omega))) only [eS, eN, eC, k0]) (by simp (disch := (first | omega | (simp only [sP]; omega))) only [eS, eN, eC, k1]) (by simp (disch := (first | omega | (simp only [sP]; omega))) only [eS, eN, eC, k2]) (by simp (disch := (first | omega | (simp only [sP]; omega))) only [eS, eN, eC, k7]) (by simp (disch := (first | omega | (simp only [sP]; omega))) only [eS, eN, eC, k10]) (by simp (disch := (first | omega | (simp only [sP]; omega))) only [eS, eN, eC, k11]) (by simp (disch := (first | omega | (simp only [sP]; omega))) only [eS, eN, eC, k21]) (by simp (disch := (first | omega | (simp only [sP]; omega))) only [eS, eN, eC, k22]) (by simp (disch := (first | omega | (simp only [sP]; omega))) only [eS, eN, eC, k23]) (by simp (disch := (first | omega | (simp only [sP]; omega))) only [eS, eN, eC]) (Nat.le_trans hWV hV6.size) (hbV.trans hV6) h6 rfl _ (fun A' h => h)
    · intro hb'
      subst hb'
      simp only [Bool.false_eq_true, if_false, List.append_nil] at fin ⊢
      refine vc_skip ?_
      refine vc_sq_nil ?_
      exact fin _ V2 xs v9 (by simp only [size_put]; exact hsG) (by simp only [defers_put]; exact hdG) (by simp (disch := (first | omega | (simp only [sP]; omega))) only [eS, eN, eC, k0]) (by simp (disch := (first | omega | (simp only [sP]; omega))) only [eS, eN, eC, k1]) (by simp (disch := (first | omega | (simp only [sP]; omega))) only [eS, eN, eC, k2]) (by simp (disch := (first | omega | (simp only [sP]; omega))) only [eS, eN, eC, k7]) (by simp (disch := (first | omega | (simp only [sP]; omega))) only [eS, eN, eC, k10]) (by simp (disch := (first | omega | (simp only [sP]; omega))) only [eS, eN, eC, k11]) (by simp (disch := (first | omega | (simp only [sP]; omega))) only [eS, eN, eC, k21]) (by simp (disch := (first | omega | (simp only [sP]; omega))) only [eS, eN, eC, k22]) (by simp (disch := (first | omega | (simp only [sP]; omega))) only [eS, eN, eC, k23]) (by simp (disch := (first | omega | (simp only [sP]; omega))) only [eS, eN, eC, hv9]) (Nat.le_trans hWV hV2.size) (hbV.trans (hV2.mono hWV)) hown2 rfl _ (fun A' h => h)
  · rintro B V ⟨hm, hsB, hdB, g0, g1, g2, g7, g10, g11, g21, g22, g23, hWV, hbV, xs, hown, hxs⟩
    rw [Nat.sub_zero, ← hrl, List.take_length] at hxs
    rw [Nat.sub_zero] at g23
    refine vc_sq (vc_rg (by simp) ?_)
    refine r_lss (k := .i64) (m := (fs.len : Int)) (n := (fs.len : Int)) g23 g22 ?_
    refine dn ?_
    refine vc_sq (vc_cond (t := false) ?_ (fun h => by cases h) ?_)
    · simp (disch := (first | omega | (simp only [sP]; omega))) only [eS, eN, eC]
      simp only [Value.bool.injEq, decide_eq_false_iff_not]
      omega
    intro _
    refine vc_exit ?_
    simp only [Exit.then, Exit.inBlock, if_true]
    refine vc_sq_nil ?_
    cases t with
    | mk n s nl l u =>
    obtain ⟨s1, lv, uv, hts, _, hub, _⟩ := hrt
    have d4 : V.cell? ⟨b, 4, none⟩ = some uv := by
      have := c1.below hbV (by omega) 4 uv (by rw [hts]; rfl)
      simpa using this
    refine s_partM (w := w) (U := U) (fs := fs) (sv := sv) (uv := uv) (u := u) (b := b) (fx := fx) H HL HT hunk (by simp only [size_put]; exact hsB) (by simp only [defers_put]; exact hdB) (by simp (disch := (first | omega | (simp only [sP]; omega))) only [eS, eN, eC, g0]) (by simp (disch := (first | omega | (simp only [sP]; omega))) only [eS, eN, eC, g2]) (by simp (disch := (first | omega | (simp only [sP]; omega))) only [eS, eN, eC, g7]) rfl (by simp (disch := (first | omega | (simp only [sP]; omega))) only [eS, eN, eC, g10]) (by simp (disch := (first | omega | (simp only [sP]; omega))) only [eS, eN, eC, g11]) hsf hnt hfl' (by omega) d4 hub (by rw [hbb]; exact hU) (hb1.trans (hbV.mono hUW1)) (xs := xs) ?_ (R := fs.part ver fx (.mk n s nl l u)) ?_ hbig (fun a' w' h => h)
    · rw [show Act.eval _ (.tmp 9) = B.eval (.tmp 9) by simp (disch := (first | omega | (simp only [sP]; omega))) only [eS, eN, eC]]
      exact own_mono hown hUW1
    · rw [hpe, ← hxs]
      rfl
end
end Go.Km
