/- What the small functions of the spec do: Uvarint, width, counted, version. -/
import Derived.Test.YtnbhpeaapbpaeaaKmS1
set_option linter.unusedSimpArgs false
set_option linter.unusedVariables false
namespace Go.Km
open Go Go.RowKit
attribute [local irreducible] vc runOps runG runS runD

section
variable {P : Program} {a : Act} {w : World} {Q : Exit → Act → World → Prop} {r : List Oper}
theorem vc_rgS {ops : List Oper} (ord : List Nat) (ho : List.range ops.length = ord) (h : runS P ops Q ord a w) : vc P (rg ops) Q a w := by
  subst ho
  exact vc_runS h
theorem r_and64 {d xt x c yt ty p af g} {n : Nat} (hx : a.eval x = .int .u64 (n : Int)) (hc : c = .const (.int .u64 127)) (hn : n < 18446744073709551616) (h : runOps P Q r (a.put (some d) (.int .u64 ((n % 128 : Nat) : Int))) w) : runOps P Q (⟨some d, .binOp .and xt x c yt, ty, p, af, g⟩ :: r) a w := by
  subst hc
  refine r_bits (v := .int .u64 ((n % 128 : Nat) : Int)) hx rfl (by simp) ?_ h
  have := u64_and_nat n 127 hn (by decide)
  rw [show n &&& 127 = n % 128 from Nat.and_two_pow_sub_one_eq_mod n 7] at this
  show (pure (Value.int .u64 (bits .and .u64 (n : Int) 127)) : Sem Value) = _
  rw [show (127 : Int) = ((127 : Nat) : Int) from rfl, this]
theorem r_rem {d xt x y yt ty p af g k m n} (hx : a.eval x = .int k m) (hy : a.eval y = .int k n) (hn : n ≠ 0) (h : runOps P Q r (a.put (some d) (.int k (m.tmod n))) w) : runOps P Q (⟨some d, .binOp .rem xt x y yt, ty, p, af, g⟩ :: r) a w := by
  refine st ?_
  simp only [Oper.wp, execOp, hx, hy, eqGuard_at_int, binOp_rem, Op.intDiv, hn, if_false, Sem.run_bind, Sem.run_pure, Result.andThen_ok, Oper.upon_value]
  exact h
theorem or128 : ∀ n : Nat, n < 128 → n ||| 128 = n + 128 := by decide
theorem r_or8 {d xt x c yt ty p af g} {n : Nat} (hx : a.eval x = .int .u8 (n : Int)) (hc : c = .const (.int .u8 128)) (hn : n < 128) (h : runOps P Q r (a.put (some d) (.int .u8 ((n + 128 : Nat) : Int))) w) : runOps P Q (⟨some d, .binOp .or xt x c yt, ty, p, af, g⟩ :: r) a w := by
  subst hc
  refine r_bits (v := .int .u8 ((n + 128 : Nat) : Int)) hx rfl (by simp) ?_ h
  have := u8_or_nat n 128 (by omega) (by decide)
  rw [or128 n hn] at this
  show (pure (Value.int .u8 (bits .or .u8 (n : Int) 128)) : Sem Value) = _
  rw [show (128 : Int) = ((128 : Nat) : Int) from rfl, this]
theorem r_shr64 {d xt x c yt ty p af g} {n k mm : Nat} (hx : a.eval x = .int .u64 (n : Int)) (hc : c = .const (.int .u64 (k : Int))) (hm : 2 ^ (min k 64) = mm) (h : runOps P Q r (a.put (some d) (.int .u64 ((n / mm : Nat) : Int))) w) : runOps P Q (⟨some d, .binOp .shr xt x c yt, ty, p, af, g⟩ :: r) a w := by
  subst hc
  subst hm
  refine r_shr hx rfl (by simp) ?_
  have : (n : Int).fdiv (2 ^ (min ((k : Int).toNat) IntKind.u64.bits)) = ((n / 2 ^ (min k 64) : Nat) : Int) := by
    rw [Int.fdiv_eq_ediv_of_nonneg _ (Int.le_of_lt (Int.pow_pos (by decide)))]
    simp [IntKind.bits]
  rw [this]
  exact h
end

section
variable {P : Program} {E : Env} {w : World} {U : Nat}

/-- spec.width -/
def widthOf (k : Nat) : Nat := if k = 1 then 1 else if k = 2 ∨ k = 5 then 2 else if k = 3 then 4 else 8
theorem s_width (ht : Text P E.sWidth 1 11 #[.tmp 2] (c_sWidth E)) {k : Nat} (hk : k ≤ 11) : CallsV P E.sWidth #[.int .i64 (k : Int)] w fun v w' => v = .int .i64 (widthOf k : Nat) ∧ w' = w := by
  refine CallsV.enter ht (by simp) ?_
  intro a hsz hdf harg
  have e0 := harg 0 (.int .i64 k) (by simp)
  unfold c_sWidth
  (repeat' (first | (refine vc_sq ?_) | (refine vc_rg (by simp) ?_) | (first | refine r_move ?_ | refine r_assign ?_ | refine r_eql (by (try simp (disch := (first | omega | (simp only [sP]; omega))) only [eS, eN, eC, e0]) <;> (first | rfl | assumption)) (by (try simp (disch := (first | omega | (simp only [sP]; omega))) only [eS, eN, eC, e0]) <;> (first | rfl | assumption)) ?_) | (refine dn ?_) | (refine vc_block ?_) | (refine vc_cond (by (try simp (disch := (first | omega | (simp only [sP]; omega))) only [eS, eN, eC, e0]) <;> (first | rfl | assumption)) ?_ ?_ <;> intro hcnd <;> first | (exfalso; revert hcnd; decide) | skip) | (refine vc_skip ?_)))
  all_goals
    refine vc_ret ?_
    refine ⟨by simp only [defers_put]; exact hdf, _, results_one (by (try simp (disch := (first | omega | (simp only [sP]; omega))) only [eS, eN, eC]) <;> (first | rfl | assumption)), ?_, rfl⟩
    unfold widthOf
    (repeat' split) <;> first | rfl | (exfalso; simp only [beq_iff_eq, beq_eq_false_iff_ne, ne_eq] at *; omega)

theorem s_version (ht : Text P E.lVersion 2 10 #[.tmp 4] (c_lVersion E)) (i8 : intT P E.tU8 = some .u8) (ii : intT P E.tInt = some .i64) {n most : Nat} (hn : n < 256) (hm : most < 32768) :
    CallsV P E.lVersion #[.int .u8 n, .int .i64 most] w fun v w' => v = .int .i64 ((n % (most + 1) : Nat) : Int) ∧ w' = w := by
  refine CallsV.enter ht (by simp) ?_
  intro a hsz hdf harg
  have e0 := harg 0 (.int .u8 n) (by simp)
  have e1 := harg 1 (.int .i64 most) (by simp)
  unfold c_lVersion
  refine vc_sq (vc_rg (by simp) ?_)
  refine r_assign ?_
  refine dn ?_
  refine vc_sq (vc_rg (by simp) ?_)
  refine r_move ?_
  refine r_conv (by assumption) (by assumption) (by (try simp (disch := (first | omega | (simp only [sP]; omega))) only [eS, eN, eC, e0]) <;> (first | rfl | assumption)) ?_
  refine r_move ?_
  refine r_add (by (try simp (disch := (first | omega | (simp only [sP]; omega))) only [eS, eN, eC, e1]) <;> (first | rfl | assumption)) (by (try simp (disch := (first | omega | (simp only [sP]; omega))) only [eS, eN, eC, e1]) <;> (first | rfl | assumption)) ?_
  have h1 : IntKind.i64.wrap ((n : Nat) : Int) = n := wrap_i64 (by omega) (by omega)
  have h2 : IntKind.i64.wrap ((most : Int) + 1) = ((most + 1 : Nat) : Int) := by rw [wrap_i64 (by omega) (by omega)]; omega
  rw [h1, h2]
  refine r_rem (k := .i64) (m := (n : Int)) (n := ((most + 1 : Nat) : Int)) (by simp (disch := (first | omega | (simp only [sP]; omega))) only [eS, eN, eC]) (by simp (disch := (first | omega | (simp only [sP]; omega))) only [eS, eN, eC]) (by omega) ?_
  refine r_assign ?_
  refine dn ?_
  refine vc_sq (vc_ret ?_)
  refine ⟨by simp only [defers_put]; exact hdf, _, results_one (by (try simp (disch := (first | omega | (simp only [sP]; omega))) only [eS, eN, eC]) <;> (first | rfl | assumption)), ?_, rfl⟩
  rw [Int.tmod_eq_emod_of_nonneg (by omega)]
  simp

theorem uvF_len (f n : Nat) : 1 ≤ (uvF f n).length := uvF_pos f n
theorem s_uvar (ht : Text P E.sUvar 1 20 #[.tmp 2] (c_sUvar E)) (hB : rowB P E.tBytes E.tU8 1 = true) (i8 : intT P E.tU8 = some .u8) (iu : intT P E.tU64 = some .u64) {n : Nat} (hn : n < 18446744073709551616) (hU : U ≤ w.heap.size) :
    Gives P E E.sUvar U #[.int .u64 n] (Go.Km.uvar n) w := by
  refine CallsV.enter ht (by simp) ?_
  intro a hsz hdf harg
  have e0 := harg 0 (.int .u64 n) (by simp)
  unfold c_sUvar
  refine vc_sq (vc_rg (by simp) ?_)
  refine r_assign ?_
  refine dn ?_
  refine vc_sq (vc_rg (by simp) ?_)
  refine r_assign ?_
  refine dn ?_
  refine vc_sq (vc_block (vc_count (fun m A W => A.tmps.size = 20 ∧ A.defers = [] ∧ U ≤ W.heap.size ∧ Below U w W ∧ ∃ f r : Nat, ∃ xs : List UInt8, f ≤ 9 ∧ m + 1 = (uvF f r).length ∧ r < 18446744073709551616 ∧ r < 128 ^ (f + 1) ∧ A.eval (.tmp 0) = .int .u64 (r : Int) ∧
    W.ownsRow U E.tU8 1 (A.eval (.tmp 3)) xs.length (xs.map bv) ∧ xs ++ uvF f r = Go.Km.uvar n ∧ xs.length + f = 9) ((Go.Km.uvar n).length - 1) ?_ ?_ ?_))
  · refine ⟨by simp only [size_put]; exact hsz, by simp only [defers_put]; exact hdf, hU, Below.refl _ _, 9, n, [], Nat.le_refl _, ?_, hn, by omega, (by simp (disch := (first | omega | (simp only [sP]; omega))) only [eS, eN, eC, e0]), ?_, rfl, rfl⟩
    · have := uvF_pos 9 n
      unfold Go.Km.uvar
      omega
    · rw [show Act.eval _ (.tmp 3) = Value.slice none 0 0 by simp (disch := (first | omega | (simp only [sP]; omega))) only [eS, eN, eC]]
      exact World.ownsRow_nil _ _ _ _
  · rintro m A W ⟨hs, hd, hUW, hbl, f, r, xs, hf, hm, hr, hrf, h0, hown, hxs, hlf⟩
    have hge : 128 ≤ r := by
      rcases Nat.lt_or_ge r 128 with h | h
      · exfalso
        cases f with
        | zero => simp [uvF] at hm
        | succ f => rw [uvF_small h] at hm; simp at hm
      · exact h
    obtain ⟨f', rfl⟩ : ∃ f', f = f' + 1 := by
      cases f with
      | zero => exfalso; rw [Nat.zero_add, Nat.pow_one] at hrf; omega
      | succ f => exact ⟨f, rfl⟩
    rw [uvF_big hge] at hm hxs
    refine vc_sq (vc_sq (vc_rg (by simp) ?_))
    refine r_move ?_
    refine r_gtr (by (try simp (disch := (first | omega | (simp only [sP]; omega))) only [eS, eN, eC, h0]) <;> (first | rfl | assumption)) (by (try simp (disch := (first | omega | (simp only [sP]; omega))) only [eS, eN, eC, h0]) <;> (first | rfl | assumption)) ?_
    refine dn ?_
    refine vc_sq (vc_cond (t := true) ?_ ?_ (fun h => by cases h))
    · simp (disch := (first | omega | (simp only [sP]; omega))) only [eS, eN, eC]
      simp only [Value.bool.injEq, decide_eq_true_eq]
      omega
    intro _
    refine vc_skip (vc_sq_nil ?_)
    refine vc_sq (vc_block (vc_sq (vc_rg (by simp) ?_)))
    refine r_move ?_
    refine r_move ?_
    refine r_and64 (n := r) (by simp (disch := (first | omega | (simp only [sP]; omega))) only [eS, eN, eC, h0]) rfl hr ?_
    refine r_conv (k := .u64) (k' := .u8) (m := ((r % 128 : Nat) : Int)) iu i8 (by simp (disch := (first | omega | (simp only [sP]; omega))) only [eS, eN, eC]) ?_
    have hw : IntKind.u8.wrap ((r % 128 : Nat) : Int) = ((r % 128 : Nat) : Int) := by rw [wrap8]; omega
    rw [hw]
    refine r_or8 (n := r % 128) (by simp (disch := (first | omega | (simp only [sP]; omega))) only [eS, eN, eC]) rfl (by omega) ?_
    refine r_litApp (U := U) (xs := xs) (zs := [((r % 128 + 128 : Nat) : Int)]) hB ?_ (by intro z hz; simp only [List.mem_cons, List.not_mem_nil, or_false] at hz; subst hz; omega) rfl (by omega) (by omega) rfl (by omega) (by simp only [size_put]; omega) (v := _) ?_ hUW ?_ ?_
    · simp only [List.map_toArray, List.map_cons, List.map_nil]
      simp (disch := (first | omega | (simp only [sP]; omega))) only [eS, eN, eC]
      rfl
    · simp (disch := (first | omega | (simp only [sP]; omega))) only [eS, eN, eC]
      exact hown
    · unfold big; omega
    intro v' w' h1 h2
    refine r_assign ?_
    refine dn ?_
    refine vc_sq (vc_rg (by simp) ?_)
    refine r_move ?_
    refine r_shr64 (n := r) (k := 7) (mm := 128) (by simp (disch := (first | omega | (simp only [sP]; omega))) only [eS, eN, eC, h0]) rfl (by decide) ?_
    refine r_assign ?_
    refine dn ?_
    refine vc_sq_nil ?_
    refine vc_sq_nil ?_
    refine ⟨by simp only [size_put]; exact hs, by simp only [defers_put]; exact hd, Nat.le_trans hUW h2.size, hbl.trans h2, f', r / 128, xs ++ [UInt8.ofNat (r % 128 + 128)], by omega, by simpa using hm, by omega, ?_, (by simp (disch := (first | omega | (simp only [sP]; omega))) only [eS, eN, eC]), ?_, ?_, ?_⟩
    · rw [Nat.pow_succ] at hrf
      omega
    · rw [show Act.eval _ (.tmp 3) = v' by simp (disch := (first | omega | (simp only [sP]; omega))) only [eS, eN, eC]]
      exact h1
    · rw [← hxs]; simp
    · simp only [List.length_append, List.length_cons, List.length_nil]; omega
  · rintro A W ⟨hs, hd, hUW, hbl, f, r, xs, hf, hm, hr, hrf, h0, hown, hxs, hlf⟩
    have hlt : r < 128 := by
      rcases Nat.lt_or_ge r 128 with h | h
      · exact h
      · exfalso
        cases f with
        | zero => rw [Nat.zero_add, Nat.pow_one] at hrf; omega
        | succ f =>
          rw [uvF_big h] at hm
          have := uvF_pos f (r / 128)
          simp only [List.length_cons] at hm
          omega
    have huv : uvF f r = [UInt8.ofNat r] := by
      cases f with
      | zero => rfl
      | succ f => exact uvF_small hlt
    refine vc_sq (vc_sq (vc_rg (by simp) ?_))
    refine r_move ?_
    refine r_gtr (by (try simp (disch := (first | omega | (simp only [sP]; omega))) only [eS, eN, eC, h0]) <;> (first | rfl | assumption)) (by (try simp (disch := (first | omega | (simp only [sP]; omega))) only [eS, eN, eC, h0]) <;> (first | rfl | assumption)) ?_
    refine dn ?_
    refine vc_sq (vc_cond (t := false) ?_ (fun h => by cases h) ?_)
    · simp (disch := (first | omega | (simp only [sP]; omega))) only [eS, eN, eC]
      simp only [Value.bool.injEq, decide_eq_false_iff_not]
      omega
    intro _
    refine vc_exit ?_
    simp only [Exit.then, Exit.inBlock, if_true]
    refine vc_sq (vc_rg (by simp) ?_)
    refine r_move ?_
    refine r_move ?_
    refine r_conv (by assumption) (by assumption) (by (try simp (disch := (first | omega | (simp only [sP]; omega))) only [eS, eN, eC, h0]) <;> (first | rfl | assumption)) ?_
    refine r_litApp (U := U) (xs := xs) (zs := [IntKind.u8.wrap (r : Int)]) hB ?_ (by intro z hz; simp only [List.mem_cons, List.not_mem_nil, or_false] at hz; subst hz; exact wrap8_ok _) rfl (by omega) (by omega) rfl (by omega) (by simp only [size_put]; omega) (v := _) ?_ hUW ?_ ?_
    · simp only [List.map_toArray, List.map_cons, List.map_nil]
      simp (disch := (first | omega | (simp only [sP]; omega))) only [eS, eN, eC]
      rfl
    · simp (disch := (first | omega | (simp only [sP]; omega))) only [eS, eN, eC]
      exact hown
    · unfold big; omega
    intro v' w' h1 h2
    refine r_assign ?_
    refine dn ?_
    refine vc_sq (vc_ret ?_)
    refine ⟨by simp only [defers_put]; exact hd, v', results_one (by simp (disch := (first | omega | (simp only [sP]; omega))) only [eS, eN, eC]), ?_, hbl.trans h2⟩
    rw [← hxs, huv]
    rw [List.map_cons, List.map_nil, o8_nat] at h1
    exact h1

/-- spec.counted -/
def cnt (flex null : Bool) (n size : Nat) : List UInt8 := if flex && null then [0] else if flex then Go.Km.uvar (n + 1) else if null then be size (-1) else be size n
theorem s_counted (ht : Text P E.sCounted 4 28 #[.tmp 8] (c_sCounted E)) (htu : Text P E.sUvar 1 20 #[.tmp 2] (c_sUvar E)) (htf : Text P E.sFixed 2 22 #[.tmp 4] (c_sFixed E)) (hB : rowB P E.tBytes E.tU8 1 = true) (i8 : intT P E.tU8 = some .u8) (iu : intT P E.tU64 = some .u64) (i64 : intT P E.tI64 = some .i64) (ii : intT P E.tInt = some .i64)
    {flex null : Bool} {n size : Nat} (hn : n ≤ big) (hs : size ≤ 8) (hU : U ≤ w.heap.size) : Gives P E E.sCounted U #[.bool flex, .bool null, .int .i64 n, .int .i64 size] (cnt flex null n size) w := by
  refine CallsV.enter ht (by simp) ?_
  intro a hsz hdf harg
  have e0 := harg 0 (.bool flex) (by simp)
  have e1 := harg 1 (.bool null) (by simp)
  have e2 := harg 2 (.int .i64 n) (by simp)
  have e3 := harg 3 (.int .i64 size) (by simp)
  unfold big at hn
  unfold c_sCounted
  refine vc_sq (vc_rg (by simp) ?_)
  refine r_assign ?_
  refine dn ?_
  have hA : ∀ A : Act, A.tmps.size = 28 → A.defers = [] → (∀ k : Nat, k < 4 → A.eval (.tmp k) = a.eval (.tmp k)) → flex = false → null = false → vc P (sq [(rg [⟨some 25, .move (.tmp 2), E.tInt, "", #[], none⟩,
      ⟨some 26, .move (.tmp 3), E.tInt, "", #[], none⟩,
      ⟨some 27, .call { callee := .value (.func E.sFixed), args := #[(.tmp 25), (.tmp 26)], argTypes := #[E.tI64, E.tInt] }, E.tBytes, "", #[], none⟩,
      ⟨some 8, .assign (.tmp 27), E.tBytes, "", #[], none⟩]), .ret]) (Out P #[.tmp 8] fun v w' => w'.ownsRow U E.tU8 1 v (cnt flex null n size).length ((cnt flex null n size).map bv) ∧ Below U w w') A w := by
    intro A hs2 hd hk hf hn0
    subst hf; subst hn0
    have f2 := (hk 2 (by decide)).trans e2
    have f3 := (hk 3 (by decide)).trans e3
    refine vc_sq (vc_rg (by simp) ?_)
    refine r_move ?_
    refine r_move ?_
    refine r_call' (args := #[.int .i64 n, .int .i64 size]) ?_ (s_fixed (U := U) (n := (n : Int)) htf hB i8 i64 ii hs hU) ?_
    · simp only [List.map_toArray, List.map_cons, List.map_nil]
      simp (disch := (first | omega | (simp only [sP]; omega))) only [eS, eN, eC, f2, f3]
    intro v w' hs
    refine r_assign ?_
    refine dn ?_
    refine vc_sq (vc_ret ?_)
    exact ⟨by simp only [defers_put]; exact hd, v, results_one (by simp (disch := (first | omega | (simp only [sP]; omega))) only [eS, eN, eC]), hs⟩
  refine vc_sq (vc_block ?_)
  refine vc_sq (vc_rgS [0, 1, 2, 3, 4] rfl ?_)
  (refine runS_do rfl (wants_none rfl) ?_; refine r_move ?_; refine dn (runS_then ?_))
  (refine runS_do rfl (wants_none rfl) ?_; refine r_move ?_; refine dn (runS_then ?_))
  cases flex with
  | true =>
    (refine runS_do rfl (by rw [wants_some (b := true) rfl rfl (by (try simp (disch := (first | omega | (simp only [sP]; omega))) only [eS, eN, eC, e0, e1]) <;> (first | rfl | assumption))]; rfl) ?_; refine r_move ?_; refine dn (runS_then ?_))
    (refine runS_do rfl (wants_none rfl) ?_; (refine r_pickT ?_ ?_; (try simp (disch := (first | omega | (simp only [sP]; omega))) only [eS, eN, eC, e0, e1]) <;> (first | rfl | assumption)); refine dn (runS_then ?_))
    (refine runS_do rfl (wants_none rfl) ?_; refine r_assign ?_; refine dn (runS_then ?_))
    refine runS_nil ?_
    refine vc_sq (vc_cond (t := null) (by (try simp (disch := (first | omega | (simp only [sP]; omega))) only [eS, eN, eC, e1]) <;> (first | rfl | assumption)) ?_ ?_)
    · intro hnl
      subst hnl
      refine vc_sq (vc_rg (by simp) ?_)
      refine r_buildSlice (s := 1) (vs := [.int .u8 0]) hB ?_ rfl (by intro v hv; simp only [List.mem_cons, List.not_mem_nil, or_false] at hv; subst hv; rfl) (by omega) (by omega) ?_
      · simp only [List.map_toArray, List.map_cons, List.map_nil]
        rfl
      refine r_assign ?_
      refine dn ?_
      refine vc_sq (vc_ret ?_)
      refine ⟨by simp only [defers_put]; exact hdf, _, results_one (by (try simp (disch := (first | omega | (simp only [sP]; omega))) only [eS, eN, eC]) <;> (first | rfl | assumption)), ?_, (Below.refl U w).alloc (o := .cells _ _) hU⟩
      exact World.ownsRow_lit w _ 1 hU (by decide) (by decide)
    · intro hnl
      subst hnl
      refine vc_sq (vc_rg (by simp) ?_)
      refine r_move ?_
      refine r_assign ?_
      refine dn ?_
      refine vc_sq (vc_cond (t := true) (by (try simp (disch := (first | omega | (simp only [sP]; omega))) only [eS, eN, eC, e0]) <;> (first | rfl | assumption)) ?_ (fun h => by cases h))
      intro _
      have hw : IntKind.u64.wrap (IntKind.u64.wrap (n : Int) + 1) = ((n + 1 : Nat) : Int) := by rw [wrap_u64, wrap_u64]; omega
      refine vc_sq (vc_rg (by simp) ?_)
      refine r_move ?_
      refine r_conv (by assumption) (by assumption) (by (try simp (disch := (first | omega | (simp only [sP]; omega))) only [eS, eN, eC, e2]) <;> (first | rfl | assumption)) ?_
      refine r_add (by (try simp (disch := (first | omega | (simp only [sP]; omega))) only [eS, eN, eC]) <;> (first | rfl | assumption)) (by (try simp (disch := (first | omega | (simp only [sP]; omega))) only [eS, eN, eC]) <;> (first | rfl | assumption)) ?_
      rw [hw]
      refine r_call' (args := #[.int .u64 ((n + 1 : Nat) : Int)]) ?_ (s_uvar (U := U) htu hB i8 iu (by omega) hU) ?_
      · simp only [List.map_toArray, List.map_cons, List.map_nil]
        simp (disch := (first | omega | (simp only [sP]; omega))) only [eS, eN, eC]
      intro v w' hs
      refine r_assign ?_
      refine dn ?_
      refine vc_sq (vc_ret ?_)
      exact ⟨by simp only [defers_put]; exact hdf, v, results_one (by simp (disch := (first | omega | (simp only [sP]; omega))) only [eS, eN, eC]), hs⟩
  | false =>
    (refine runS_no rfl (by rw [wants_some (b := false) rfl rfl (by (try simp (disch := (first | omega | (simp only [sP]; omega))) only [eS, eN, eC, e0]) <;> (first | rfl | assumption))]; rfl) ?_)
    (refine runS_do rfl (wants_none rfl) ?_; (refine r_pickF ?_ ?_; (try simp (disch := (first | omega | (simp only [sP]; omega))) only [eS, eN, eC, e0]) <;> (first | rfl | assumption)); refine dn (runS_then ?_))
    (refine runS_do rfl (wants_none rfl) ?_; refine r_assign ?_; refine dn (runS_then ?_))
    refine runS_nil ?_
    refine vc_sq (vc_cond (t := false) (by (try simp (disch := (first | omega | (simp only [sP]; omega))) only [eS, eN, eC]) <;> (first | rfl | assumption)) (fun h => by cases h) ?_)
    intro _
    refine vc_sq (vc_rg (by simp) ?_)
    refine r_move ?_
    refine r_assign ?_
    refine dn ?_
    refine vc_sq (vc_cond (t := false) (by (try simp (disch := (first | omega | (simp only [sP]; omega))) only [eS, eN, eC, e0]) <;> (first | rfl | assumption)) (fun h => by cases h) ?_)
    intro _
    refine vc_sq (vc_rg (by simp) ?_)
    refine r_move ?_
    refine r_assign ?_
    refine dn ?_
    refine vc_sq (vc_cond (t := null) (by (try simp (disch := (first | omega | (simp only [sP]; omega))) only [eS, eN, eC, e1]) <;> (first | rfl | assumption)) ?_ ?_)
    · intro hnl
      subst hnl
      refine vc_sq (vc_rg (by simp) ?_)
      refine r_move ?_
      refine r_call' (args := #[.int .i64 (-1), .int .i64 size]) ?_ (s_fixed (U := U) (n := -1) htf hB i8 i64 ii hs hU) ?_
      · simp only [List.map_toArray, List.map_cons, List.map_nil]
        simp (disch := (first | omega | (simp only [sP]; omega))) only [eS, eN, eC, e3]
      intro v w' hs
      refine r_assign ?_
      refine dn ?_
      refine vc_sq (vc_ret ?_)
      exact ⟨by simp only [defers_put]; exact hdf, v, results_one (by simp (disch := (first | omega | (simp only [sP]; omega))) only [eS, eN, eC]), hs⟩
    · intro hnl
      refine vc_skip ?_
      refine vc_sq_nil ?_
      refine vc_sq_nil ?_
      refine vc_sq_nil ?_
      exact hA _ (by simp only [size_put]; exact hsz) (by simp only [defers_put]; exact hdf) (fun k hk => by simp (disch := (first | omega | (simp only [sP]; omega))) only [eS, eN, eC]) rfl hnl
end
end Go.Km
