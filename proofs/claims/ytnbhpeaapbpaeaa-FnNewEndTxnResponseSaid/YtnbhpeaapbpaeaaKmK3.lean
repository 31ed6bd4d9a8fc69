/- What kbin's AppendUvarint does. -/
import Derived.Test.YtnbhpeaapbpaeaaKmK2
set_option linter.unusedSimpArgs false
set_option linter.unusedVariables false
namespace Go.Km
open Go Go.RowKit
attribute [local irreducible] vc runOps runG runS runD

/-- A number's length in bits. -/
def BitLen (n k : Nat) : Prop := n < 2 ^ k ∧ (k = 0 ∨ 2 ^ (k - 1) ≤ n)
def tab8 : List UInt8 := [0, 1, 2, 2, 3, 3, 3, 3, 4, 4, 4, 4, 4, 4, 4, 4, 5, 5, 5, 5, 5, 5, 5, 5, 5, 5, 5, 5, 5, 5, 5, 5, 6, 6, 6, 6, 6, 6, 6, 6, 6, 6, 6, 6, 6, 6, 6, 6, 6, 6, 6, 6, 6, 6, 6, 6, 6, 6, 6, 6, 6, 6, 6, 6, 7, 7, 7, 7, 7, 7, 7, 7, 7, 7, 7, 7, 7, 7, 7, 7, 7, 7, 7, 7, 7, 7, 7, 7, 7, 7, 7, 7, 7, 7, 7, 7, 7, 7, 7, 7, 7, 7, 7, 7, 7, 7, 7, 7, 7, 7, 7, 7, 7, 7, 7, 7, 7, 7, 7, 7, 7, 7, 7, 7, 7, 7, 7, 7, 8, 8, 8, 8, 8, 8, 8, 8, 8, 8, 8, 8, 8, 8, 8, 8, 8, 8, 8, 8, 8, 8, 8, 8, 8, 8, 8, 8, 8, 8, 8, 8, 8, 8, 8, 8, 8, 8, 8, 8, 8, 8, 8, 8, 8, 8, 8, 8, 8, 8, 8, 8, 8, 8, 8, 8, 8, 8, 8, 8, 8, 8, 8, 8, 8, 8, 8, 8, 8, 8, 8, 8, 8, 8, 8, 8, 8, 8, 8, 8, 8, 8, 8, 8, 8, 8, 8, 8, 8, 8, 8, 8, 8, 8, 8, 8, 8, 8, 8, 8, 8, 8, 8, 8, 8, 8, 8, 8, 8, 8, 8, 8, 8, 8, 8, 8, 8, 8, 8, 8, 8, 8, 8, 8, 8, 8, 8, 8]
def tabU : List UInt8 := [1, 1, 1, 1, 1, 1, 1, 1, 2, 2, 2, 2, 2, 2, 2, 3, 3, 3, 3, 3, 3, 3, 4, 4, 4, 4, 4, 4, 4, 5, 5, 5, 5, 5, 5, 5, 6, 6, 6, 6, 6, 6, 6, 7, 7, 7, 7, 7, 7, 7, 8, 8, 8, 8, 8, 8, 8, 9, 9, 9, 9, 9, 9, 9, 10, 0, 0, 0, 0, 0, 0, 0, 0, 0, 0, 0, 0, 0, 0, 0, 0, 0, 0, 0, 0, 0, 0, 0, 0, 0, 0, 0, 0, 0, 0, 0, 0, 0, 0, 0, 0, 0, 0, 0, 0, 0, 0, 0, 0, 0, 0, 0, 0, 0, 0, 0, 0, 0, 0, 0, 0, 0, 0, 0, 0, 0, 0, 0, 0, 0, 0, 0, 0, 0, 0, 0, 0, 0, 0, 0, 0, 0, 0, 0, 0, 0, 0, 0, 0, 0, 0, 0, 0, 0, 0, 0, 0, 0, 0, 0, 0, 0, 0, 0, 0, 0, 0, 0, 0, 0, 0, 0, 0, 0, 0, 0, 0, 0, 0, 0, 0, 0, 0, 0, 0, 0, 0, 0, 0, 0, 0, 0, 0, 0, 0, 0, 0, 0, 0, 0, 0, 0, 0, 0, 0, 0, 0, 0, 0, 0, 0, 0, 0, 0, 0, 0, 0, 0, 0, 0, 0, 0, 0, 0, 0, 0, 0, 0, 0, 0, 0, 0, 0, 0, 0, 0, 0, 0, 0, 0, 0, 0, 0, 0, 0, 0, 0, 0, 0, 0, 0, 0, 0, 0, 0, 0]
theorem tab_at (T : List UInt8) (h' : (List.range 256).all (fun x => match T[x]? with | some b => decide (x < 2 ^ b.toNat) && (decide (b.toNat = 0) || decide (2 ^ (b.toNat - 1) ≤ x)) && decide (b.toNat ≤ 8) | none => false) = true) (x : Nat) (hx : x < 256) :
    ∃ b, (⟨T.toArray⟩ : ByteArray)[x]? = some b ∧ BitLen x b.toNat ∧ b.toNat ≤ 8 := by
  have h2 := List.all_eq_true.1 h' x (List.mem_range.2 hx)
  cases hb : T[x]? with
  | none => rw [hb] at h2; cases h2
  | some b =>
    rw [hb] at h2
    simp only [Bool.and_eq_true, Bool.or_eq_true, decide_eq_true_eq] at h2
    refine ⟨b, ?_, h2.1, h2.2⟩
    have hs : x < T.length := by
      rcases Nat.lt_or_ge x T.length with h | h
      · exact h
      · rw [List.getElem?_eq_none h] at hb; cases hb
    rw [getElem?_pos _ _ (by simpa [ByteArray.size] using hs)]
    rw [List.getElem?_eq_getElem hs] at hb
    exact hb
theorem tab8_at (x : Nat) (hx : x < 256) : ∃ b, (⟨tab8.toArray⟩ : ByteArray)[x]? = some b ∧ BitLen x b.toNat ∧ b.toNat ≤ 8 := tab_at tab8 (by kernel_rfl) x hx
theorem tabV_at (T : List UInt8) (h' : (List.range 33).all (fun k => match T[k]? with | some b => decide (b.toNat = if k ≤ 7 then 1 else if k ≤ 14 then 2 else if k ≤ 21 then 3 else if k ≤ 28 then 4 else 5) | none => false) = true) (k : Nat) (hk : k ≤ 32) :
    ∃ b, (⟨T.toArray⟩ : ByteArray)[k]? = some b ∧ b.toNat = if k ≤ 7 then 1 else if k ≤ 14 then 2 else if k ≤ 21 then 3 else if k ≤ 28 then 4 else 5 := by
  have h2 := List.all_eq_true.1 h' k (List.mem_range.2 (by omega))
  cases hb : T[k]? with
  | none => rw [hb] at h2; cases h2
  | some b =>
    rw [hb] at h2
    refine ⟨b, ?_, of_decide_eq_true h2⟩
    have hs : k < T.length := by
      rcases Nat.lt_or_ge k T.length with h | h
      · exact h
      · rw [List.getElem?_eq_none h] at hb; cases hb
    rw [getElem?_pos _ _ (by simpa [ByteArray.size] using hs)]
    rw [List.getElem?_eq_getElem hs] at hb
    exact hb
theorem tabU_at (k : Nat) (hk : k ≤ 32) : ∃ b, (⟨tabU.toArray⟩ : ByteArray)[k]? = some b ∧ b.toNat = if k ≤ 7 then 1 else if k ≤ 14 then 2 else if k ≤ 21 then 3 else if k ≤ 28 then 4 else 5 := tabV_at tabU (by kernel_rfl) k hk

/-- How many octets AppendUvarint writes. -/
def uvl (n : Nat) : Nat := if n < 128 then 1 else if n < 16384 then 2 else if n < 2097152 then 3 else if n < 268435456 then 4 else 5
theorem uvl_spec {n : Nat} (hn : n < 4294967296) : (uvl n = 1 ∧ n < 128) ∨ (uvl n = 2 ∧ 128 ≤ n ∧ n < 16384) ∨ (uvl n = 3 ∧ 16384 ≤ n ∧ n < 2097152) ∨ (uvl n = 4 ∧ 2097152 ≤ n ∧ n < 268435456) ∨ (uvl n = 5 ∧ 268435456 ≤ n ∧ n < 4294967296) := by
  unfold uvl
  by_cases h1 : n < 128
  · rw [if_pos h1]; omega
  rw [if_neg h1]
  by_cases h2 : n < 16384
  · rw [if_pos h2]; omega
  rw [if_neg h2]
  by_cases h3 : n < 2097152
  · rw [if_pos h3]; omega
  rw [if_neg h3]
  by_cases h4 : n < 268435456
  · rw [if_pos h4]; omega
  rw [if_neg h4]; omega
theorem uvl_bit {n k : Nat} (h : BitLen n k) (hk : k ≤ 32) : (if k ≤ 7 then 1 else if k ≤ 14 then 2 else if k ≤ 21 then 3 else if k ≤ 28 then 4 else 5) = uvl n := by
  obtain ⟨h1, h2⟩ := h
  have hp : ∀ i j : Nat, i ≤ j → (2 : Nat) ^ i ≤ 2 ^ j := fun i j h => Nat.pow_le_pow_right (by decide) h
  unfold uvl
  by_cases h7 : k ≤ 7
  · have := hp k 7 h7
    simp [h7, show n < 128 by omega]
  · have a1 := hp 7 (k - 1) (by omega)
    by_cases h14 : k ≤ 14
    · have := hp k 14 h14
      simp [h7, h14, show ¬ n < 128 by omega, show n < 16384 by omega]
    · have a2 := hp 14 (k - 1) (by omega)
      by_cases h21 : k ≤ 21
      · have := hp k 21 h21
        simp [h7, h14, h21, show ¬ n < 128 by omega, show ¬ n < 16384 by omega, show n < 2097152 by omega]
      · have a3 := hp 21 (k - 1) (by omega)
        by_cases h28 : k ≤ 28
        · have := hp k 28 h28
          simp [h7, h14, h21, h28, show ¬ n < 128 by omega, show ¬ n < 16384 by omega, show ¬ n < 2097152 by omega, show n < 268435456 by omega]
        · have a4 := hp 28 (k - 1) (by omega)
          simp [h7, h14, h21, h28, show ¬ n < 128 by omega, show ¬ n < 16384 by omega, show ¬ n < 2097152 by omega, show ¬ n < 268435456 by omega]
theorem bit_shift {n b m L : Nat} (hb : b ≤ 24) (hm : m = n / 2 ^ b) (hL : BitLen m L) (h8 : L ≤ 8) (h1 : b = 0 ∨ 1 ≤ m) : BitLen n (b + L) := by
  obtain ⟨h2, h3⟩ := hL
  have hpos : 0 < 2 ^ b := Nat.pow_pos (by decide)
  refine ⟨?_, ?_⟩
  · rw [Nat.pow_add, Nat.mul_comm]
    rw [hm] at h2
    exact (Nat.div_lt_iff_lt_mul hpos).1 h2
  · rcases h3 with h3 | h3
    · subst h3
      rw [Nat.pow_zero] at h2
      rcases h1 with h1 | h1
      · left; omega
      · omega
    · by_cases hL0 : L = 0
      · subst hL0
        rw [Nat.pow_zero] at h2
        rcases h1 with h1 | h1
        · left; omega
        · omega
      · right
        rw [show b + L - 1 = (L - 1) + b by omega, Nat.pow_add]
        rw [hm] at h3
        exact (Nat.le_div_iff_mul_le hpos).1 h3

def noG (l : List Oper) : Bool := l.all fun o => o.guard.isNone
theorem vc_rg' {P : Program} {Q : Exit → Act → World → Prop} {a : Act} {w : World} {l : List Oper} (hg : noG l = true) (h : runOps P Q l a w) : vc P (rg l) Q a w :=
  vc_rg (fun o ho => by have := List.all_eq_true.1 hg o ho; simpa using this) h
section
variable {P : Program} {a : Act} {w : World} {r : List Oper} {Q : Exit → Act → World → Prop}
theorem r_andN {d xt x c yt ty p af g} {n : Nat} (hx : a.eval x = .int .u32 (n : Int)) (hc : c = .const (.int .u32 127)) (hn : n < 4294967296) (h : runOps P Q r (a.put (some d) (.int .u32 ((n % 128 : Nat) : Int))) w) : runOps P Q (⟨some d, .binOp .and xt x c yt, ty, p, af, g⟩ :: r) a w := by
  subst hc
  refine r_bits (v := .int .u32 ((n % 128 : Nat) : Int)) hx rfl (by simp) ?_ h
  have := u32_and_nat n 127 hn (by decide)
  rw [show n &&& 127 = n % 128 from Nat.and_two_pow_sub_one_eq_mod n 7] at this
  show (pure (Value.int .u32 (bits .and .u32 (n : Int) 127)) : Sem Value) = _
  rw [show (127 : Int) = ((127 : Nat) : Int) from rfl, this]
theorem r_orN {d xt x c yt ty p af g} {n : Nat} (hx : a.eval x = .int .u32 (n : Int)) (hc : c = .const (.int .u32 128)) (hn : n < 128) (h : runOps P Q r (a.put (some d) (.int .u32 ((n + 128 : Nat) : Int))) w) : runOps P Q (⟨some d, .binOp .or xt x c yt, ty, p, af, g⟩ :: r) a w := by
  subst hc
  refine r_bits (v := .int .u32 ((n + 128 : Nat) : Int)) hx rfl (by simp) ?_ h
  have := u32_or_nat n 128 (by omega) (by decide)
  rw [show n ||| 128 = n + 128 by have : ∀ n, n < 128 → n ||| 128 = n + 128 := by decide
                                  exact this n hn] at this
  show (pure (Value.int .u32 (bits .or .u32 (n : Int) 128)) : Sem Value) = _
  rw [show (128 : Int) = ((128 : Nat) : Int) from rfl, this]
theorem r_shrN {d xt x c yt ty p af g} {n k mm : Nat} (hx : a.eval x = .int .u32 (n : Int)) (hc : c = .const (.int .u64 (k : Int))) (hm : 2 ^ (min k 32) = mm) (h : runOps P Q r (a.put (some d) (.int .u32 ((n / mm : Nat) : Int))) w) : runOps P Q (⟨some d, .binOp .shr xt x c yt, ty, p, af, g⟩ :: r) a w := by
  subst hc
  subst hm
  refine r_shr hx rfl (by simp) ?_
  have : (n : Int).fdiv (2 ^ (min ((k : Int).toNat) IntKind.u32.bits)) = ((n / 2 ^ (min k 32) : Nat) : Int) := by
    rw [Int.fdiv_eq_ediv_of_nonneg _ (Int.le_of_lt (Int.pow_pos (by decide)))]
    simp [IntKind.bits]
  rw [this]
  exact h
end

section
variable {P : Program} {E : Env} {w : World} {U : Nat}

set_option maxRecDepth 20000 in
theorem k_len32 (ht : Text P E.len32 1 19 #[.tmp 2] (c_len32 E)) (i8 : intT P E.tU8 = some .u8) (iu : intT P E.tU32 = some .u32) (ii : intT P E.tInt = some .i64) (hs9 : P.underlying E.tStr = some .string) {n : Nat} (hn : n < 4294967296) :
    CallsV P E.len32 #[.int .u32 n] w fun v w' => (∃ k : Nat, v = .int .i64 k ∧ k ≤ 32 ∧ BitLen n k) ∧ w' = w := by
  refine CallsV.enter ht (by simp) ?_
  intro a hsz hdf harg
  have e0 := harg 0 (.int .u32 n) (by simp)
  unfold c_len32
  refine vc_sq (vc_rg (by simp) ?_)
  refine r_assign ?_
  refine dn ?_
  have t2 : ∀ (A : Act) (b m : Nat), A.tmps.size = 19 → A.defers = [] → A.eval (.tmp 0) = .int .u32 (m : Int) → A.eval (.tmp 2) = .int .i64 (b : Int) → b ≤ 24 → m = n / 2 ^ b → m < 256 → (b = 0 ∨ 1 ≤ m) →
      vc P (sq [(rg [⟨some 13, .move (.tmp 2), E.tInt, "", #[], none⟩, ⟨some 14, .move (.tmp 0), E.tU32, "", #[], none⟩, ⟨some 15, .convert E.tU32 E.tU8 (.tmp 14), E.tU8, "", #[], none⟩, ⟨some 16, .index E.tStr (.const (.string ⟨tab8.toArray⟩)) (.tmp 15), E.tU8, "", #[], none⟩,
        ⟨some 17, .convert E.tU8 E.tInt (.tmp 16), E.tInt, "", #[], none⟩, ⟨some 18, .binOp .add E.tInt (.tmp 13) (.tmp 17) E.tInt, E.tInt, "", #[], none⟩, ⟨some 2, .assign (.tmp 18), E.tInt, "", #[], none⟩]), .ret]) (Out P #[.tmp 2] fun v w' => (∃ k : Nat, v = .int .i64 k ∧ k ≤ 32 ∧ BitLen n k) ∧ w' = w) A w := by
    intro A b m hs hd h0 h2 hb hm h256 hb1
    obtain ⟨L, hL, hbl, hL8⟩ := tab8_at m h256
    refine vc_sq (vc_rg (by simp) ?_)
    refine r_move ?_
    refine r_move ?_
    refine r_conv (by assumption) (by assumption) (by (try simp (disch := (first | omega | (simp only [sP]; omega))) only [eS, eN, eC, h0]) <;> (first | rfl | assumption)) ?_
    refine r_indexStr (k := .u8) (j := m) (b := L) (s := ⟨tab8.toArray⟩) hs9 (eval_const _ _) ?_ hL ?_
    · simp (disch := (first | omega | (simp only [sP]; omega))) only [eS, eN, eC]
      rw [wrap8]
      congr 1
      omega
    refine r_conv (by assumption) (by assumption) (by (try simp (disch := (first | omega | (simp only [sP]; omega))) only [eS, eN, eC]) <;> (first | rfl | assumption)) ?_
    refine r_add (k := .i64) (m := b) (n := (L.toNat : Int)) (by simp (disch := (first | omega | (simp only [sP]; omega))) only [eS, eN, eC, h2]) ?_ ?_
    · simp (disch := (first | omega | (simp only [sP]; omega))) only [eS, eN, eC]
      rw [wrap_i64 (by omega) (by omega)]
    refine r_assign ?_
    refine dn ?_
    refine vc_sq (vc_ret ?_)
    refine ⟨by simp only [defers_put]; exact hd, .int .i64 ((b + L.toNat : Nat) : Int), results_one ?_, ⟨b + L.toNat, rfl, by omega, bit_shift hb hm hbl hL8 hb1⟩, rfl⟩
    simp (disch := (first | omega | (simp only [sP]; omega))) only [eS, eN, eC]
    rw [wrap_i64 (by omega) (by omega)]
    simp
  have t1 : ∀ (A : Act) (b m : Nat), A.tmps.size = 19 → A.defers = [] → A.eval (.tmp 0) = .int .u32 (m : Int) → A.eval (.tmp 2) = .int .i64 (b : Int) → (b = 0 ∨ b = 16) → m = n / 2 ^ b → m < 65536 → (b = 0 ∨ 1 ≤ m) →
      vc P (sq (sq [(rg [⟨some 7, .move (.tmp 0), E.tU32, "", #[], none⟩, ⟨some 8, .binOp .geq E.tU32 (.tmp 7) (.const (.int .u32 256)) E.tU32, E.tBool, "", #[], none⟩]),
        (.cond (.tmp 8) (sq [(rg [⟨some 9, .move (.tmp 0), E.tU32, "", #[], none⟩, ⟨some 10, .binOp .shr E.tU32 (.tmp 9) (.const (.int .u64 8)) E.tUint, E.tU32, "", #[], none⟩, ⟨some 0, .assign (.tmp 10), E.tU32, "", #[], none⟩]),
          (rg [⟨some 11, .move (.tmp 2), E.tInt, "", #[], none⟩, ⟨some 12, .binOp .add E.tInt (.tmp 11) (.const (.int .i64 8)) E.tInt, E.tInt, "", #[], none⟩, ⟨some 2, .assign (.tmp 12), E.tInt, "", #[], none⟩])]) .skip)] ::
        [(rg [⟨some 13, .move (.tmp 2), E.tInt, "", #[], none⟩, ⟨some 14, .move (.tmp 0), E.tU32, "", #[], none⟩, ⟨some 15, .convert E.tU32 E.tU8 (.tmp 14), E.tU8, "", #[], none⟩, ⟨some 16, .index E.tStr (.const (.string ⟨tab8.toArray⟩)) (.tmp 15), E.tU8, "", #[], none⟩,
        ⟨some 17, .convert E.tU8 E.tInt (.tmp 16), E.tInt, "", #[], none⟩, ⟨some 18, .binOp .add E.tInt (.tmp 13) (.tmp 17) E.tInt, E.tInt, "", #[], none⟩, ⟨some 2, .assign (.tmp 18), E.tInt, "", #[], none⟩]), .ret])) (Out P #[.tmp 2] fun v w' => (∃ k : Nat, v = .int .i64 k ∧ k ≤ 32 ∧ BitLen n k) ∧ w' = w) A w := by
    intro A b m hs hd h0 h2 hb hm h16 hb1
    refine vc_sq (vc_sq (vc_rg (by simp) ?_))
    refine r_move ?_
    refine r_geq (by (try simp (disch := (first | omega | (simp only [sP]; omega))) only [eS, eN, eC, h0]) <;> (first | rfl | assumption)) (by (try simp (disch := (first | omega | (simp only [sP]; omega))) only [eS, eN, eC, h0]) <;> (first | rfl | assumption)) ?_
    refine dn ?_
    refine vc_sq (vc_cond (t := decide ((m : Int) ≥ 256)) (by (try simp (disch := (first | omega | (simp only [sP]; omega))) only [eS, eN, eC]) <;> (first | rfl | assumption)) ?_ ?_)
    · intro hge
      simp only [decide_eq_true_eq] at hge
      refine vc_sq (vc_rg (by simp) ?_)
      refine r_move ?_
      refine r_shrN (n := m) (k := 8) (mm := 256) (by simp (disch := (first | omega | (simp only [sP]; omega))) only [eS, eN, eC, h0]) rfl (by decide) ?_
      refine r_assign ?_
      refine dn ?_
      refine vc_sq (vc_rg (by simp) ?_)
      refine r_move ?_
      refine r_add (by (try simp (disch := (first | omega | (simp only [sP]; omega))) only [eS, eN, eC, h2]) <;> (first | rfl | assumption)) (by (try simp (disch := (first | omega | (simp only [sP]; omega))) only [eS, eN, eC, h2]) <;> (first | rfl | assumption)) ?_
      refine r_assign ?_
      refine dn ?_
      refine vc_sq_nil ?_
      refine vc_sq_nil ?_
      refine t2 _ (b + 8) (m / 256) (by simp only [size_put]; exact hs) (by simp only [defers_put]; exact hd) (by (try simp (disch := (first | omega | (simp only [sP]; omega))) only [eS, eN, eC]) <;> (first | rfl | assumption)) ?_ (by omega) ?_ (by omega) (by omega)
      · simp (disch := (first | omega | (simp only [sP]; omega))) only [eS, eN, eC]
        rw [wrap_i64 (by omega) (by omega)]
        rfl
      · rw [hm, Nat.pow_add, Nat.div_div_eq_div_mul]
    · intro hlt
      simp only [decide_eq_false_iff_not] at hlt
      refine vc_skip (vc_sq_nil ?_)
      exact t2 _ b m (by simp only [size_put]; exact hs) (by simp only [defers_put]; exact hd) (by simp (disch := (first | omega | (simp only [sP]; omega))) only [eS, eN, eC, h0]) (by simp (disch := (first | omega | (simp only [sP]; omega))) only [eS, eN, eC, h2]) (by omega) hm (by omega) hb1
  refine vc_sq (vc_sq (vc_rg (by simp) ?_))
  refine r_move ?_
  refine r_geq (by (try simp (disch := (first | omega | (simp only [sP]; omega))) only [eS, eN, eC, e0]) <;> (first | rfl | assumption)) (by (try simp (disch := (first | omega | (simp only [sP]; omega))) only [eS, eN, eC, e0]) <;> (first | rfl | assumption)) ?_
  refine dn ?_
  refine vc_sq (vc_cond (t := decide ((n : Int) ≥ 65536)) (by (try simp (disch := (first | omega | (simp only [sP]; omega))) only [eS, eN, eC]) <;> (first | rfl | assumption)) ?_ ?_)
  · intro hge
    simp only [decide_eq_true_eq] at hge
    refine vc_sq (vc_rg (by simp) ?_)
    refine r_move ?_
    refine r_shrN (n := n) (k := 16) (mm := 65536) (by simp (disch := (first | omega | (simp only [sP]; omega))) only [eS, eN, eC, e0]) rfl (by decide) ?_
    refine r_assign ?_
    refine dn ?_
    refine vc_sq (vc_rg (by simp) ?_)
    refine r_assign ?_
    refine dn ?_
    refine vc_sq_nil ?_
    refine vc_sq_nil ?_
    exact t1 _ 16 (n / 65536) (by simp only [size_put]; exact hsz) (by simp only [defers_put]; exact hdf) (by (try simp (disch := (first | omega | (simp only [sP]; omega))) only [eS, eN, eC]) <;> (first | rfl | assumption)) (by (try simp (disch := (first | omega | (simp only [sP]; omega))) only [eS, eN, eC]) <;> (first | rfl | assumption)) (by omega) rfl (by omega) (by omega)
  · intro hlt
    simp only [decide_eq_false_iff_not] at hlt
    refine vc_skip (vc_sq_nil ?_)
    exact t1 _ 0 n (by simp only [size_put]; exact hsz) (by simp only [defers_put]; exact hdf) (by simp (disch := (first | omega | (simp only [sP]; omega))) only [eS, eN, eC, e0]) (by (try simp (disch := (first | omega | (simp only [sP]; omega))) only [eS, eN, eC]) <;> (first | rfl | assumption)) (by omega) (by simp) (by omega) (by omega)

set_option maxRecDepth 20000 in
theorem k_uvLen (ht : Text P E.uvLen 1 8 #[.tmp 2] (c_uvLen E)) (hl : Text P E.len32 1 19 #[.tmp 2] (c_len32 E)) (i8 : intT P E.tU8 = some .u8) (iu : intT P E.tU32 = some .u32) (ii : intT P E.tInt = some .i64) (hs9 : P.underlying E.tStr = some .string) {n : Nat} (hn : n < 4294967296) :
    CallsV P E.uvLen #[.int .u32 n] w fun v w' => v = .int .i64 (uvl n : Nat) ∧ w' = w := by
  refine CallsV.enter ht (by simp) ?_
  intro a hsz hdf harg
  have e0 := harg 0 (.int .u32 n) (by simp)
  unfold c_uvLen
  refine vc_sq (vc_rg (by simp) ?_)
  refine r_assign ?_
  refine dn ?_
  refine vc_sq (vc_rg' rfl ?_)
  refine r_move ?_
  refine r_call' (args := #[.int .u32 n]) ?_ (k_len32 hl i8 iu ii hs9 hn) ?_
  · simp only [List.map_toArray, List.map_cons, List.map_nil]
    simp (disch := (first | omega | (simp only [sP]; omega))) only [eS, eN, eC, e0]
  rintro v w' ⟨⟨k, rfl, hk, hbl⟩, rfl⟩
  obtain ⟨b, hb, hbv⟩ := tabU_at k hk
  rw [uvl_bit hbl hk] at hbv
  refine r_conv (by assumption) (by assumption) (by (try simp (disch := (first | omega | (simp only [sP]; omega))) only [eS, eN, eC]) <;> (first | rfl | assumption)) ?_
  refine r_indexStr (k := .u8) (j := k) (b := b) (s := ⟨tabU.toArray⟩) hs9 (eval_const _ _) ?_ hb ?_
  · simp (disch := (first | omega | (simp only [sP]; omega))) only [eS, eN, eC]
    rw [wrap8]
    congr 1
    omega
  refine r_conv (by assumption) (by assumption) (by (try simp (disch := (first | omega | (simp only [sP]; omega))) only [eS, eN, eC]) <;> (first | rfl | assumption)) ?_
  refine r_assign ?_
  refine dn ?_
  refine vc_sq (vc_ret ?_)
  refine ⟨by simp only [defers_put]; exact hdf, .int .i64 (uvl n : Nat), results_one ?_, rfl, rfl⟩
  have hu5 : uvl n ≤ 5 := by have := uvl_spec hn; omega
  simp (disch := (first | omega | (simp only [sP]; omega))) only [eS, eN, eC]
  rw [hbv, wrap_i64 (by omega) (by omega)]

theorem uvF_small {f n : Nat} (h : n < 128) : uvF (f + 1) n = [UInt8.ofNat n] := by simp [uvF, h]
theorem uvF_big {f n : Nat} (h : 128 ≤ n) : uvF (f + 1) n = UInt8.ofNat (n % 128 + 128) :: uvF f (n / 128) := by
  simp [uvF, Nat.not_lt.2 h]
theorem o8_nat (n : Nat) : o8 (IntKind.u8.wrap (n : Int)) = UInt8.ofNat n := by
  rw [wrap8]
  unfold o8
  apply UInt8.toNat_inj.1
  rw [UInt8.toNat_ofNat', UInt8.toNat_ofNat']
  omega
theorem uvar_1 {n : Nat} (h0 : 0 ≤ n) (h1 : n < 128) : Go.Km.uvar n = [IntKind.u8.wrap ((n : Nat) : Int)].map o8 := by
  simp only [List.map_cons, List.map_nil, o8_nat]
  unfold Go.Km.uvar
  rw [uvF_small (by omega)]
theorem uvar_2 {n : Nat} (h0 : 128 ≤ n) (h1 : n < 16384) : Go.Km.uvar n = [IntKind.u8.wrap ((n % 128 + 128 : Nat) : Int), IntKind.u8.wrap ((n / 128 : Nat) : Int)].map o8 := by
  simp only [List.map_cons, List.map_nil, o8_nat]
  unfold Go.Km.uvar
  rw [uvF_big (by omega)]
  rw [uvF_small (by omega)]
theorem uvar_3 {n : Nat} (h0 : 16384 ≤ n) (h1 : n < 2097152) : Go.Km.uvar n = [IntKind.u8.wrap ((n % 128 + 128 : Nat) : Int), IntKind.u8.wrap ((n / 128 % 128 + 128 : Nat) : Int), IntKind.u8.wrap ((n / 16384 : Nat) : Int)].map o8 := by
  simp only [List.map_cons, List.map_nil, o8_nat]
  unfold Go.Km.uvar
  rw [uvF_big (by omega)]
  rw [uvF_big (by omega)]
  rw [uvF_small (by omega)]
  simp only [Nat.div_div_eq_div_mul]
theorem uvar_4 {n : Nat} (h0 : 2097152 ≤ n) (h1 : n < 268435456) : Go.Km.uvar n = [IntKind.u8.wrap ((n % 128 + 128 : Nat) : Int), IntKind.u8.wrap ((n / 128 % 128 + 128 : Nat) : Int), IntKind.u8.wrap ((n / 16384 % 128 + 128 : Nat) : Int), IntKind.u8.wrap ((n / 2097152 : Nat) : Int)].map o8 := by
  simp only [List.map_cons, List.map_nil, o8_nat]
  unfold Go.Km.uvar
  rw [uvF_big (by omega)]
  rw [uvF_big (by omega)]
  rw [uvF_big (by omega)]
  rw [uvF_small (by omega)]
  simp only [Nat.div_div_eq_div_mul]
theorem uvar_5 {n : Nat} (h0 : 268435456 ≤ n) (h1 : n < 4294967296) : Go.Km.uvar n = [IntKind.u8.wrap ((n % 128 + 128 : Nat) : Int), IntKind.u8.wrap ((n / 128 % 128 + 128 : Nat) : Int), IntKind.u8.wrap ((n / 16384 % 128 + 128 : Nat) : Int), IntKind.u8.wrap ((n / 2097152 % 128 + 128 : Nat) : Int), IntKind.u8.wrap ((n / 268435456 : Nat) : Int)].map o8 := by
  simp only [List.map_cons, List.map_nil, o8_nat]
  unfold Go.Km.uvar
  rw [uvF_big (by omega)]
  rw [uvF_big (by omega)]
  rw [uvF_big (by omega)]
  rw [uvF_big (by omega)]
  rw [uvF_small (by omega)]
  simp only [Nat.div_div_eq_div_mul]

theorem k_uvar (ht : Text P E.wUvarint 2 93 #[.tmp 4] (c_wUvarint E)) (htl : Text P E.uvLen 1 8 #[.tmp 2] (c_uvLen E)) (hl : Text P E.len32 1 19 #[.tmp 2] (c_len32 E)) (hB : rowB P E.tBytes E.tU8 1 = true) (i8 : intT P E.tU8 = some .u8) (iu : intT P E.tU32 = some .u32) (ii : intT P E.tInt = some .i64) (hs9 : P.underlying E.tStr = some .string)
    {n : Nat} (hn : n < 4294967296) : Wr1 P E E.wUvarint U [.int .u32 n] (Go.Km.uvar n) w := by
  intro dv xs hown hU hb
  refine CallsV.enter ht (by simp) ?_
  intro a hsz hdf harg
  have e0 := harg 0 dv (by simp)
  have e1 := harg 1 (.int .u32 n) (by simp)
  unfold c_wUvarint
  refine vc_sq (vc_rg (by simp) ?_)
  refine r_assign ?_
  refine dn ?_
  refine vc_sq (vc_sq (vc_rg (by simp) ?_))
  refine r_move ?_
  refine r_call' (args := #[.int .u32 n]) ?_ (k_uvLen htl hl i8 iu ii hs9 hn) ?_
  · simp only [List.map_toArray, List.map_cons, List.map_nil]
    simp (disch := (first | omega | (simp only [sP]; omega))) only [eS, eN, eC, e1]
  rintro v w' ⟨rfl, rfl⟩
  refine dn ?_
  generalize hA : ((a.put (some 4) _).put (some 5) _).put (some 6) (.int .i64 ((uvl n : Nat) : Int)) = A
  have f0 : A.eval (.tmp 0) = dv := by rw [← hA]; simp (disch := (first | omega | (simp only [sP]; omega))) only [eS, eN, eC, e0]
  have f1 : A.eval (.tmp 1) = .int .u32 n := by rw [← hA]; simp (disch := (first | omega | (simp only [sP]; omega))) only [eS, eN, eC, e1]
  have f6 : A.eval (.tmp 6) = .int .i64 ((uvl n : Nat) : Int) := by rw [← hA]; simp (disch := (first | omega | (simp only [sP]; omega))) only [eS, eN, eC]
  have fs : A.tmps.size = 93 := by rw [← hA]; simp only [size_put]; exact hsz
  have fd : A.defers = [] := by rw [← hA]; simp only [defers_put]; exact hdf
  clear hA
  refine vc_sq (vc_block ?_)
  refine vc_sq (vc_rg (by simp) ?_)
  refine r_eql (k := .i64) (m := ((uvl n : Nat) : Int)) (n := 5) (by simp (disch := (first | omega | (simp only [sP]; omega))) only [eS, eN, eC, f6]) rfl ?_
  refine r_assign ?_
  refine dn ?_
  refine vc_sq (vc_cond (t := ((uvl n : Nat) : Int) == 5) (by (try simp (disch := (first | omega | (simp only [sP]; omega))) only [eS, eN, eC]) <;> (first | rfl | assumption)) ?_ ?_)
  · intro hk
    have hk' : uvl n = 5 := by simp only [beq_iff_eq] at hk; omega
    have hr : 268435456 ≤ n ∧ n < 4294967296 := by have := uvl_spec hn; omega
    refine vc_sq (vc_rg (by simp) ?_)
    refine r_move ?_
    refine r_move ?_
    refine r_andN (by (try simp (disch := (first | omega | (simp only [sP]; omega))) only [eS, eN, eC, f1]) <;> (first | rfl | assumption)) rfl (by omega) ?_
    refine r_orN (by (try simp (disch := (first | omega | (simp only [sP]; omega))) only [eS, eN, eC]) <;> (first | rfl | assumption)) rfl (by omega) ?_
    refine r_conv (by assumption) (by assumption) (by (try simp (disch := (first | omega | (simp only [sP]; omega))) only [eS, eN, eC]) <;> (first | rfl | assumption)) ?_
    refine r_move ?_
    refine r_shrN (n := n) (k := 7) (mm := 128) (by simp (disch := (first | omega | (simp only [sP]; omega))) only [eS, eN, eC, f1]) rfl (by decide) ?_
    refine r_andN (by (try simp (disch := (first | omega | (simp only [sP]; omega))) only [eS, eN, eC]) <;> (first | rfl | assumption)) rfl (by omega) ?_
    refine r_orN (by (try simp (disch := (first | omega | (simp only [sP]; omega))) only [eS, eN, eC]) <;> (first | rfl | assumption)) rfl (by omega) ?_
    refine r_conv (by assumption) (by assumption) (by (try simp (disch := (first | omega | (simp only [sP]; omega))) only [eS, eN, eC]) <;> (first | rfl | assumption)) ?_
    refine r_move ?_
    refine r_shrN (n := n) (k := 14) (mm := 16384) (by simp (disch := (first | omega | (simp only [sP]; omega))) only [eS, eN, eC, f1]) rfl (by decide) ?_
    refine r_andN (by (try simp (disch := (first | omega | (simp only [sP]; omega))) only [eS, eN, eC]) <;> (first | rfl | assumption)) rfl (by omega) ?_
    refine r_orN (by (try simp (disch := (first | omega | (simp only [sP]; omega))) only [eS, eN, eC]) <;> (first | rfl | assumption)) rfl (by omega) ?_
    refine r_conv (by assumption) (by assumption) (by (try simp (disch := (first | omega | (simp only [sP]; omega))) only [eS, eN, eC]) <;> (first | rfl | assumption)) ?_
    refine r_move ?_
    refine r_shrN (n := n) (k := 21) (mm := 2097152) (by simp (disch := (first | omega | (simp only [sP]; omega))) only [eS, eN, eC, f1]) rfl (by decide) ?_
    refine r_andN (by (try simp (disch := (first | omega | (simp only [sP]; omega))) only [eS, eN, eC]) <;> (first | rfl | assumption)) rfl (by omega) ?_
    refine r_orN (by (try simp (disch := (first | omega | (simp only [sP]; omega))) only [eS, eN, eC]) <;> (first | rfl | assumption)) rfl (by omega) ?_
    refine r_conv (by assumption) (by assumption) (by (try simp (disch := (first | omega | (simp only [sP]; omega))) only [eS, eN, eC]) <;> (first | rfl | assumption)) ?_
    refine r_move ?_
    refine r_shrN (n := n) (k := 28) (mm := 268435456) (by simp (disch := (first | omega | (simp only [sP]; omega))) only [eS, eN, eC, f1]) rfl (by decide) ?_
    refine r_conv (by assumption) (by assumption) (by (try simp (disch := (first | omega | (simp only [sP]; omega))) only [eS, eN, eC]) <;> (first | rfl | assumption)) ?_
    rw [uvar_5 hr.1 hr.2] at hb ⊢
    refine r_litApp (zs := [IntKind.u8.wrap ((n % 128 + 128 : Nat) : Int), IntKind.u8.wrap ((n / 128 % 128 + 128 : Nat) : Int), IntKind.u8.wrap ((n / 16384 % 128 + 128 : Nat) : Int), IntKind.u8.wrap ((n / 2097152 % 128 + 128 : Nat) : Int), IntKind.u8.wrap ((n / 268435456 : Nat) : Int)]) hB ?_ (by intro z hz; simp only [List.mem_cons, List.not_mem_nil, or_false] at hz; rcases hz with rfl | rfl | rfl | rfl | rfl <;> exact wrap8_ok _) rfl (by omega) (by omega) (by simp (disch := (first | omega | (simp only [sP]; omega))) only [eS, eN, eC, f0]) (by omega) (by simp only [size_put]; omega) hown hU (by simpa using hb) ?_
    · simp only [List.map_toArray, List.map_cons, List.map_nil]
      simp (disch := (first | omega | (simp only [sP]; omega))) only [eS, eN, eC]
      rfl
    intro v' w' h1 h2
    refine r_assign ?_
    refine dn ?_
    refine vc_sq (vc_ret ?_)
    exact ⟨by simp only [defers_put]; exact fd, v', results_one (by simp (disch := (first | omega | (simp only [sP]; omega))) only [eS, eN, eC]), ⟨h1, h2⟩⟩
  · intro hk5
    generalize hA : ((A.put (some _) _).put (some _) _) = B
    have g0 : B.eval (.tmp 0) = dv := by rw [← hA]; simp (disch := (first | omega | (simp only [sP]; omega))) only [eS, eN, eC, f0]
    have g1 : B.eval (.tmp 1) = .int .u32 n := by rw [← hA]; simp (disch := (first | omega | (simp only [sP]; omega))) only [eS, eN, eC, f1]
    have g6 : B.eval (.tmp 6) = .int .i64 ((uvl n : Nat) : Int) := by rw [← hA]; simp (disch := (first | omega | (simp only [sP]; omega))) only [eS, eN, eC, f6]
    have gs : B.tmps.size = 93 := by rw [← hA]; simp only [size_put]; exact fs
    have gd : B.defers = [] := by rw [← hA]; simp only [defers_put]; exact fd
    clear hA f0 f1 f6 fs fd
    revert B
    intro A f0 f1 f6 fs fd
    refine vc_sq (vc_rg (by simp) ?_)
    refine r_eql (k := .i64) (m := ((uvl n : Nat) : Int)) (n := 4) (by simp (disch := (first | omega | (simp only [sP]; omega))) only [eS, eN, eC, f6]) rfl ?_
    refine r_assign ?_
    refine dn ?_
    refine vc_sq (vc_cond (t := ((uvl n : Nat) : Int) == 4) (by (try simp (disch := (first | omega | (simp only [sP]; omega))) only [eS, eN, eC]) <;> (first | rfl | assumption)) ?_ ?_)
    · intro hk
      have hk' : uvl n = 4 := by simp only [beq_iff_eq] at hk; omega
      have hr : 2097152 ≤ n ∧ n < 268435456 := by have := uvl_spec hn; omega
      refine vc_sq (vc_rg (by simp) ?_)
      refine r_move ?_
      refine r_move ?_
      refine r_andN (by (try simp (disch := (first | omega | (simp only [sP]; omega))) only [eS, eN, eC, f1]) <;> (first | rfl | assumption)) rfl (by omega) ?_
      refine r_orN (by (try simp (disch := (first | omega | (simp only [sP]; omega))) only [eS, eN, eC]) <;> (first | rfl | assumption)) rfl (by omega) ?_
      refine r_conv (by assumption) (by assumption) (by (try simp (disch := (first | omega | (simp only [sP]; omega))) only [eS, eN, eC]) <;> (first | rfl | assumption)) ?_
      refine r_move ?_
      refine r_shrN (n := n) (k := 7) (mm := 128) (by simp (disch := (first | omega | (simp only [sP]; omega))) only [eS, eN, eC, f1]) rfl (by decide) ?_
      refine r_andN (by (try simp (disch := (first | omega | (simp only [sP]; omega))) only [eS, eN, eC]) <;> (first | rfl | assumption)) rfl (by omega) ?_
      refine r_orN (by (try simp (disch := (first | omega | (simp only [sP]; omega))) only [eS, eN, eC]) <;> (first | rfl | assumption)) rfl (by omega) ?_
      refine r_conv (by assumption) (by assumption) (by (try simp (disch := (first | omega | (simp only [sP]; omega))) only [eS, eN, eC]) <;> (first | rfl | assumption)) ?_
      refine r_move ?_
      refine r_shrN (n := n) (k := 14) (mm := 16384) (by simp (disch := (first | omega | (simp only [sP]; omega))) only [eS, eN, eC, f1]) rfl (by decide) ?_
      refine r_andN (by (try simp (disch := (first | omega | (simp only [sP]; omega))) only [eS, eN, eC]) <;> (first | rfl | assumption)) rfl (by omega) ?_
      refine r_orN (by (try simp (disch := (first | omega | (simp only [sP]; omega))) only [eS, eN, eC]) <;> (first | rfl | assumption)) rfl (by omega) ?_
      refine r_conv (by assumption) (by assumption) (by (try simp (disch := (first | omega | (simp only [sP]; omega))) only [eS, eN, eC]) <;> (first | rfl | assumption)) ?_
      refine r_move ?_
      refine r_shrN (n := n) (k := 21) (mm := 2097152) (by simp (disch := (first | omega | (simp only [sP]; omega))) only [eS, eN, eC, f1]) rfl (by decide) ?_
      refine r_conv (by assumption) (by assumption) (by (try simp (disch := (first | omega | (simp only [sP]; omega))) only [eS, eN, eC]) <;> (first | rfl | assumption)) ?_
      rw [uvar_4 hr.1 hr.2] at hb ⊢
      refine r_litApp (zs := [IntKind.u8.wrap ((n % 128 + 128 : Nat) : Int), IntKind.u8.wrap ((n / 128 % 128 + 128 : Nat) : Int), IntKind.u8.wrap ((n / 16384 % 128 + 128 : Nat) : Int), IntKind.u8.wrap ((n / 2097152 : Nat) : Int)]) hB ?_ (by intro z hz; simp only [List.mem_cons, List.not_mem_nil, or_false] at hz; rcases hz with rfl | rfl | rfl | rfl <;> exact wrap8_ok _) rfl (by omega) (by omega) (by simp (disch := (first | omega | (simp only [sP]; omega))) only [eS, eN, eC, f0]) (by omega) (by simp only [size_put]; omega) hown hU (by simpa using hb) ?_
      · simp only [List.map_toArray, List.map_cons, List.map_nil]
        simp (disch := (first | omega | (simp only [sP]; omega))) only [eS, eN, eC]
        rfl
      intro v' w' h1 h2
      refine r_assign ?_
      refine dn ?_
      refine vc_sq (vc_ret ?_)
      exact ⟨by simp only [defers_put]; exact fd, v', results_one (by simp (disch := (first | omega | (simp only [sP]; omega))) only [eS, eN, eC]), ⟨h1, h2⟩⟩
    · intro hk4
      generalize hA : ((A.put (some _) _).put (some _) _) = B
      have g0 : B.eval (.tmp 0) = dv := by rw [← hA]; simp (disch := (first | omega | (simp only [sP]; omega))) only [eS, eN, eC, f0]
      have g1 : B.eval (.tmp 1) = .int .u32 n := by rw [← hA]; simp (disch := (first | omega | (simp only [sP]; omega))) only [eS, eN, eC, f1]
      have g6 : B.eval (.tmp 6) = .int .i64 ((uvl n : Nat) : Int) := by rw [← hA]; simp (disch := (first | omega | (simp only [sP]; omega))) only [eS, eN, eC, f6]
      have gs : B.tmps.size = 93 := by rw [← hA]; simp only [size_put]; exact fs
      have gd : B.defers = [] := by rw [← hA]; simp only [defers_put]; exact fd
      clear hA f0 f1 f6 fs fd
      revert B
      intro A f0 f1 f6 fs fd
      refine vc_sq (vc_rg (by simp) ?_)
      refine r_eql (k := .i64) (m := ((uvl n : Nat) : Int)) (n := 3) (by simp (disch := (first | omega | (simp only [sP]; omega))) only [eS, eN, eC, f6]) rfl ?_
      refine r_assign ?_
      refine dn ?_
      refine vc_sq (vc_cond (t := ((uvl n : Nat) : Int) == 3) (by (try simp (disch := (first | omega | (simp only [sP]; omega))) only [eS, eN, eC]) <;> (first | rfl | assumption)) ?_ ?_)
      · intro hk
        have hk' : uvl n = 3 := by simp only [beq_iff_eq] at hk; omega
        have hr : 16384 ≤ n ∧ n < 2097152 := by have := uvl_spec hn; omega
        refine vc_sq (vc_rg (by simp) ?_)
        refine r_move ?_
        refine r_move ?_
        refine r_andN (by (try simp (disch := (first | omega | (simp only [sP]; omega))) only [eS, eN, eC, f1]) <;> (first | rfl | assumption)) rfl (by omega) ?_
        refine r_orN (by (try simp (disch := (first | omega | (simp only [sP]; omega))) only [eS, eN, eC]) <;> (first | rfl | assumption)) rfl (by omega) ?_
        refine r_conv (by assumption) (by assumption) (by (try simp (disch := (first | omega | (simp only [sP]; omega))) only [eS, eN, eC]) <;> (first | rfl | assumption)) ?_
        refine r_move ?_
        refine r_shrN (n := n) (k := 7) (mm := 128) (by simp (disch := (first | omega | (simp only [sP]; omega))) only [eS, eN, eC, f1]) rfl (by decide) ?_
        refine r_andN (by (try simp (disch := (first | omega | (simp only [sP]; omega))) only [eS, eN, eC]) <;> (first | rfl | assumption)) rfl (by omega) ?_
        refine r_orN (by (try simp (disch := (first | omega | (simp only [sP]; omega))) only [eS, eN, eC]) <;> (first | rfl | assumption)) rfl (by omega) ?_
        refine r_conv (by assumption) (by assumption) (by (try simp (disch := (first | omega | (simp only [sP]; omega))) only [eS, eN, eC]) <;> (first | rfl | assumption)) ?_
        refine r_move ?_
        refine r_shrN (n := n) (k := 14) (mm := 16384) (by simp (disch := (first | omega | (simp only [sP]; omega))) only [eS, eN, eC, f1]) rfl (by decide) ?_
        refine r_conv (by assumption) (by assumption) (by (try simp (disch := (first | omega | (simp only [sP]; omega))) only [eS, eN, eC]) <;> (first | rfl | assumption)) ?_
        rw [uvar_3 hr.1 hr.2] at hb ⊢
        refine r_litApp (zs := [IntKind.u8.wrap ((n % 128 + 128 : Nat) : Int), IntKind.u8.wrap ((n / 128 % 128 + 128 : Nat) : Int), IntKind.u8.wrap ((n / 16384 : Nat) : Int)]) hB ?_ (by intro z hz; simp only [List.mem_cons, List.not_mem_nil, or_false] at hz; rcases hz with rfl | rfl | rfl <;> exact wrap8_ok _) rfl (by omega) (by omega) (by simp (disch := (first | omega | (simp only [sP]; omega))) only [eS, eN, eC, f0]) (by omega) (by simp only [size_put]; omega) hown hU (by simpa using hb) ?_
        · simp only [List.map_toArray, List.map_cons, List.map_nil]
          simp (disch := (first | omega | (simp only [sP]; omega))) only [eS, eN, eC]
          rfl
        intro v' w' h1 h2
        refine r_assign ?_
        refine dn ?_
        refine vc_sq (vc_ret ?_)
        exact ⟨by simp only [defers_put]; exact fd, v', results_one (by simp (disch := (first | omega | (simp only [sP]; omega))) only [eS, eN, eC]), ⟨h1, h2⟩⟩
      · intro hk3
        generalize hA : ((A.put (some _) _).put (some _) _) = B
        have g0 : B.eval (.tmp 0) = dv := by rw [← hA]; simp (disch := (first | omega | (simp only [sP]; omega))) only [eS, eN, eC, f0]
        have g1 : B.eval (.tmp 1) = .int .u32 n := by rw [← hA]; simp (disch := (first | omega | (simp only [sP]; omega))) only [eS, eN, eC, f1]
        have g6 : B.eval (.tmp 6) = .int .i64 ((uvl n : Nat) : Int) := by rw [← hA]; simp (disch := (first | omega | (simp only [sP]; omega))) only [eS, eN, eC, f6]
        have gs : B.tmps.size = 93 := by rw [← hA]; simp only [size_put]; exact fs
        have gd : B.defers = [] := by rw [← hA]; simp only [defers_put]; exact fd
        clear hA f0 f1 f6 fs fd
        revert B
        intro A f0 f1 f6 fs fd
        refine vc_sq (vc_rg (by simp) ?_)
        refine r_eql (k := .i64) (m := ((uvl n : Nat) : Int)) (n := 2) (by simp (disch := (first | omega | (simp only [sP]; omega))) only [eS, eN, eC, f6]) rfl ?_
        refine r_assign ?_
        refine dn ?_
        refine vc_sq (vc_cond (t := ((uvl n : Nat) : Int) == 2) (by (try simp (disch := (first | omega | (simp only [sP]; omega))) only [eS, eN, eC]) <;> (first | rfl | assumption)) ?_ ?_)
        · intro hk
          have hk' : uvl n = 2 := by simp only [beq_iff_eq] at hk; omega
          have hr : 128 ≤ n ∧ n < 16384 := by have := uvl_spec hn; omega
          refine vc_sq (vc_rg (by simp) ?_)
          refine r_move ?_
          refine r_move ?_
          refine r_andN (by (try simp (disch := (first | omega | (simp only [sP]; omega))) only [eS, eN, eC, f1]) <;> (first | rfl | assumption)) rfl (by omega) ?_
          refine r_orN (by (try simp (disch := (first | omega | (simp only [sP]; omega))) only [eS, eN, eC]) <;> (first | rfl | assumption)) rfl (by omega) ?_
          refine r_conv (by assumption) (by assumption) (by (try simp (disch := (first | omega | (simp only [sP]; omega))) only [eS, eN, eC]) <;> (first | rfl | assumption)) ?_
          refine r_move ?_
          refine r_shrN (n := n) (k := 7) (mm := 128) (by simp (disch := (first | omega | (simp only [sP]; omega))) only [eS, eN, eC, f1]) rfl (by decide) ?_
          refine r_conv (by assumption) (by assumption) (by (try simp (disch := (first | omega | (simp only [sP]; omega))) only [eS, eN, eC]) <;> (first | rfl | assumption)) ?_
          rw [uvar_2 hr.1 hr.2] at hb ⊢
          refine r_litApp (zs := [IntKind.u8.wrap ((n % 128 + 128 : Nat) : Int), IntKind.u8.wrap ((n / 128 : Nat) : Int)]) hB ?_ (by intro z hz; simp only [List.mem_cons, List.not_mem_nil, or_false] at hz; rcases hz with rfl | rfl <;> exact wrap8_ok _) rfl (by omega) (by omega) (by simp (disch := (first | omega | (simp only [sP]; omega))) only [eS, eN, eC, f0]) (by omega) (by simp only [size_put]; omega) hown hU (by simpa using hb) ?_
          · simp only [List.map_toArray, List.map_cons, List.map_nil]
            simp (disch := (first | omega | (simp only [sP]; omega))) only [eS, eN, eC]
            rfl
          intro v' w' h1 h2
          refine r_assign ?_
          refine dn ?_
          refine vc_sq (vc_ret ?_)
          exact ⟨by simp only [defers_put]; exact fd, v', results_one (by simp (disch := (first | omega | (simp only [sP]; omega))) only [eS, eN, eC]), ⟨h1, h2⟩⟩
        · intro hk2
          generalize hA : ((A.put (some _) _).put (some _) _) = B
          have g0 : B.eval (.tmp 0) = dv := by rw [← hA]; simp (disch := (first | omega | (simp only [sP]; omega))) only [eS, eN, eC, f0]
          have g1 : B.eval (.tmp 1) = .int .u32 n := by rw [← hA]; simp (disch := (first | omega | (simp only [sP]; omega))) only [eS, eN, eC, f1]
          have g6 : B.eval (.tmp 6) = .int .i64 ((uvl n : Nat) : Int) := by rw [← hA]; simp (disch := (first | omega | (simp only [sP]; omega))) only [eS, eN, eC, f6]
          have gs : B.tmps.size = 93 := by rw [← hA]; simp only [size_put]; exact fs
          have gd : B.defers = [] := by rw [← hA]; simp only [defers_put]; exact fd
          clear hA f0 f1 f6 fs fd
          revert B
          intro A f0 f1 f6 fs fd
          refine vc_sq (vc_rg (by simp) ?_)
          refine r_eql (k := .i64) (m := ((uvl n : Nat) : Int)) (n := 1) (by simp (disch := (first | omega | (simp only [sP]; omega))) only [eS, eN, eC, f6]) rfl ?_
          refine r_assign ?_
          refine dn ?_
          refine vc_sq (vc_cond (t := ((uvl n : Nat) : Int) == 1) (by (try simp (disch := (first | omega | (simp only [sP]; omega))) only [eS, eN, eC]) <;> (first | rfl | assumption)) ?_ ?_)
          · intro hk
            have hk' : uvl n = 1 := by simp only [beq_iff_eq] at hk; omega
            have hr : 0 ≤ n ∧ n < 128 := by have := uvl_spec hn; omega
            refine vc_sq (vc_rg (by simp) ?_)
            refine r_move ?_
            refine r_move ?_
            refine r_conv (by assumption) (by assumption) (by (try simp (disch := (first | omega | (simp only [sP]; omega))) only [eS, eN, eC, f1]) <;> (first | rfl | assumption)) ?_
            rw [uvar_1 hr.1 hr.2] at hb ⊢
            refine r_litApp (zs := [IntKind.u8.wrap ((n : Nat) : Int)]) hB ?_ (by intro z hz; simp only [List.mem_cons, List.not_mem_nil, or_false] at hz; rcases hz with rfl <;> exact wrap8_ok _) rfl (by omega) (by omega) (by simp (disch := (first | omega | (simp only [sP]; omega))) only [eS, eN, eC, f0]) (by omega) (by simp only [size_put]; omega) hown hU (by simpa using hb) ?_
            · simp only [List.map_toArray, List.map_cons, List.map_nil]
              simp (disch := (first | omega | (simp only [sP]; omega))) only [eS, eN, eC]
              rfl
            intro v' w' h1 h2
            refine r_assign ?_
            refine dn ?_
            refine vc_sq (vc_ret ?_)
            exact ⟨by simp only [defers_put]; exact fd, v', results_one (by simp (disch := (first | omega | (simp only [sP]; omega))) only [eS, eN, eC]), ⟨h1, h2⟩⟩
          · intro hk1
            exfalso
            have : uvl n = 5 ∨ uvl n = 4 ∨ uvl n = 3 ∨ uvl n = 2 ∨ uvl n = 1 := by have := uvl_spec hn; omega
            simp only [beq_eq_false_iff_ne, ne_eq] at hk1 hk2 hk3 hk4 hk5
            omega
end
end Go.Km
