/- The plain law, third part: what is read can be written, in no more octets. The laws 'what is read of any octets ..': over any program. All of kbin's reading together. Rows of laws: what the arguments give; how they are left; what a listed error gives. Over any program. -/
import Derived.Test.YtnbhpeaapbpaeaaDoorKb04
import Derived.WalkKit
import Derived.ProofKit
import Derived.OpenShut
import Derived.ChangeSlices
import Derived.LaidLaws
import Derived.Carry
import Derived.MakeChecks
set_option linter.unusedSimpArgs false
set_option linter.unusedVariables false
namespace Go.Km
open Go Go.RowKit

theorem sgn_rng {k n : Nat} (hk : 0 < k) (h : n < 256 ^ k) : -(2 ^ (8 * k - 1) : Nat) ≤ sgn k n ∧ sgn k n < (2 ^ (8 * k - 1) : Nat) := by
  have e : (256 : Nat) ^ k = 2 ^ (8 * k - 1) + 2 ^ (8 * k - 1) := by
    rw [show 256 = 2 ^ 8 from rfl, ← Nat.pow_mul, ← Nat.mul_two, ← Nat.pow_succ]
    congr 1
    omega
  have e2 : (2 : Int) ^ (8 * k) = ((256 ^ k : Nat) : Int) := by
    rw [show 256 = 2 ^ 8 from rfl, ← Nat.pow_mul]
    simp
  unfold sgn
  rw [e2]
  rw [e] at h ⊢
  generalize 2 ^ (8 * k - 1) = m at *
  split <;> omega
theorem Scal.rd_ok (k : Scal) (st : RSt) : k.ok (k.rd st).1 := by
  cases k with
  | bool =>
    simp only [Scal.rd, Scal.ok]
    split <;> simp
  | i8 => have := sgn_rng (k := 1) (by decide) (rdN_lt 1 st); simp only [Scal.rd, Scal.ok]; simp at this; omega
  | i16 => have := sgn_rng (k := 2) (by decide) (rdN_lt 2 st); simp only [Scal.rd, Scal.ok]; simp at this; omega
  | i32 => have := sgn_rng (k := 4) (by decide) (rdN_lt 4 st); simp only [Scal.rd, Scal.ok]; simp at this; omega
  | i64 => have := sgn_rng (k := 8) (by decide) (rdN_lt 8 st); simp only [Scal.rd, Scal.ok]; simp at this; omega
  | u16 => have := rdN_lt 2 st; simp only [Scal.rd, Scal.ok]; omega
  | f64 => have := rdN_lt 8 st; simp only [Scal.rd, Scal.ok]; omega
theorem rdN_len {k : Nat} {st : RSt} (h : (rdN k st).2.2 = false) : k + (rdN k st).2.1.length ≤ st.1.length := by
  unfold rdN at h ⊢
  split at h
  · cases h
  · rename_i hl
    rw [if_neg hl]
    simp only [List.length_drop]
    omega
theorem rdSpan_len {n : Int} {st : RSt} (h : (rdSpan n st).2.2 = false) : ((rdSpan n st).1.length : Int) = n ∧ (rdSpan n st).1.length + (rdSpan n st).2.1.length ≤ st.1.length := by
  unfold rdSpan at h ⊢
  split at h
  · cases h
  · rename_i hl
    rw [if_neg hl]
    simp only [List.length_drop, List.length_take]
    omega
theorem uvar_le {n k : Nat} (h : n < 4294967296) (hk : n ≤ k) : (Go.Km.uvar n).length ≤ (Go.Km.uvar k).length := by
  have key : ∀ (f a b : Nat), a ≤ b → (uvF f a).length ≤ (uvF f b).length := by
    intro f
    induction f with
    | zero => intro a b _; simp [uvF]
    | succ f ih =>
      intro a b hab
      rcases Nat.lt_or_ge a 128 with ha | ha
      · rw [uvF_one ha]
        have := uvF_pos (f + 1) b
        simpa using this
      · rw [uvF_more ha, uvF_more (by omega)]
        simp only [List.length_cons]
        have := ih (a / 128) (b / 128) (Nat.div_le_div_right hab)
        omega
  exact key 9 n k hk
theorem rdL_len {fx : Bool} {st : RSt} (h : (rdL fx st).2.2 = false) : ∀ n : Nat, (n : Int) = (rdL fx st).1 → (if fx then Go.Km.uvar (n + 1) else be 2 n).length + (rdL fx st).2.1.length ≤ st.1.length := by
  intro n hn
  cases fx with
  | true =>
    simp only [rdL, if_true, rdLc] at h hn ⊢
    have := rdUv_len h
    have e : n + 1 = (rdUv st).1 := by omega
    rw [e]
    exact this
  | false =>
    simp only [rdL, Bool.false_eq_true, if_false, rdL2] at h hn ⊢
    have := rdN_len h
    simp only [be_len]
    exact this
theorem rdLB_len {fx : Bool} {st : RSt} (h : (rdLB fx st).2.2 = false) : ∀ n : Nat, (n : Int) = (rdLB fx st).1 → (if fx then Go.Km.uvar (n + 1) else be 4 n).length + (rdLB fx st).2.1.length ≤ st.1.length := by
  intro n hn
  cases fx with
  | true =>
    simp only [rdLB, if_true, rdLc] at h hn ⊢
    have := rdUv_len h
    have e : n + 1 = (rdUv st).1 := by omega
    rw [e]
    exact this
  | false =>
    simp only [rdLB, Bool.false_eq_true, if_false, rdL4] at h hn ⊢
    have := rdN_len h
    simp only [be_len]
    exact this
/-- The head of a length takes that much, at least. -/
theorem rdL_min {fx : Bool} {st : RSt} (h : (rdL fx st).2.2 = false) : (if fx then 1 else 2) + (rdL fx st).2.1.length ≤ st.1.length := by
  cases fx with
  | true =>
    simp only [rdL, if_true, rdLc] at h ⊢
    have := rdUv_len h
    have := uvar_pos1 (rdUv st).1
    omega
  | false =>
    simp only [rdL, Bool.false_eq_true, if_false, rdL2] at h ⊢
    exact rdN_len h
theorem rdLB_min {fx : Bool} {st : RSt} (h : (rdLB fx st).2.2 = false) : (if fx then 1 else 4) + (rdLB fx st).2.1.length ≤ st.1.length := by
  cases fx with
  | true =>
    simp only [rdLB, if_true, rdLc] at h ⊢
    have := rdUv_len h
    have := uvar_pos1 (rdUv st).1
    omega
  | false =>
    simp only [rdLB, Bool.false_eq_true, if_false, rdL4] at h ⊢
    exact rdN_len h
theorem rdL_rng (fx : Bool) (st : RSt) : (rdL fx st).1 < (if fx then 4294967295 else 32768) := by
  cases fx with
  | true =>
    simp only [rdL, if_true, rdLc]
    have := rdUv_lt st
    omega
  | false =>
    simp only [rdL, Bool.false_eq_true, if_false, rdL2]
    have := sgn2_rng st
    omega
theorem rdLB_rng (fx : Bool) (st : RSt) : (rdLB fx st).1 < (if fx then 4294967295 else 2147483648) := by
  cases fx with
  | true =>
    simp only [rdLB, if_true, rdLc]
    have := rdUv_lt st
    omega
  | false =>
    simp only [rdLB, Bool.false_eq_true, if_false, rdL4]
    have := sgn4_rng st
    omega
theorem strOk_of {fx : Bool} {l : List UInt8} {st : RSt} (h : (l.length : Int) = (rdL fx st).1) : strOk fx l := by
  have := rdL_rng fx st
  unfold strOk
  cases fx <;> simp only [Bool.false_eq_true, if_false, if_true] at this ⊢ <;> omega
theorem octOk_of {fx : Bool} {l : List UInt8} {st : RSt} (h : (l.length : Int) = (rdLB fx st).1) : octOk fx l := by
  have := rdLB_rng fx st
  unfold octOk
  cases fx <;> simp only [Bool.false_eq_true, if_false, if_true] at this ⊢ <;> omega
theorem i32_rng (n : Int) : -2147483648 ≤ IntKind.i32.wrap n ∧ IntKind.i32.wrap n ≤ 2147483647 := by
  have h2 : (2 : Int) ^ 32 = 4294967296 := by decide
  have h3 : (2 : Int) ^ (32 - 1) = 2147483648 := by decide
  simp only [IntKind.wrap, IntKind.bits, IntKind.signed, Bool.true_and, decide_eq_true_eq, h2, h3]
  split <;> omega
theorem rdCount_nb {p : Int × RSt} (h : (rdCount p).2.2 = false) : rdCount p = p := by
  unfold rdCount at h ⊢
  split at h
  · cases h
  · rename_i hh; rw [if_neg hh]
theorem rdCn_rng {fx : Bool} {st : RSt} (h : (rdCn fx st).2.2 = false) : (rdCn fx st).1 < 2147483648 := by
  cases fx with
  | true =>
    simp only [rdCn, if_true, rdCc, rdCount] at h ⊢
    split at h
    · cases h
    · rename_i hh
      rw [if_neg hh]
      have := i32_rng (IntKind.i32.wrap ((rdUv st).1 : Int) - 1)
      simp only
      omega
  | false =>
    have e : rdCn false st = rdL4 st := rdCount_nb h
    rw [e]
    have := sgn4_rng st
    show sgn 4 (rdN 4 st).1 < _
    omega
theorem rdCn_min {fx : Bool} {st : RSt} (h : (rdCn fx st).2.2 = false) : (if fx then 1 else 4) + (rdCn fx st).2.1.length ≤ st.1.length := by
  cases fx with
  | true =>
    simp only [rdCn, if_true, rdCc, rdCount] at h ⊢
    split at h
    · cases h
    · rename_i hh
      rw [if_neg hh]
      have h1 := rdUv_len h
      have h2 := uvar_pos1 (rdUv st).1
      simp only
      omega
  | false =>
    have e : rdCn false st = rdL4 st := rdCount_nb h
    rw [e] at h ⊢
    exact rdN_len (k := 4) h
theorem rdCn_len {fx : Bool} {st : RSt} (h : (rdCn fx st).2.2 = false) : ∀ n : Nat, (n : Int) = (rdCn fx st).1 → (wrLen fx n).length + (rdCn fx st).2.1.length ≤ st.1.length := by
  intro n hn
  have hr := rdCn_rng h
  cases fx with
  | true =>
    simp only [rdCn, if_true, rdCc, rdCount] at h hn hr ⊢
    split at h
    · cases h
    · rename_i hh
      rw [if_neg hh] at hn hr ⊢
      simp only at hn hr ⊢
      have h1 := rdUv_len h
      have h4 := rdUv_lt st
      have : n + 1 ≤ (rdUv st).1 := by
        have h2 : (2 : Int) ^ 32 = 4294967296 := by decide
        have h3 : (2 : Int) ^ (32 - 1) = 2147483648 := by decide
        simp only [IntKind.wrap, IntKind.bits, IntKind.signed, Bool.true_and, decide_eq_true_eq, h2, h3] at hn
        split at hn <;> split at hn <;> omega
      have := uvar_le (n := n + 1) (by omega) this
      simp only [wrLen, if_true]
      omega
  | false =>
    have := rdCn_min h
    simp only [wrLen, Bool.false_eq_true, if_false, be_len] at this ⊢
    exact this

/-! ## tags -/
def tagSum (l : List (Nat × List UInt8)) : Nat := (l.map wrTag).flatten.length
theorem tagSum_cons (x : Nat × List UInt8) (l : List (Nat × List UInt8)) : tagSum (x :: l) = (wrTag x).length + tagSum l := by simp [tagSum]
theorem setTag_sum (k : Nat) (v : List UInt8) : ∀ l, tagSum (setTag k v l) ≤ (wrTag (k, v)).length + tagSum l
  | [] => by simp [setTag, tagSum]
  | x :: l => by
    simp only [setTag]
    split
    · rw [tagSum_cons]; exact Nat.le_refl _
    · split
      · rw [tagSum_cons, tagSum_cons]; omega
      · have := setTag_sum k v l
        rw [tagSum_cons, tagSum_cons]; omega
theorem setTag_length (k : Nat) (v : List UInt8) : ∀ l, (setTag k v l).length ≤ l.length + 1
  | [] => by simp [setTag]
  | x :: l => by
    simp only [setTag]
    split
    · simp
    · split
      · simp
      · have := setTag_length k v l
        simp only [List.length_cons]; omega
theorem setTag_mem (k : Nat) (v : List UInt8) : ∀ l x, x ∈ setTag k v l → x = (k, v) ∨ x ∈ l
  | [], x, h => by simpa [setTag] using h
  | y :: l, x, h => by
    simp only [setTag] at h
    split at h
    · simpa using h
    · split at h
      · rcases List.mem_cons.1 h with h | h
        · exact .inl h
        · exact .inr (by simp [h])
      · rcases List.mem_cons.1 h with h | h
        · exact .inr (by simp [h])
        · rcases setTag_mem k v l x h with h | h
          · exact .inl h
          · exact .inr (by simp [h])
theorem setTag_sorted (k : Nat) (v : List UInt8) : ∀ l : List (Nat × List UInt8), l.Pairwise (fun x y => x.1 < y.1) → (setTag k v l).Pairwise (fun x y => x.1 < y.1)
  | [], _ => by simp [setTag]
  | y :: l, h => by
    have h2 := List.pairwise_cons.1 h
    simp only [setTag]
    split
    · rename_i hk
      refine List.pairwise_cons.2 ⟨fun x hx => ?_, h⟩
      rcases List.mem_cons.1 hx with rfl | hx
      · exact hk
      · have := h2.1 x hx
        show k < x.1
        omega
    · split
      · rename_i h1 h3
        exact List.pairwise_cons.2 ⟨fun x hx => by have := h2.1 x hx; show k < x.1; omega, h2.2⟩
      · rename_i h1 h3
        refine List.pairwise_cons.2 ⟨fun x hx => ?_, setTag_sorted k v l h2.2⟩
        rcases setTag_mem k v l x hx with rfl | hx
        · show y.1 < k; omega
        · exact h2.1 x hx
theorem rdTag_len {st : RSt} (h : (rdTag st).2.2 = false) : (wrTag (rdTag st).1).length + (rdTag st).2.1.length ≤ st.1.length ∧ (rdTag st).1.1 < 4294967296 ∧ (rdTag st).1.2.length < 4294967296 := by
  unfold rdTag at h ⊢
  simp only at h ⊢
  have h1 := rdSpan_len h
  have h2 := rdSpan_mono h
  have h3 := rdUv_len h2
  have h4 := rdUv_len (rdUv_mono h2)
  have h5 := rdUv_lt st
  have h6 := rdUv_lt (rdUv st).2
  have e : (rdSpan ((rdUv (rdUv st).2).1 : Int) (rdUv (rdUv st).2).2).1.length = (rdUv (rdUv st).2).1 := by omega
  refine ⟨?_, h5, by omega⟩
  simp only [wrTag, List.length_append]
  rw [e]
  omega
theorem rdTagsN_len : ∀ (n : Nat) (acc : List (Nat × List UInt8)) (st : RSt), (rdTagsN n acc st).2.2 = false → acc.Pairwise (fun x y => x.1 < y.1) → (∀ x ∈ acc, x.1 < 4294967296 ∧ x.2.length < 4294967296) →
    tagSum (rdTagsN n acc st).1 + (rdTagsN n acc st).2.1.length ≤ tagSum acc + st.1.length ∧ (rdTagsN n acc st).1.Pairwise (fun x y => x.1 < y.1) ∧ (∀ x ∈ (rdTagsN n acc st).1, x.1 < 4294967296 ∧ x.2.length < 4294967296) ∧ (rdTagsN n acc st).1.length ≤ acc.length + n
  | 0, acc, st, h, h1, h2 => ⟨Nat.le_refl _, h1, h2, by simp [rdTagsN]⟩
  | n + 1, acc, st, h, h1, h2 => by
    simp only [rdTagsN] at h ⊢
    have ht := rdTag_len (rdTagsN_mono n _ _ h)
    have ih := rdTagsN_len n _ _ h (setTag_sorted _ _ acc h1) (fun x hx => by
      rcases setTag_mem _ _ acc x hx with rfl | hx
      · exact ht.2
      · exact h2 x hx)
    have hs := setTag_sum (rdTag st).1.1 (rdTag st).1.2 acc
    have hl := setTag_length (rdTag st).1.1 (rdTag st).1.2 acc
    refine ⟨?_, ih.2.1, ih.2.2.1, ?_⟩
    · have := ih.1
      have e : ((rdTag st).1.1, (rdTag st).1.2) = (rdTag st).1 := rfl
      rw [e] at hs
      omega
    · have := ih.2.2.2
      omega
theorem rdTags_good {st : RSt} (h : (rdTags st).2.2 = false) : tagsGood (rdTags st).1 ∧ (wrTags (rdTags st).1).length + (rdTags st).2.1.length ≤ st.1.length := by
  unfold rdTags at h ⊢
  have h1 := rdTagsN_len _ _ _ h List.Pairwise.nil (fun x hx => by simp at hx)
  have h2 := rdUv_len (rdTagsN_mono _ _ _ h)
  have h3 := rdUv_lt st
  obtain ⟨g1, g2, g3, g4⟩ := h1
  simp only [List.length_nil, Nat.zero_add] at g4
  refine ⟨⟨⟨g2, fun x hx => (g3 x hx).1⟩, by omega, fun x hx => (g3 x hx).2⟩, ?_⟩
  have h5 := uvar_le (n := (rdTagsN (rdUv st).1 [] (rdUv st).2).1.length) (by omega) g4
  simp only [wrTags, List.length_append]
  have e : tagSum ([] : List (Nat × List UInt8)) = 0 := rfl
  rw [e] at g1
  unfold tagSum at g1
  omega

/-! ## what is read can be written, in no more octets -/
theorem rdMany_good {f : RSt → D × RSt} {g : D → List UInt8} {p : D → Prop} (hm : ∀ st, (f st).2.2 = false → st.2 = false) (hf : ∀ st, (f st).2.2 = false → p (f st).1 ∧ (g (f st).1).length + (f st).2.1.length ≤ st.1.length) :
    ∀ (n : Nat) (st : RSt), (rdMany f n st).2.2 = false → (∀ d ∈ (rdMany f n st).1, p d) ∧ ((rdMany f n st).1.map g).flatten.length + (rdMany f n st).2.1.length ≤ st.1.length
  | 0, st, h => by simp [rdMany]
  | n + 1, st, h => by
    simp only [rdMany] at h ⊢
    have ih := rdMany_good hm hf n _ h
    have h1 := hf st (rdMany_mono hm n _ h)
    refine ⟨fun d hd => ?_, ?_⟩
    · rcases List.mem_cons.1 hd with rfl | hd
      · exact h1.1
      · exact ih.1 d hd
    · simp only [List.map_cons, List.flatten_cons, List.length_append]
      have := ih.2
      have := h1.2
      omega
theorem rdMany_length (f : RSt → D × RSt) : ∀ (n : Nat) (st : RSt), (rdMany f n st).1.length = n
  | 0, _ => rfl
  | n + 1, st => by simp [rdMany, rdMany_length f n]
theorem rdNul_good {p : Int × RSt} (h : (rdNul p).2.2 = false) : (p.1 < 0 ∧ rdNul p = (none, p.2)) ∨ ∃ l : List UInt8, (l.length : Int) = p.1 ∧ (rdNul p).1 = some l ∧ l.length + (rdNul p).2.1.length ≤ p.2.1.length := by
  unfold rdNul at h ⊢
  by_cases hp : p.1 < 0
  · rw [if_pos hp]; exact .inl ⟨hp, rfl⟩
  · rw [if_neg hp] at h ⊢
    have := rdSpan_len h
    exact .inr ⟨_, this.1, rfl, this.2⟩
theorem Scal.rd_len {k : Scal} {st : RSt} (h : (k.rd st).2.2 = false) : (k.wr (k.rd st).1).length + (k.rd st).2.1.length ≤ st.1.length := by
  cases k <;> (have h' := rdN_len h; simp only [Scal.rd, Scal.wr, be_len, List.length_cons, List.length_nil]; exact h')
mutual
theorem Ty.rd_good (fx : Bool) (ver : Nat) : ∀ (t : Ty) (st : RSt), t.lp fx ver = true → (t.rd fx ver st).2.2 = false → t.good fx ver (t.rd fx ver st).1 ∧ (t.wr fx ver (t.rd fx ver st).1).length + (t.rd fx ver st).2.1.length ≤ st.1.length
  | .scal s _, st, hp, h | .named s _ _, st, hp, h => by
    simp only [Ty.rd] at h ⊢
    exact ⟨s.rd_ok st, Scal.rd_len h⟩
  | .uuid, st, hp, h => by
    simp only [Ty.rd] at h ⊢
    have := rdSpan_len h
    refine ⟨?_, ?_⟩
    · simp only [Ty.good]; omega
    · simp only [Ty.wr]; omega
  | .text, st, hp, h => by
    simp only [Ty.rd, rdStr] at h ⊢
    have h1 := rdSpan_len h
    have h2 := rdL_len (rdSpan_mono h) _ h1.1
    refine ⟨strOk_of h1.1, ?_⟩
    simp only [Ty.wr, wrStr, List.length_append]
    omega
  | .ntext, st, hp, h => by
    simp only [Ty.rd] at h ⊢
    rcases rdNul_good h with ⟨h1, e⟩ | ⟨l, h1, e, h2⟩
    · rw [e] at h ⊢
      refine ⟨trivial, ?_⟩
      have := rdL_min (fx := fx) h
      simp only [Ty.wr, wrNStr]
      cases fx <;> simp only [Bool.false_eq_true, if_false, if_true, be_len, List.length_cons, List.length_nil] at this ⊢ <;> omega
    · have h3 := rdL_len (rdNul_mono h) _ h1
      rw [e]
      refine ⟨strOk_of h1, ?_⟩
      simp only [Ty.wr, wrNStr, wrStr, List.length_append]
      omega
  | .ntextFrom _, st, hp, h => by simp [Ty.lp] at hp
  | .bytes, st, hp, h => by
    simp only [Ty.rd] at h ⊢
    by_cases hn : (rdLB fx st).1 = -1
    · have e : rdOct (rdLB fx st) = (some [], (rdLB fx st).2) := by unfold rdOct; rw [if_pos hn]
      rw [e] at h ⊢
      have := rdLB_min (fx := fx) h
      refine ⟨?_, ?_⟩
      · simp only [Ty.good, octOk]; cases fx <;> simp
      · simp only [Ty.wr, wrBytes, Option.getD_some, List.append_nil]
        cases fx
        · simp only [Bool.false_eq_true, if_false, be_len] at this ⊢; omega
        · simp only [if_true] at this ⊢
          have e : (Go.Km.uvar ([] : List UInt8).length.succ).length = 1 := by decide
          have e2 : (Go.Km.uvar (([] : List UInt8).length + 1)).length = 1 := by decide
          omega
    · have e : rdOct (rdLB fx st) = (some (rdSpan (rdLB fx st).1 (rdLB fx st).2).1, (rdSpan (rdLB fx st).1 (rdLB fx st).2).2) := by unfold rdOct; rw [if_neg hn]
      rw [e] at h ⊢
      have h1 := rdSpan_len h
      have h2 := rdLB_len (rdSpan_mono h) _ h1.1
      refine ⟨octOk_of h1.1, ?_⟩
      simp only [Ty.wr, wrBytes, Option.getD_some, List.length_append]
      have := h1.2
      omega
  | .nbytes, st, hp, h => by
    simp only [Ty.rd] at h ⊢
    rcases rdNul_good h with ⟨h1, e⟩ | ⟨l, h1, e, h2⟩
    · rw [e] at h ⊢
      refine ⟨trivial, ?_⟩
      have := rdLB_min (fx := fx) h
      simp only [Ty.wr, wrNBytes]
      cases fx <;> simp only [Bool.false_eq_true, if_false, if_true, be_len, List.length_cons, List.length_nil] at this ⊢ <;> omega
    · have h3 := rdLB_len (rdNul_mono h) _ h1
      rw [e]
      refine ⟨octOk_of h1, ?_⟩
      simp only [Ty.wr, wrNBytes, wrBytes, List.length_append]
      omega
  | .list TS null e, st, hp, h => by
    simp only [Ty.lp, Bool.and_eq_true] at hp
    have hnb : (rdCn fx st).2.2 = false := by
      simp only [Ty.rd] at h
      split at h
      · exact h
      · rename_i hh; simpa using hh
    have hmin := rdCn_min hnb
    have e0 : (Go.Km.uvar (0 + 1)).length = 1 := by decide
    by_cases hl : (rdCn fx st).1 ≤ 0
    · have e : (Ty.list TS null e).rd fx ver st = (if emptyB null ver (rdCn fx st).1 then .list (some []) else .list none, (rdCn fx st).2) := by
        simp only [Ty.rd, hnb, Bool.false_eq_true, if_false]
        rw [if_pos hl]
      rw [e]
      simp only
      by_cases he : emptyB null ver (rdCn fx st).1 = true
      · rw [if_pos he]
        refine ⟨⟨fun hn => ?_, by simp, fun d hd => by simp at hd⟩, ?_⟩
        · subst hn; simp [emptyB] at he
        · simp only [Ty.wr, wrLen, List.length_nil, List.map_nil, List.flatten_nil, List.append_nil]
          cases fx <;> simp only [Bool.false_eq_true, if_false, if_true, be_len] at hmin ⊢ <;> omega
      · rw [if_neg he]
        refine ⟨?_, ?_⟩
        · simp only [Ty.good]
          cases null with
          | none => exact .inl rfl
          | some N =>
            refine .inr ⟨N, rfl, ?_⟩
            simp only [emptyB, Bool.or_eq_true, decide_eq_true_eq, not_or] at he
            omega
        · simp only [Ty.wr]
          split
          · simp only [wrNull]
            cases fx <;> simp only [Bool.false_eq_true, if_false, if_true, be_len, List.length_cons, List.length_nil] at hmin ⊢ <;> omega
          · simp only [wrLen]
            cases fx <;> simp only [Bool.false_eq_true, if_false, if_true, be_len] at hmin ⊢ <;> omega
    · have e1 : (Ty.list TS null e).rd fx ver st = (.list (some (rdMany (fun s => e.rd fx ver s) (rdCn fx st).1.toNat (rdCn fx st).2).1), (rdMany (fun s => e.rd fx ver s) (rdCn fx st).1.toNat (rdCn fx st).2).2) := by
        simp only [Ty.rd, hnb, Bool.false_eq_true, if_false]
        rw [if_neg hl]
      rw [e1] at h ⊢
      have hg := rdMany_good (f := fun s => e.rd fx ver s) (g := fun d => e.wr fx ver d) (p := fun d => e.good fx ver d) (fun st h => Ty.rd_mono fx ver e st h) (fun st h => Ty.rd_good fx ver e st hp.2 h) _ _ h
      have hlen := rdMany_length (fun s => e.rd fx ver s) (rdCn fx st).1.toNat (rdCn fx st).2
      have hr := rdCn_rng hnb
      have hcl := rdCn_len hnb (rdCn fx st).1.toNat (by omega)
      refine ⟨⟨fun _ hn => ?_, by rw [hlen]; omega, hg.1⟩, ?_⟩
      · rw [hn] at hlen; simp at hlen; omega
      · simp only [Ty.wr, List.length_append]
        rw [hlen]
        have := hg.2
        omega
  | .struct _ _ _ fs, st, hp, h => by
    simp only [Ty.rd] at h ⊢
    simp only [Ty.lp] at hp
    have := Flds.rd_good fx ver fs st hp h
    exact ⟨this.1, this.2⟩
theorem Flds.rd_good (fx : Bool) (ver : Nat) : ∀ (fs : Flds) (st : RSt), fs.lp fx ver = true → (fs.rd fx ver st).2.2.2 = false → fs.good fx ver (fs.rd fx ver st).1 (fs.rd fx ver st).2.1 ∧ (fs.wr fx ver (fs.rd fx ver st).1 (fs.rd fx ver st).2.1).length + (fs.rd fx ver st).2.2.1.length ≤ st.1.length
  | .nil _, st, hp, h => by
    cases fx with
    | true =>
      simp only [Flds.rd, if_true] at h ⊢
      have := rdTags_good h
      refine ⟨?_, ?_⟩
      · simp only [Flds.good, if_true]; exact this.1
      · simp only [Flds.wr, if_true]; exact this.2
    | false => simp [Flds.rd, Flds.good, Flds.wr]
  | .cons v t r, st, hp, h => by
    simp only [Flds.lp, Bool.and_eq_true, Bool.or_eq_true, Bool.not_eq_true'] at hp
    cases hv : v.has ver with
    | true =>
      have hpt : t.lp fx ver = true := by
        rcases hp.1 with h | h
        · rw [hv] at h; cases h
        · exact h
      have e : (Flds.cons v t r).rd fx ver st = ((t.rd fx ver st).1 :: (r.rd fx ver (t.rd fx ver st).2).1, (r.rd fx ver (t.rd fx ver st).2).2) := by simp only [Flds.rd, hv, if_true]
      rw [e] at h ⊢
      have h1 := Flds.rd_good fx ver r _ hp.2 h
      have h2 := Ty.rd_good fx ver t st hpt (Flds.rd_mono fx ver r _ h)
      refine ⟨?_, ?_⟩
      · simp only [Flds.good, hv, if_true]
        exact ⟨h2.1, h1.1⟩
      · simp only [Flds.wr, hv, if_true, List.length_append]
        have := h1.2
        have := h2.2
        omega
    | false =>
      have e : (Flds.cons v t r).rd fx ver st = (t.dflt :: (r.rd fx ver st).1, (r.rd fx ver st).2) := by simp only [Flds.rd, hv, Bool.false_eq_true, if_false]
      rw [e] at h ⊢
      have h1 := Flds.rd_good fx ver r _ hp.2 h
      refine ⟨?_, ?_⟩
      · simp only [Flds.good, hv, Bool.false_eq_true, if_false]
        exact ⟨trivial, h1.1⟩
      · simp only [Flds.wr, hv, Bool.false_eq_true, if_false, List.nil_append]
        exact h1.2
end
end Go.Km
set_option linter.unusedSimpArgs false
set_option linter.unusedVariables false
namespace Go.Km
open Go Go.RowKit
attribute [local irreducible] vc runOps runG runS runD

/-! ## the plain law of a message -/
theorem back_again {m : Msg} (hk : m.kept = false) {ver : Nat} (hl : m.fs.lp (m.isFlex ver) ver = true) {l a : List UInt8} (h : m.back ver l = some a) : m.back ver a = some a ∧ a.length ≤ l.length := by
  have e : ∀ x, m.rst x = (x, false) := fun x => by simp [Msg.rst, hk]
  have hw : m.wfs = m.fs := by simp [Msg.wfs, hk]
  have ho : ∀ ds tags, m.out ver ds tags = m.fs.wr (m.isFlex ver) ver ds tags := fun ds tags => by simp [Msg.out, Msg.wdat, hw, hk]
  unfold Msg.back at h ⊢
  simp only [e, ho, Msg.rdv] at h ⊢
  cases hb : (m.fs.rd (m.isFlex ver) ver (l, false)).2.2.2 with
  | true => rw [hb] at h; simp at h
  | false =>
    rw [hb] at h
    simp only [Bool.false_eq_true, if_false, Option.some.injEq] at h
    have hg := Flds.rd_good (m.isFlex ver) ver m.fs (l, false) hl hb
    have hr := Flds.rd_wr (m.isFlex ver) ver m.fs _ _ [] hl hg.1
    rw [h, List.append_nil] at hr
    rw [hr]
    refine ⟨?_, ?_⟩
    · simp only [Bool.false_eq_true, if_false, h]
    · have := hg.2
      rw [h] at this
      simp only at this
      omega
theorem back_wr {m : Msg} (hk : m.kept = false) {ver : Nat} (hl : m.fs.lp (m.isFlex ver) ver = true) {ds : List D} {tags : List (Nat × List UInt8)} (h : m.fs.good (m.isFlex ver) ver ds tags) : m.back ver (m.fs.wr (m.isFlex ver) ver ds tags) = some (m.fs.wr (m.isFlex ver) ver ds tags) := by
  have e : ∀ x, m.rst x = (x, false) := fun x => by simp [Msg.rst, hk]
  have hw : m.wfs = m.fs := by simp [Msg.wfs, hk]
  have ho : ∀ ds tags, m.out ver ds tags = m.fs.wr (m.isFlex ver) ver ds tags := fun ds tags => by simp [Msg.out, Msg.wdat, hw, hk]
  have hr := Flds.rd_wr (m.isFlex ver) ver m.fs ds tags [] hl h
  rw [List.append_nil] at hr
  unfold Msg.back
  simp only [e, ho, Msg.rdv, hr, Bool.false_eq_true, if_false]
theorem back_cut {m : Msg} (hk : m.kept = false) {ver : Nat} (hl : m.fs.lp (m.isFlex ver) ver = true) {ds : List D} {tags : List (Nat × List UInt8)} (h : m.fs.good (m.isFlex ver) ver ds tags) {n : Nat} (hn : n < (m.fs.wr (m.isFlex ver) ver ds tags).length) :
    m.back ver ((m.fs.wr (m.isFlex ver) ver ds tags).take n) = none := by
  have e : ∀ x, m.rst x = (x, false) := fun x => by simp [Msg.rst, hk]
  have hr := Flds.rd_wr (m.isFlex ver) ver m.fs ds tags [] hl h
  rw [List.append_nil] at hr
  generalize m.fs.wr (m.isFlex ver) ver ds tags = b at *
  unfold Msg.back
  simp only [e, Msg.rdv]
  cases hb : (m.fs.rd (m.isFlex ver) ver (b.take n, false)).2.2.2 with
  | true => simp
  | false =>
    have hx := Flds.rd_ext (m.isFlex ver) ver m.fs (b.take n) (b.drop n) hb
    rw [List.take_append_drop, hr] at hx
    have h2 := congrArg (fun x => x.2.2.1.length) hx
    simp only [List.length_nil, List.length_append, List.length_drop] at h2
    omega

/-! ## the law's body -/
/-- A slice of octets that came in. -/
def BytesIn (P : Program) (E : Env) (W : World) (sv : Value) (l : List UInt8) : Prop :=
  (∃ ad cap, sv = .slice ad l.length cap) ∧ ∀ w', Below W.heap.size W w' → Src P 1 E.tBytes sv l.length (l.map bv) w'
theorem RowB.bytesIn {P : Program} {E : Env} (HB : rowB P E.tBytes E.tU8 1 = true) {W : World} {sv : Value} {l : List UInt8} (h : RowB W sv l) : BytesIn P E W sv l :=
  ⟨h.form, fun w' hb => (h.below hb).src (rowB_slice HB)⟩
theorem BytesIn.below {P : Program} {E : Env} {W W' : World} {sv : Value} {l : List UInt8} (h : BytesIn P E W sv l) (hb : Below W.heap.size W W') : BytesIn P E W' sv l :=
  ⟨h.1, fun w' hb' => h.2 w' (hb.trans (hb'.mono hb.size))⟩
structure MA where
  implMax : FuncId
  again : FuncId
  law : FuncId
  tTup : TypeId
/-- The calls that read and write a message again. -/
def AgainC (P : Program) (E : Env) (m : Msg) (f : FuncId) (mx : Nat) : Prop :=
  ∀ (ver : Nat) (l : List UInt8) (sv ev : Value) (W : World), ver ≤ mx → BytesIn P E W sv l → l.length ≤ big → W.cell? ⟨E.vErr, 0, none⟩ = some ev → (∃ u z, ev = .iface u z) →
    CallsV P f #[.int .i64 ver, sv] W fun r w' => BackV E (m.back ver l) W w' r
def lpB (m : Msg) (mx : Nat) : Bool := (List.range (mx + 1)).all fun v => m.fs.lp (m.isFlex v) v
theorem lpB_at {m : Msg} {mx ver : Nat} (h : lpB m mx = true) (hv : ver ≤ mx) : m.fs.lp (m.isFlex ver) ver = true := List.all_eq_true.1 h ver (List.mem_range.2 (by omega))
theorem againC {P : Program} {E : Env} {T : List (Nat × List UInt8) → Prop} (HW : EnvW P E T) (HI : EnvI P E) (HB : rowB P E.tBytes E.tU8 1 = true) (i16 : intT P E.tI16 = some .i16) (ii : intT P E.tInt = some .i64) (o16 : oneT P E.tI16 = true) (oE : ifaceT P E.tErr = true) {m : Msg} {N : MR} {np nt nps nts npa nta mx : Nat}
    (ht : Text P N.again np nt #[.tmp 4, .tmp 5] (c_again E m N)) (hn : 19 ≤ nt) (hN : NewC P N.newPtr m) (hs : Text P N.setV nps nts #[] (c_setV E m)) (hns : 8 ≤ nts) (ho : fieldOff P m.TU 0 = some 0) (hR : ReadC P E T m N.rd)
    (ha : Text P N.app npa nta #[.tmp 4] (m.wcode E)) (hna : m.wtop ≤ nta) (hokw : m.okW P E = true) (hk : m.kept = false) (hmx : mx < 32768) (hlp : lpB m mx = true) : AgainC P E m N.again mx :=
  fun ver l sv ev W hv hin hl he hev => c_again_ok HW HI HB i16 ii o16 oE ht hn hN hs hns ho hR ha hna hokw hk (by omega) hin.2 hl he hev (fun x hx => Nat.le_trans (back_again hk (lpB_at hlp hv) hx).2 hl)
def c_anyL (E : Env) (A : MA) : Code :=
  (sq [(rg [⟨some 4, .assign (.const (.bool false)), E.tBool, "", #[], none⟩]),
    (sq [(rg [⟨some 10, .move (.tmp 1), E.tBytes, "", #[], none⟩,
        ⟨some 11, .call { callee := .builtin .len, args := #[(.tmp 10)], argTypes := #[E.tBytes] }, E.tInt, "", #[], none⟩,
        ⟨some 12, .binOp .gtr E.tInt (.tmp 11) (.const (.int .i64 2147483647)) E.tInt, E.tBool, "", #[], none⟩]),
      (.cond (.tmp 12)
        (sq [(rg [⟨some 4, .assign (.const (.bool true)), E.tBool, "", #[], none⟩]),
          .ret])
        .skip)]),
    (rg [⟨some 13, .call { callee := .value (.func A.implMax), args := #[], argTypes := #[] }, E.tInt, "", #[], none⟩,
      ⟨some 5, .assign (.tmp 13), E.tInt, "", #[], none⟩]),
    (sq [(rg [⟨some 14, .move (.tmp 5), E.tInt, "", #[], none⟩,
        ⟨some 15, .binOp .lss E.tInt (.tmp 14) (.const (.int .i64 0)) E.tInt, E.tBool, "", #[], none⟩]),
      (.cond (.tmp 15)
        (sq [(rg [⟨some 4, .assign (.const (.bool false)), E.tBool, "", #[], none⟩]),
          .ret])
        .skip)]),
    (sq [(rg [⟨some 16, .move (.tmp 1), E.tBytes, "", #[], none⟩,
        ⟨some 17, .call { callee := .builtin .len, args := #[(.tmp 16)], argTypes := #[E.tBytes] }, E.tInt, "", #[], none⟩,
        ⟨some 18, .binOp .gtr E.tInt (.tmp 17) (.const (.int .i64 1000)) E.tInt, E.tBool, "", #[], none⟩]),
      (.cond (.tmp 18)
        (sq [(rg [⟨some 4, .assign (.const (.bool true)), E.tBool, "", #[], none⟩]),
          .ret])
        .skip)]),
    (rg [⟨some 20, .move (.tmp 0), E.tU8, "", #[], none⟩,
      ⟨some 21, .move (.tmp 5), E.tInt, "", #[], none⟩,
      ⟨some 22, .call { callee := .value (.func E.lVersion), args := #[(.tmp 20), (.tmp 21)], argTypes := #[E.tU8, E.tInt] }, E.tInt, "", #[], none⟩,
      ⟨some 23, .move (.tmp 1), E.tBytes, "", #[], none⟩,
      ⟨some 24, .call { callee := .value (.func A.again), args := #[(.tmp 22), (.tmp 23)], argTypes := #[E.tInt, E.tBytes] }, A.tTup, "", #[], none⟩,
      ⟨some 19, .move (.tmp 24), A.tTup, "", #[], none⟩,
      ⟨some 25, .extract (.tmp 19) 0, E.tBytes, "", #[], none⟩,
      ⟨some 26, .extract (.tmp 19) 1, E.tBool, "", #[], none⟩,
      ⟨some 6, .assign (.tmp 25), E.tBytes, "", #[], none⟩,
      ⟨some 7, .assign (.tmp 26), E.tBool, "", #[], none⟩]),
    (sq [(rg [⟨some 27, .move (.tmp 7), E.tBool, "", #[], none⟩,
        ⟨some 28, .unOp .not E.tBool (.tmp 27), E.tBool, "", #[], none⟩]),
      (.cond (.tmp 28)
        (sq [(rg [⟨some 4, .assign (.const (.bool true)), E.tBool, "", #[], none⟩]),
          .ret])
        .skip)]),
    (rg [⟨some 30, .move (.tmp 0), E.tU8, "", #[], none⟩,
      ⟨some 31, .move (.tmp 5), E.tInt, "", #[], none⟩,
      ⟨some 32, .call { callee := .value (.func E.lVersion), args := #[(.tmp 30), (.tmp 31)], argTypes := #[E.tU8, E.tInt] }, E.tInt, "", #[], none⟩,
      ⟨some 33, .move (.tmp 6), E.tBytes, "", #[], none⟩,
      ⟨some 34, .call { callee := .value (.func A.again), args := #[(.tmp 32), (.tmp 33)], argTypes := #[E.tInt, E.tBytes] }, A.tTup, "", #[], none⟩,
      ⟨some 29, .move (.tmp 34), A.tTup, "", #[], none⟩,
      ⟨some 35, .extract (.tmp 29) 0, E.tBytes, "", #[], none⟩,
      ⟨some 36, .extract (.tmp 29) 1, E.tBool, "", #[], none⟩,
      ⟨some 8, .assign (.tmp 35), E.tBytes, "", #[], none⟩,
      ⟨some 9, .assign (.tmp 36), E.tBool, "", #[], none⟩]),
    (rg [⟨some 37, .move (.tmp 9), E.tBool, "", #[], none⟩,
      ⟨some 38, .move (.tmp 37), E.tBool, "", #[], none⟩,
      ⟨some 39, .move (.tmp 6), E.tBytes, "", #[], some (1, true)⟩,
      ⟨some 40, .move (.tmp 8), E.tBytes, "", #[], some (1, true)⟩,
      ⟨some 41, .call { callee := .value (.func E.sSame), args := #[(.tmp 39), (.tmp 40)], argTypes := #[E.tBytes, E.tBytes] }, E.tBool, "", #[], some (1, true)⟩,
      ⟨some 42, .pick (.tmp 38) (.tmp 41) (.const (.bool false)), E.tBool, "", #[], none⟩,
      ⟨some 4, .assign (.tmp 42), E.tBool, "", #[], none⟩]),
    .ret])
def c_implMaxA (E : Env) (m : Msg) (np mv : FuncId) : Code :=
  sq [rg [oAssign 0 (.const (.int .i64 0)) E.tInt], rg [oCall (some 1) np #[] #[] m.TP, oCall (some 2) mv #[.tmp 1] #[m.TP] E.tI16, oConv 3 E.tI16 E.tInt (.tmp 2), oAssign 0 (.tmp 3) E.tInt], .ret]
section
variable {P : Program} {E : Env}
theorem c_implMaxA_ok {m : Msg} {F npf mvf : FuncId} {np nt mx : Nat} (i16 : intT P E.tI16 = some .i16) (ii : intT P E.tInt = some .i64) (ht : Text P F np nt #[.tmp 0] (c_implMaxA E m npf mvf)) (hn : 4 ≤ nt) (hN : NewC P npf m) (hM : ∀ x w, CallsV P mvf #[x] w fun v w' => v = .int .i16 mx ∧ w' = w) (hmx : mx < 32768) (w : World) :
    CallsV P F #[] w fun v w' => v = .int .i64 mx ∧ Below w.heap.size w w' := by
  refine CallsV.enter ht (by simp) ?_
  intro a hsz hdf harg
  unfold c_implMaxA
  refine vc_sq (vc_rg (by simp) ?_)
  refine r_assign ?_
  refine dn ?_
  refine vc_sq (vc_rg (by simp) ?_)
  refine r_call' (args := #[]) (by simp) (hN w) ?_
  rintro v w1 ⟨rfl, hb1, _⟩
  refine r_call' (args := #[.pointer (some ⟨w.heap.size, 0, none⟩)]) ?_ (hM _ w1) ?_
  · simp only [List.map_toArray, List.map_cons, List.map_nil]
    simp (disch := (first | omega | (simp only [sP]; omega))) only [eS, eN, eC]
  rintro v w2 ⟨rfl, rfl⟩
  refine r_conv (k := .i16) (k' := .i64) (m := (mx : Int)) i16 ii (by simp (disch := (first | omega | (simp only [sP]; omega))) only [eS, eN, eC]) ?_
  rw [wrap_i64 (by omega) (by omega)]
  refine r_assign ?_
  refine dn ?_
  refine vc_sq (vc_ret ?_)
  exact ⟨by simp only [defers_put]; exact hdf, .int .i64 mx, results_one (by simp (disch := (first | omega | (simp only [sP]; omega))) only [eS, eN, eC]), rfl, hb1⟩
set_option maxHeartbeats 1000000 in
theorem c_any_ok (hu8 : intT P E.tU8 = some .u8) (hint : intT P E.tInt = some .i64) (hU8 : oneT P E.tU8 = true) (hmix : P.follows .mixedOrders = true) (hsame : Text P E.sSame 2 26 #[.tmp 4] (c_sSame E)) (HB : rowB P E.tBytes E.tU8 1 = true) (hver : Text P E.lVersion 2 10 #[.tmp 4] (c_lVersion E)) {m : Msg} {A : MA} {np nt mx : Nat} (ht : Text P A.law np nt #[.tmp 4] (c_anyL E A)) (hn : 43 ≤ nt)
    (hMax : ∀ w, CallsV P A.implMax #[] w fun v w' => v = .int .i64 mx ∧ Below w.heap.size w w') (hmx : mx < 32768) (hAg : AgainC P E m A.again mx)
    (hpure : ∀ ver : Nat, ver ≤ mx → ∀ l a, m.back ver l = some a → m.back ver a = some a ∧ a.length ≤ l.length) {n : Nat} (hn8 : n < 256) {sv ev : Value} {l : List UInt8} {W : World} (hin : BytesIn P E W sv l) (hlen : l.length ≤ 9223372036854775807)
    (he : W.cell? ⟨E.vErr, 0, none⟩ = some ev) (hev : ∃ u z, ev = .iface u z) : CallsV P A.law #[.int .u8 n, sv] W fun v w' => v = .bool true ∧ Below W.heap.size W w' := by
  have hevlt := lt_of_cell he
  obtain ⟨ad, cap, hsv⟩ := hin.1
  refine CallsV.enter ht (by simp; omega) ?_
  intro a hsz hdf harg
  have e0 := harg 0 (.int .u8 n) (by simp)
  have e1 := harg 1 sv (by simp)
  unfold c_anyL
  refine vc_sq (vc_rg (by simp) ?_)
  refine r_assign ?_
  refine dn ?_
  refine vc_sq (vc_sq (vc_rg (by simp) ?_))
  refine r_move ?_
  refine r_len (ad := ad) (n := l.length) (c := cap) (rowB_slice HB) (by simp (disch := (first | omega | (simp only [sP]; omega))) only [eS, eN, eC, e1, hsv]) ?_
  refine r_gtr (k := .i64) (m := (l.length : Int)) (n := 2147483647) (by simp (disch := (first | omega | (simp only [sP]; omega))) only [eS, eN, eC]) rfl ?_
  refine dn ?_
  refine vc_sq (vc_cond (t := decide ((l.length : Int) > 2147483647)) (by simp (disch := (first | omega | (simp only [sP]; omega))) only [eS, eN, eC]) ?_ ?_)
  · intro h
    refine vc_sq (vc_rg (by simp) ?_)
    refine r_assign ?_
    refine dn ?_
    refine vc_sq (vc_ret ?_)
    exact ⟨by simp only [defers_put]; exact hdf, .bool true, results_one (by simp (disch := (first | omega | (simp only [sP]; omega))) only [eS, eN, eC]), rfl, Below.refl _ _⟩
  intro h1
  refine vc_skip (vc_sq_nil ?_)
  refine vc_sq (vc_rg (by simp) ?_)
  refine r_call' (args := #[]) (by simp) (hMax W) ?_
  rintro v w1 ⟨rfl, hb1⟩
  refine r_assign ?_
  refine dn ?_
  refine vc_sq (vc_sq (vc_rg (by simp) ?_))
  refine r_move ?_
  refine r_lss (k := .i64) (m := (mx : Int)) (n := 0) (by simp (disch := (first | omega | (simp only [sP]; omega))) only [eS, eN, eC]) rfl ?_
  refine dn ?_
  refine vc_sq (vc_cond (t := false) ?_ (fun h => by cases h) ?_)
  · simp (disch := (first | omega | (simp only [sP]; omega))) only [eS, eN, eC]
    simp only [Value.bool.injEq, decide_eq_false_iff_not]
    omega
  intro _
  refine vc_skip (vc_sq_nil ?_)
  refine vc_sq (vc_sq (vc_rg (by simp) ?_))
  refine r_move ?_
  refine r_len (ad := ad) (n := l.length) (c := cap) (rowB_slice HB) (by simp (disch := (first | omega | (simp only [sP]; omega))) only [eS, eN, eC, e1, hsv]) ?_
  refine r_gtr (k := .i64) (m := (l.length : Int)) (n := 1000) (by simp (disch := (first | omega | (simp only [sP]; omega))) only [eS, eN, eC]) rfl ?_
  refine dn ?_
  refine vc_sq (vc_cond (t := decide ((l.length : Int) > 1000)) (by simp (disch := (first | omega | (simp only [sP]; omega))) only [eS, eN, eC]) ?_ ?_)
  · intro h
    refine vc_sq (vc_rg (by simp) ?_)
    refine r_assign ?_
    refine dn ?_
    refine vc_sq (vc_ret ?_)
    exact ⟨by simp only [defers_put]; exact hdf, .bool true, results_one (by simp (disch := (first | omega | (simp only [sP]; omega))) only [eS, eN, eC]), rfl, hb1⟩
  intro h2
  have hl1000 : l.length ≤ 1000 := by
    have : ¬ ((l.length : Int) > 1000) := by simpa using h2
    omega
  have hbig : l.length ≤ big := by unfold big; omega
  refine vc_skip (vc_sq_nil ?_)
  generalize hG : Act.put _ (some 18) _ = G
  have hsG : G.tmps.size = nt := by rw [← hG]; simp only [size_put]; exact hsz
  have hdG : G.defers = [] := by rw [← hG]; simp only [defers_put]; exact hdf
  have k0 : G.eval (.tmp 0) = .int .u8 n := by rw [← hG]; simp (disch := (first | omega | (simp only [sP]; omega))) only [eS, eN, eC, e0]
  have k1 : G.eval (.tmp 1) = sv := by rw [← hG]; simp (disch := (first | omega | (simp only [sP]; omega))) only [eS, eN, eC, e1]
  have k5 : G.eval (.tmp 5) = .int .i64 mx := by rw [← hG]; simp (disch := (first | omega | (simp only [sP]; omega))) only [eS, eN, eC]
  clear hG
  have hvle : n % (mx + 1) ≤ mx := by have := Nat.mod_lt n (show mx + 1 > 0 by omega); omega
  have he1 : w1.cell? ⟨E.vErr, 0, none⟩ = some ev := by rw [hb1.cell (p := ⟨E.vErr, 0, none⟩) hevlt]; exact he
  refine vc_sq (vc_rg (by simp) ?_)
  refine r_move ?_
  refine r_move ?_
  refine r_call' (args := #[.int .u8 n, .int .i64 mx]) ?_ (s_version hver hu8 hint hn8 hmx) ?_
  · simp only [List.map_toArray, List.map_cons, List.map_nil]
    simp (disch := (first | omega | (simp only [sP]; omega))) only [eS, eN, eC, k0, k5]
  rintro v3 w2 ⟨rfl, rfl⟩
  refine r_move ?_
  refine r_call' (args := #[.int .i64 (n % (mx + 1) : Nat), sv]) ?_ (hAg (n % (mx + 1)) l sv ev w2 hvle (hin.below hb1) hbig he1 hev) ?_
  · simp only [List.map_toArray, List.map_cons, List.map_nil]
    simp (disch := (first | omega | (simp only [sP]; omega))) only [eS, eN, eC, k1]
  rintro r w3 ⟨hb3, hr⟩
  generalize hvv : n % (mx + 1) = ver at *
  have hb03 : Below W.heap.size W w3 := hb1.trans (hb3.mono hb1.size)
  obtain ⟨x, ok, rfl, hxok⟩ : ∃ x ok, r = .tuple #[x, .bool ok] ∧ (match m.back ver l with | none => ok = false | some a => ok = true ∧ w3.ownsRow w2.heap.size E.tU8 1 x a.length (a.map bv)) := by
    cases hbk : m.back ver l with
    | none => rw [hbk] at hr; exact ⟨_, _, hr, rfl⟩
    | some a => rw [hbk] at hr; obtain ⟨x, h1, h2⟩ := hr; exact ⟨x, true, h1, rfl, h2⟩
  refine r_move ?_
  refine r_extract (vs := #[x, .bool ok]) (v := x) (by simp (disch := (first | omega | (simp only [sP]; omega))) only [eS, eN, eC]) rfl ?_
  refine r_extract (vs := #[x, .bool ok]) (v := .bool ok) (by simp (disch := (first | omega | (simp only [sP]; omega))) only [eS, eN, eC]) rfl ?_
  refine r_assign ?_
  refine r_assign ?_
  refine dn ?_
  refine vc_sq (vc_sq (vc_rg (by simp) ?_))
  refine r_move ?_
  refine r_not (b := ok) (by simp (disch := (first | omega | (simp only [sP]; omega))) only [eS, eN, eC]) ?_
  refine dn ?_
  refine vc_sq (vc_cond (t := !ok) (by simp (disch := (first | omega | (simp only [sP]; omega))) only [eS, eN, eC]) ?_ ?_)
  · intro h
    refine vc_sq (vc_rg (by simp) ?_)
    refine r_assign ?_
    refine dn ?_
    refine vc_sq (vc_ret ?_)
    exact ⟨by simp only [defers_put]; exact hdG, .bool true, results_one (by simp (disch := (first | omega | (simp only [sP]; omega))) only [eS, eN, eC]), rfl, hb03⟩
  intro h
  refine vc_skip (vc_sq_nil ?_)
  have hok : ok = true := by simpa using h
  subst hok
  cases hbk : m.back ver l with
  | none => rw [hbk] at hxok; cases hxok
  | some b =>
  rw [hbk] at hxok
  have hown := hxok.2
  obtain ⟨hpb, hpl⟩ := hpure ver hvle l b hbk
  generalize hG2 : Act.put _ (some 28) _ = G2
  have hsG2 : G2.tmps.size = nt := by rw [← hG2]; simp only [size_put]; exact hsG
  have hdG2 : G2.defers = [] := by rw [← hG2]; simp only [defers_put]; exact hdG
  have k0 : G2.eval (.tmp 0) = .int .u8 n := by rw [← hG2]; simp (disch := (first | omega | (simp only [sP]; omega))) only [eS, eN, eC, k0]
  have k5 : G2.eval (.tmp 5) = .int .i64 mx := by rw [← hG2]; simp (disch := (first | omega | (simp only [sP]; omega))) only [eS, eN, eC, k5]
  have k6 : G2.eval (.tmp 6) = x := by rw [← hG2]; simp (disch := (first | omega | (simp only [sP]; omega))) only [eS, eN, eC]
  clear hG2
  have he3 : w3.cell? ⟨E.vErr, 0, none⟩ = some ev := by rw [hb03.cell (p := ⟨E.vErr, 0, none⟩) hevlt]; exact he
  refine vc_sq (vc_rg (by simp) ?_)
  refine r_move ?_
  refine r_move ?_
  refine r_call' (args := #[.int .u8 n, .int .i64 mx]) ?_ (s_version hver hu8 hint hn8 hmx) ?_
  · simp only [List.map_toArray, List.map_cons, List.map_nil]
    simp (disch := (first | omega | (simp only [sP]; omega))) only [eS, eN, eC, k0, k5]
  rintro v4 w4 ⟨rfl, rfl⟩
  rw [hvv]
  refine r_move ?_
  refine r_call' (args := #[.int .i64 ver, x]) ?_ (hAg ver b x ev w4 hvle ((RowB.of_own hown).bytesIn HB) (by omega) he3 hev) ?_
  · simp only [List.map_toArray, List.map_cons, List.map_nil]
    simp (disch := (first | omega | (simp only [sP]; omega))) only [eS, eN, eC, k6]
  rintro r w5 ⟨hb5, hr⟩
  rw [hpb] at hr
  obtain ⟨y, rfl, hy⟩ := hr
  refine r_move ?_
  refine r_extract (vs := #[y, .bool true]) (v := y) (by simp (disch := (first | omega | (simp only [sP]; omega))) only [eS, eN, eC]) rfl ?_
  refine r_extract (vs := #[y, .bool true]) (v := .bool true) (by simp (disch := (first | omega | (simp only [sP]; omega))) only [eS, eN, eC]) rfl ?_
  refine r_assign ?_
  refine r_assign ?_
  refine dn ?_
  generalize hG3 : Act.put _ (some 9) _ = G3
  have hsG3 : G3.tmps.size = nt := by rw [← hG3]; simp only [size_put]; exact hsG2
  have hdG3 : G3.defers = [] := by rw [← hG3]; simp only [defers_put]; exact hdG2
  have k6 : G3.eval (.tmp 6) = x := by rw [← hG3]; simp (disch := (first | omega | (simp only [sP]; omega))) only [eS, eN, eC, k6]
  have k8 : G3.eval (.tmp 8) = y := by rw [← hG3]; simp (disch := (first | omega | (simp only [sP]; omega))) only [eS, eN, eC]
  have k9 : G3.eval (.tmp 9) = .bool true := by rw [← hG3]; simp (disch := (first | omega | (simp only [sP]; omega))) only [eS, eN, eC]
  clear hG3
  refine vc_sq (vc_runS ?_)
  refine runS_do rfl (wants_none rfl) (r_move (dn (runS_then ?_)))
  refine runS_do rfl (wants_none rfl) (r_move (dn (runS_then ?_)))
  refine runS_do rfl (by rw [wants_some (b := true) rfl rfl (by simp (disch := (first | omega | (simp only [sP]; omega))) only [eS, eN, eC, k9])]; rfl) (r_move (dn (runS_then ?_)))
  refine runS_do rfl (by rw [wants_some (b := true) rfl rfl (by simp (disch := (first | omega | (simp only [sP]; omega))) only [eS, eN, eC, k9])]; rfl) (r_move (dn (runS_then ?_)))
  refine runS_do rfl (by rw [wants_some (b := true) rfl rfl (by simp (disch := (first | omega | (simp only [sP]; omega))) only [eS, eN, eC, k9])]; rfl) ?_
  refine r_call' (args := #[x, y]) ?_ (s_same (U := w5.heap.size) HB hU8 hmix hsame (RowB.of_own (own_below2 hown hb5)) (RowB.of_own hy) (by omega) (by omega)) ?_
  · simp only [List.map_toArray, List.map_cons, List.map_nil]
    simp (disch := (first | omega | (simp only [sP]; omega))) only [eS, eN, eC, k6, k8]
  rintro v6 w6 ⟨rfl, hb6⟩
  refine dn (runS_then ?_)
  refine runS_do rfl (wants_none rfl) (r_pickT (by simp (disch := (first | omega | (simp only [sP]; omega))) only [eS, eN, eC, k9]) (dn (runS_then ?_)))
  refine runS_do rfl (wants_none rfl) (r_assign (dn (runS_then ?_)))
  refine runS_nil ?_
  refine vc_sq (vc_ret ?_)
  refine ⟨by simp only [defers_put]; exact hdG3, .bool true, results_one ?_, rfl, hb03.trans ((hb5.trans (hb6.mono hb5.size)).mono hb03.size)⟩
  simp (disch := (first | omega | (simp only [sP]; omega))) only [eS, eN, eC]
  simp
end
end Go.Km
set_option linter.unusedSimpArgs false
set_option linter.unusedVariables false
namespace Go.Km
open Go Go.RowKit

/-- The functions of kbin that read have the texts that the contracts are about. -/
structure RTexts (P : Program) (E : Env) : Prop where
  mixed : P.follows .mixedOrders = true
  row : rowB P E.tBytes E.tU8 1 = true
  u8 : intT P E.tU8 = some .u8
  int : intT P E.tInt = some .i64
  oBytes : oneT P E.tBytes = true
  oBool : oneT P E.tBool = true
  oU8 : oneT P E.tU8 = true
  f0 : fieldOff P E.tRd 0 = some 0
  f1 : fieldOff P E.tRd 1 = some 1
  i32 : intT P E.tI32 = some .i32
  oE : oneT P E.tErr = true
  rOk : Text P E.rOk 1 8 #[.tmp 2] (c_rOk E)
  rComplete : Text P E.rComplete 1 8 #[.tmp 2] (c_rComplete E)
  rI8 : E.rI8 ≠ 0 → intT P E.tI8 = some .i8 ∧ Text P E.rI8 1 32 #[.tmp 2] (c_rI8 E)
  rBool : E.rBool ≠ 0 → Text P E.rBool 1 32 #[.tmp 2] (c_rBool E)
  rI16 : E.rI16 ≠ 0 → aggT P E.tBE = some 0 ∧ intT P E.tU16 = some .u16 ∧ intT P E.tI16 = some .i16 ∧ Text P E.bU16 2 18 #[.tmp 4] (c_bU16 E) ∧ Text P E.rI16 1 32 #[.tmp 2] (c_rI16 E)
  rU16 : E.rU16 ≠ 0 → aggT P E.tBE = some 0 ∧ intT P E.tU16 = some .u16 ∧ Text P E.bU16 2 18 #[.tmp 4] (c_bU16 E) ∧ Text P E.rU16 1 31 #[.tmp 2] (c_rU16 E)
  rI32 : E.rI32 ≠ 0 → aggT P E.tBE = some 0 ∧ intT P E.tU32 = some .u32 ∧ Text P E.bU32 2 30 #[.tmp 4] (c_bU32 E) ∧ Text P E.rI32 1 32 #[.tmp 2] (c_rI32 E)
  rI64 : E.rI64 ≠ 0 → aggT P E.tBE = some 0 ∧ intT P E.tU64 = some .u64 ∧ intT P E.tI64 = some .i64 ∧ Text P E.bU64 2 54 #[.tmp 4] (c_bU64 E) ∧ Text P E.rU64 1 31 #[.tmp 2] (c_rU64 E) ∧ Text P E.rI64 1 6 #[.tmp 2] (c_rI64 E)
  rUvar : E.rUvar ≠ 0 → intT P E.tU32 = some .u32 ∧ Text P E.kUv 1 87 #[.tmp 2, .tmp 3] (c_kUv E) ∧ Text P E.rUvar 1 31 #[.tmp 2] (c_rUvar E)
  rSpan : E.rSpan ≠ 0 → Text P E.rSpan 2 40 #[.tmp 4] (c_rSpan E)
  rStr : E.rStr ≠ 0 → strB P E.tStr = true ∧ E.rI16 ≠ 0 ∧ E.rSpan ≠ 0 ∧ Text P E.rStr 1 11 #[.tmp 2] (c_rStr E)
  rCStr : E.rCStr ≠ 0 → strB P E.tStr = true ∧ E.rUvar ≠ 0 ∧ E.rSpan ≠ 0 ∧ Text P E.rCStr 1 12 #[.tmp 2] (c_rCStr E)
  rNStr : E.rNStr ≠ 0 → strB P E.tStr = true ∧ oneT P E.tStr = true ∧ zeroT P E.tStr = some (.string ⟨#[]⟩) ∧ E.rI16 ≠ 0 ∧ E.rSpan ≠ 0 ∧ Text P E.rNStr 1 14 #[.tmp 2] (c_rNStr E)
  rCNStr : E.rCNStr ≠ 0 → strB P E.tStr = true ∧ oneT P E.tStr = true ∧ zeroT P E.tStr = some (.string ⟨#[]⟩) ∧ E.rUvar ≠ 0 ∧ E.rSpan ≠ 0 ∧ Text P E.rCNStr 1 15 #[.tmp 2] (c_rCNStr E)
  rBytes : E.rBytes ≠ 0 → E.rI32 ≠ 0 ∧ E.rSpan ≠ 0 ∧ Text P E.rBytes 1 13 #[.tmp 2] (c_rBytes E)
  rCBytes : E.rCBytes ≠ 0 → E.rUvar ≠ 0 ∧ E.rSpan ≠ 0 ∧ Text P E.rCBytes 1 14 #[.tmp 2] (c_rCBytes E)
  rNBytes : E.rNBytes ≠ 0 → E.rI32 ≠ 0 ∧ E.rSpan ≠ 0 ∧ Text P E.rNBytes 1 14 #[.tmp 2] (c_rNBytes E)
  rCNBytes : E.rCNBytes ≠ 0 → E.rUvar ≠ 0 ∧ E.rSpan ≠ 0 ∧ Text P E.rCNBytes 1 15 #[.tmp 2] (c_rCNBytes E)
  rLen : E.rLen ≠ 0 → E.rI32 ≠ 0 ∧ Text P E.rLen 1 21 #[.tmp 2] (c_rLen E)
  rCLen : E.rCLen ≠ 0 → E.rUvar ≠ 0 ∧ Text P E.rCLen 1 23 #[.tmp 2] (c_rCLen E)
section
variable {P : Program} {E : Env}
theorem RTexts.env (K : RTexts P E) : REnv P E := ⟨K.row, K.u8, K.int, K.oBytes, K.oBool, K.oU8, K.f0, K.f1⟩
theorem RTexts.c16 (K : RTexts P E) (h : E.rI16 ≠ 0) : CI16 P E := fun rb sb st W hr => by
  obtain ⟨h1, h2, h3, h4, h5⟩ := K.rI16 h
  exact k_rI16 K.env K.mixed h1 h2 h3 h4 h5 hr
theorem RTexts.c32 (K : RTexts P E) (h : E.rI32 ≠ 0) : CI32 P E := fun rb sb st W hr => by
  obtain ⟨h1, h2, h4, h5⟩ := K.rI32 h
  exact k_rI32 K.env K.mixed h1 h2 K.i32 h4 h5 hr
theorem RTexts.cU (K : RTexts P E) (h : E.rUvar ≠ 0) : CUv P E := fun rb sb st W hr => by
  obtain ⟨h1, h2, h3⟩ := K.rUvar h
  exact k_rUvar K.env h1 h2 h3 hr
theorem RTexts.cS (K : RTexts P E) (h : E.rSpan ≠ 0) : CSpan P E := fun rb sb st l W hr => k_rSpan K.env (K.rSpan h) hr
theorem RdC.rdv {F : FuncId} {rb sb : Nat} {st' : RSt} {v : Value} {W : World} {S : Value → World → Prop} (h : RdC P F rb sb st' v W) (hS : ∀ w', S v w') : RdV P F rb sb W st' S :=
  h.mono fun x w' ⟨h1, h2, h3, _⟩ => ⟨by rw [h1]; exact hS w', h2, h3⟩
/-- What the reading of a UUID and of tags must be. -/
def UuidR (P : Program) (E : Env) : Prop := E.rUuid ≠ 0 → ∀ rb sb st W, RdS W rb sb st → RdV P E.rUuid rb sb W (rdSpan 16 st).2 fun x _ => ∃ l : List UInt8, l.length = 16 ∧ x = .agg (l.map bv).toArray ∧ ((rdSpan 16 st).2.2 = false → l = (rdSpan 16 st).1)
def TagsR (P : Program) (E : Env) (T : List (Nat × List UInt8) → Prop) : Prop := E.rTags ≠ 0 → ∀ rb sb st W, RdS W rb sb st → RdV P E.rTags rb sb W (rdTags st).2 fun x w' => ∃ v tags, x = .agg #[v] ∧ v.oneCell' = true ∧ TagsRep w' ⟨sb, T⟩ W.heap.size v tags ∧ ((rdTags st).2.2 = false → tags = (rdTags st).1)
theorem envR (K : RTexts P E) (hF : E.rF64 = 0) {T : List (Nat × List UInt8) → Prop} (hU : UuidR P E) (hT : TagsR P E T) : EnvR P E T where
  i32 := K.i32
  scal := by
    intro k hk rb sb st W hr
    cases k with
    | bool => exact (k_rBool K.env (K.rBool hk) hr).rdv fun _ => ⟨by simp only [Scal.rd, Scal.val]; cases (rdN 1 st).1 != 0 <;> rfl, by simp only [Scal.rd, Scal.ok]; split <;> simp⟩
    | i8 =>
      obtain ⟨h1, h2⟩ := K.rI8 hk
      have hrg := rdN_lt 1 st
      exact (k_rI8 K.env h1 h2 hr).rdv fun _ => ⟨rfl, by simp only [Scal.rd, Scal.ok, sgn]; split <;> omega⟩
    | i16 => exact (K.c16 hk rb sb st W hr).rdv fun _ => ⟨rfl, sgn2_rng st⟩
    | u16 =>
      obtain ⟨h1, h2, h3, h4⟩ := K.rU16 hk
      have hrg := rdN_lt 2 st
      exact (k_rU16 K.env K.mixed h1 h2 h3 h4 hr).rdv fun _ => ⟨rfl, by simp only [Scal.rd, Scal.ok]; omega⟩
    | i32 => exact (K.c32 hk rb sb st W hr).rdv fun _ => ⟨rfl, sgn4_rng st⟩
    | i64 =>
      obtain ⟨h1, h2, h3, h4, h5, h6⟩ := K.rI64 hk
      have hrg := rdN_lt 8 st
      refine (k_rI64 h2 h3 (fun rb sb st W hr => k_rU64 K.env K.mixed h1 h2 h4 h5 hr) h6 hr).rdv fun _ => ⟨rfl, ?_⟩
      simp only [Scal.rd, Scal.ok, sgn]
      split <;> omega
    | f64 => exact absurd hF hk
  uuid := hU
  str := by
    intro fx hk rb sb st W hr
    cases fx with
    | false =>
      obtain ⟨h1, h2, h3, h4⟩ := K.rStr hk
      exact (k_rStr K.env (K.rI16 h2).2.2.1 h1 (K.c16 h2) (K.cS h3) h4 hr).rdv fun _ => rfl
    | true =>
      obtain ⟨h1, h2, h3, h4⟩ := K.rCStr hk
      exact (k_rCStr K.env (K.rUvar h2).1 h1 (K.cU h2) (K.cS h3) h4 rdUv_lt hr).rdv fun _ => rfl
  nstr := by
    intro fx hk rb sb st W hr
    cases fx with
    | false =>
      obtain ⟨h1, h2, h3, h4, h5, h6⟩ := K.rNStr hk
      exact (k_rNStr K.env (K.rI16 h4).2.2.1 h1 h2 h3 rfl (K.c16 h4) (K.cS h5) h6 hr).mono fun x w' ⟨g1, g2, g3, _⟩ => ⟨g1, g2, g3⟩
    | true =>
      obtain ⟨h1, h2, h3, h4, h5, h6⟩ := K.rCNStr hk
      exact (k_rCNStr K.env (K.rUvar h4).1 h1 h2 h3 rfl (K.cU h4) (K.cS h5) h6 hr).mono fun x w' ⟨g1, g2, g3, _⟩ => ⟨g1, g2, g3⟩
  octs := by
    intro fx hk rb sb st W hr
    cases fx with
    | false =>
      obtain ⟨h1, h2, h3⟩ := K.rBytes hk
      exact (k_rBytes K.env K.i32 (K.c32 h1) (K.cS h2) h3 hr).mono fun x w' ⟨g1, g2, g3, _⟩ => ⟨g1, g2, g3⟩
    | true =>
      obtain ⟨h1, h2, h3⟩ := K.rCBytes hk
      exact (k_rCBytes K.env (K.rUvar h1).1 (K.cU h1) (K.cS h2) h3 hr).mono fun x w' ⟨g1, g2, g3, _⟩ => ⟨g1, g2, g3⟩
  nocts := by
    intro fx hk rb sb st W hr
    cases fx with
    | false =>
      obtain ⟨h1, h2, h3⟩ := K.rNBytes hk
      exact (k_rNBytes K.env K.i32 (K.c32 h1) (K.cS h2) h3 hr).mono fun x w' ⟨g1, g2, g3, _⟩ => ⟨g1, g2, g3⟩
    | true =>
      obtain ⟨h1, h2, h3⟩ := K.rCNBytes hk
      exact (k_rCNBytes K.env (K.rUvar h1).1 (K.cU h1) (K.cS h2) h3 hr).mono fun x w' ⟨g1, g2, g3, _⟩ => ⟨g1, g2, g3⟩
  len := by
    intro fx hk rb sb st W hr
    cases fx with
    | false =>
      obtain ⟨h1, h2⟩ := K.rLen hk
      exact (k_rLen K.env K.i32 (K.c32 h1) h2 hr).rdv fun _ => rfl
    | true =>
      obtain ⟨h1, h2⟩ := K.rCLen hk
      exact (k_rCLen K.env (K.rUvar h1).1 K.i32 (K.cU h1) h2 hr).rdv fun _ => rfl
  ok := fun rb sb st W hr => k_rOk K.env K.rOk hr
  complete := fun rb sb st W ev hr he => k_rComplete K.env K.oE K.rComplete he hr
  tags := hT
end
end Go.Km
set_option linter.unusedSimpArgs false
set_option linter.unusedVariables false
namespace Go.Km
open Go Go.RowKit Go.ChangeShapes Go.WideShapes Go.ChangeAt

section
variable {H : Type} {enc : TypeId × Value → H} {P : Program} {E : Env}
theorem u8_nat' {a : Int} (h : (Lit.int .u8 a).wf = true) : ∃ n : Nat, a = (n : Int) ∧ n < 256 := by
  have h2 : IntKind.u8.min ≤ a ∧ a ≤ IntKind.u8.max := by
    simpa [Lit.wf] using h
  have e1 : IntKind.u8.min = 0 := by decide
  have e2 : IntKind.u8.max = 255 := by decide
  rw [e1, e2] at h2
  exact ⟨a.toNat, by omega, by omega⟩
/-- Arguments below the heap's old end read as they did. -/
theorem trodAll_below (hl : laidOutB P = true) {W W' : World} (hb : Below W.heap.size W W') : ∀ {ts : List TypeId} {vs : List Value} {ds : List (DataW H)} {ps : List MemPlace},
    (∀ t ∈ ts, P.readableRec t = true ∧ t < P.types.size) → DataW.TrodAll enc P W 0 (fun _ => true) true ts vs ds ps → (∀ x ∈ ps, x.block < W.heap.size) → DataW.TrodAll enc P W' 0 (fun b => decide (b < W.heap.size)) true ts vs ds ps
  | [], vs, ds, ps, _, h, _ => by
    obtain ⟨rfl, rfl, rfl⟩ := trodAll_nil h
    exact trodAll_mk0
  | t :: ts, vs, ds, ps, hr, h, hlt => by
    obtain ⟨v, vs', d, ds', p, q, rfl, rfl, rfl, h1, h2⟩ := trodAll_cons h
    have ht := hr t (by simp)
    exact trodAll_cons_mk (Below.trod hl ht.1 ht.2 h1 hb (fun x hx => hlt x (by simp [hx]))) (trodAll_below hl hb (fun t ht => hr t (by simp [ht])) h2 (fun x hx => hlt x (by simp [hx])))
/-- A law that answers true and leaves its arguments. -/
theorem boolPost {f : Func} {s : ChangeSpec} {apart : Bool} {W W' : World} {args : Array Value} {ds gs : List (DataW H)} {before : List MemPlace} {tb : TypeId} (hW : DataW.Whole enc P f.params.toList s.vars apart W args.toList ds gs before) (hvars : s.vars = [])
    (hl : laidOutB P = true) (hr : ∀ t ∈ f.params.toList, P.readableRec t = true ∧ t < P.types.size) (hb : Below W.heap.size W W') (hrt : f.resultTypes = #[tb]) (hub : P.underlying tb = some .bool) (hfn : s.fn H ds = { results := [.lit (.bool true)], args := ds }) :
    s.post enc P f apart true false false W args (.bool true) W' := by
  have hW' := hW
  have hlt := hW.lt
  obtain ⟨p, q, hA, hV, rfl, _, _⟩ := hW
  rw [hvars] at hV
  obtain ⟨rfl, rfl⟩ := trodVars_none hV
  refine ⟨ds, [], _, [], p, [], hW', ?_, ?_, ?_, hb.frame _, fun h => by cases h⟩
  · rw [List.append_nil, hfn, hrt]
    exact trodAll_mk1 (shut_bool hub _)
  · rw [List.append_nil, hfn]
    exact trodAll_below hl hb hr hA (fun x hx => hlt x (by simp [hx]))
  · rw [List.append_nil, hfn, hvars]
    rfl
/-- A slice of octets that came in. -/
theorem open_octs (ht : P.underlying E.tBytes = some (.slice E.tU8)) (he : P.underlying E.tU8 = some (.int .u8)) (hc : P.cellsOf E.tU8 = 1) {W : World} {base : Nat} {v : Value} {d : DataW H} {p : List MemPlace}
    (hval : Value.okWide P W .any base E.tBytes v) (h : DataW.Trod enc P W 0 (fun _ => true) true E.tBytes v d p) : ∃ l, BytesIn P E W v l ∧ l.length ≤ maxLen := by
  obtain ⟨a, len, cap, rfl⟩ := okWide_slice ht hval
  obtain ⟨fuel, hf⟩ := h
  rcases open_ints ht he hc hf with ⟨hcs, hx⟩ | ⟨a, len', cap', zs, hcs, _, hl, hm, hz, hx, hcell, hwz⟩
  · simp [Value.cells] at hcs
    obtain ⟨rfl, rfl, rfl⟩ := hcs
    exact ⟨[], ⟨⟨_, _, rfl⟩, fun w' _ => Src.ofNil w' ht 0⟩, Nat.zero_le _⟩
  · simp [Value.cells] at hcs
    obtain ⟨rfl, rfl, rfl⟩ := hcs
    simp only [if_true] at hz
    have hlen : ((zs.take len).map fun n => UInt8.ofNat n.toNat).length = len := by simp; omega
    refine ⟨(zs.take len).map fun n => UInt8.ofNat n.toNat, ⟨⟨_, _, by rw [hlen]⟩, fun w' hb => ?_⟩, by rw [hlen]; omega⟩
    rw [hlen]
    refine Src.ofSlice w' ht a len cap _ (by simp; omega) (fun j u hu => ?_) (bv_one _)
    have hj : j < len := by
      rcases Nat.lt_or_ge j len with h | h
      · exact h
      · rw [List.getElem?_eq_none (by simp; omega)] at hu; cases hu
    have hcj := hcell j (by omega)
    rw [Below.cell hb (p := a.add j) (World.block_lt_of_cell? W _ hcj), hcj]
    have hb2 := range_u8 hwz j
    simp only [List.getElem?_map, List.getElem?_take, if_pos hj, List.getElem?_eq_getElem (show j < zs.length by omega), Option.map_some, Option.some.injEq] at hu
    subst hu
    have e : zs.getD j 0 = zs[j]'(by omega) := by simp [List.getD, List.getElem?_eq_getElem (show j < zs.length by omega)]
    rw [e]
    rw [List.getD_eq_getElem?_getD] at e
    rw [e] at hb2
    simp only [bv, UInt8.toNat_ofNat']
    congr 2
    omega
/-- What a listed error gives. -/
theorem laid_ev {W : World} {name nm : String} {d : DataW Unit} {g : Nat} {ti : TypeId} (hg : P.globalNamed name = some g) (hti : (P.globals[g]?).map (·.type) = some ti) (hi : ifaceT P ti = true) (hnh : (DataW.iface nm d : DataW Unit).handleName?.isNone = true)
    (h : laidMetH P [(name, .iface nm d)] W) : ∃ ev, W.cell? ⟨g, 0, none⟩ = some ev ∧ ∃ u z, ev = .iface u z := by
  rw [MakeChecks.laidMetH_plain _ _ _ (by simpa using hnh)] at h
  obtain ⟨ps, ⟨g', t, cs, fuel, p, q, h1, h2, h3, h4, _⟩, _⟩ := h
  rw [hg] at h1
  cases h1
  rw [hti] at h2
  cases h2
  obtain ⟨ms, hu⟩ : ∃ ms, P.underlying ti = some (.interface ms) := by
    unfold ifaceT at hi
    split at hi
    · rename_i ms h; exact ⟨ms, h⟩
    · cases hi
  obtain ⟨_, u, v, hcs, _, _⟩ := iface_of_trod hu h4
  refine ⟨.iface u v, ?_, u, v, rfl⟩
  have hcs' : cs = #[.iface u v] := Array.ext' hcs
  subst hcs'
  unfold World.var? at h3
  rw [hg] at h3
  simp only [Option.bind_some] at h3
  split at h3
  · rename_i c T fr hh
    simp only [Option.some.injEq] at h3
    subst h3
    simp [World.cell?, hh]
  · cases h3
/-- The row of a law 'what is read of any octets ..'. -/
theorem anyRow {f : Func} {L : FuncId} {s : ChangeSpec} {apart : Bool} {tb : TypeId} (hp : f.params = #[E.tU8, E.tBytes]) (hrt : f.resultTypes = #[tb]) (hub : P.underlying tb = some .bool) (hvars : s.vars = []) (hfn : ∀ d1 d2 : DataW H, s.fn H [d1, d2] = { results := [.lit (.bool true)], args := [d1, d2] })
    (hl : laidOutB P = true) (hr8 : P.readableRec E.tU8 = true ∧ E.tU8 < P.types.size) (hrB : P.readableRec E.tBytes = true ∧ E.tBytes < P.types.size) (hu8 : P.underlying E.tU8 = some (.int .u8)) (hub8 : P.underlying E.tBytes = some (.slice E.tU8)) (hc8 : P.cellsOf E.tU8 = 1)
    {W : World} {base : Nat} {args : Array Value} {ds gs : List (DataW H)} {before : List MemPlace}
    (walk : ∀ n : Nat, n < 256 → ∀ sv l, BytesIn P E W sv l → l.length ≤ maxLen → CallsV P L #[.int .u8 n, sv] W fun v w' => v = .bool true ∧ Below W.heap.size W w')
    (hval : ∀ (j : Nat) t v, f.params[j]? = some t → args[j]? = some v → Value.okWide P W .any base t v) (hW : DataW.Whole enc P f.params.toList s.vars apart W args.toList ds gs before) :
    Calls P L args W fun e W' => ∃ v, e = .returned v ∧ s.post enc P f apart true false false W args v W' := by
  have hW' := hW
  obtain ⟨p, q, hA, hV, rfl, _, _⟩ := hW
  rw [hp] at hA hval
  obtain ⟨v0, vs0, d0, ds0, p0, q0, hargs, rfl, rfl, h0, r0⟩ := trodAll_cons hA
  obtain ⟨v1, vs1, d1, ds1, p1, q1, rfl, rfl, rfl, h1, r1⟩ := trodAll_cons r0
  obtain ⟨rfl, rfl, rfl⟩ := trodAll_nil r1
  obtain rfl : args = #[v0, v1] := by cases args; simp_all
  obtain ⟨a, rfl, rfl, rfl, wa⟩ := open_int hu8 (hval 0 _ v0 rfl rfl) h0
  obtain ⟨l, hin, hll⟩ := open_octs hub8 hu8 hc8 (hval 1 _ v1 rfl rfl) h1
  obtain ⟨n, rfl, hn⟩ := u8_nat' wa
  refine (walk n hn v1 l hin hll).2.mono ?_
  rintro e W' ⟨v, rfl, rfl, hb⟩
  refine ⟨_, rfl, boolPost hW' hvars hl ?_ hb hrt hub (hfn _ _)⟩
  rw [hp]
  intro t ht
  simp only [List.mem_cons, List.not_mem_nil, or_false] at ht
  rcases ht with rfl | rfl
  · exact hr8
  · exact hrB
end
end Go.Km
