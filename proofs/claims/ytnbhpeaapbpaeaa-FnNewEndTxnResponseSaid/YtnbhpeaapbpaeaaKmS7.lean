/- spec.value: the whole. -/
import Derived.Test.YtnbhpeaapbpaeaaKmS6
import Derived.Laws.CopyRow
import Derived.Laws.IdiomCopy
import Derived.Laws.OwnMore
set_option linter.unusedSimpArgs false
set_option linter.unusedVariables false
namespace Go.Km
open Go Go.RowKit
attribute [local irreducible] vc runOps runG runS runD

theorem i64_and1 (n : Int) : bits .and .i64 n 1 = n % 2 := by
  have h1 : (BitVec.ofInt 64 1).toNat = 2 ^ 1 - 1 := by decide
  have key : (BitVec.ofInt 64 n &&& BitVec.ofInt 64 1).toNat = (n % ((2 ^ 64 : Nat) : Int)).toNat % 2 ^ 1 := by
    rw [BitVec.toNat_and, BitVec.toNat_ofInt, h1, Nat.and_two_pow_sub_one_eq_mod]
  show IntKind.i64.wrap ((BitVec.ofInt 64 n &&& BitVec.ofInt 64 1).toNat : Nat) = n % 2
  rw [key, IntKind.wrap_i64]
  omega

section
variable {P : Program} {a : Act} {w : World} {r : List Oper} {Q : Exit → Act → World → Prop} {U : Nat}
theorem r_and1 {d xt x c yt ty p af g} {n : Int} (hx : a.eval x = .int .i64 n) (hc : c = .const (.int .i64 1)) (h : runOps P Q r (a.put (some d) (.int .i64 (n % 2))) w) : runOps P Q (⟨some d, .binOp .and xt x c yt, ty, p, af, g⟩ :: r) a w := by
  subst hc
  refine r_bits (v := .int .i64 (n % 2)) hx rfl (by simp) ?_ h
  show (pure (Value.int .i64 (bits .and .i64 n 1)) : Sem Value) = _
  rw [i64_and1]
/-- make([]byte, 16) -/
theorem r_make16 {d t ty p af g e} (hB : rowB P t e 1 = true) (hz : zeroT P e = some (.int .u8 0)) (hU : U ≤ w.heap.size)
    (h : ∀ w', w'.ownsRow U e 1 (.slice (some ⟨w.heap.size, 0, none⟩) 16 16) 16 (List.replicate 16 (.int .u8 0)) → Below U w w' → U ≤ w.heap.size → runOps P Q r (a.put (some d) (.slice (some ⟨w.heap.size, 0, none⟩) 16 16)) w') :
    runOps P Q (⟨some d, .makeSlice t (.const (.int .i64 16)) (.const (.int .i64 16)), ty, p, af, g⟩ :: r) a w := by
  refine st ?_
  obtain ⟨hu, i, z, hi, hs, hs0, hzz, hzs, hby⟩ := rowB_inv hB
  have hz0 : z = .int .u8 0 := by
    simp only [zeroT, hi, Option.bind_some, hzz, Option.some.injEq] at hz
    exact hz
  obtain ⟨w', hr, hown, hg⟩ := run_makeSlice_full (P := P) w U t e i z 1 hu hi hzz hs .i64 .i64 16 (by decide) (by omega) (by decide) hU
  subst hz0
  have e1 : (madeCells (Value.int .u8 0).cells (16 * 1)).toList = List.replicate 16 (.int .u8 0) := toList_madeCells_one _ _
  rw [e1] at hown
  have hr' : (Instr.makeSlice t (.int .i64 16) (.int .i64 16)).run P w = .ok (.slice (some ⟨w.heap.size, 0, none⟩) 16 16) w' := hr
  simp only [Oper.wp, execOp, eval_const, Sem.run_bind, hr', Sem.run_pure, Result.andThen_ok, Oper.upon_value]
  exact h w' hown ⟨hg.os, hg.tape, hg.output, hg.size, fun k hk => hg.block k (by omega) (by simp)⟩ hU
/-- copy(b, s), b of 16 octets, all 0. -/
theorem r_copy16 {d x y t ty p af g e gb sv} {s : List UInt8} (hB : rowB P t e 1 = true) (hx : a.eval x = .slice (some ⟨gb, 0, none⟩) 16 16) (hy : a.eval y = sv)
    (hown : w.ownsRow U e 1 (.slice (some ⟨gb, 0, none⟩) 16 16) 16 (List.replicate 16 (.int .u8 0))) (ho : OctsB w U sv s) (hgU : U ≤ gb)
    (h : ∀ w', w'.ownsRow U e 1 (.slice (some ⟨gb, 0, none⟩) 16 16) 16 ((s.take 16 ++ List.replicate (16 - s.length) 0).map bv) → Below U w w' → runOps P Q r (a.put (some d) (.int .i64 (min s.length 16 : Nat))) w') :
    runOps P Q (⟨some d, .call { callee := .builtin .copy, args := #[x, y], argTypes := #[t, t] }, ty, p, af, g⟩ :: r) a w := by
  refine st ?_
  obtain ⟨hu, i, z, hi, hs, hs0, hzz, hzs, hby⟩ := rowB_inv hB
  have hsz : (P.info? e).map (·.size) = some 1 := by simp [hi, hs]
  have fin : ∀ (n : Nat) (w' : World), (Builtin.copy_ #[t, t] ty #[.slice (some ⟨gb, 0, none⟩) 16 16, sv]).run P w = .ok (goInt n) w' → n = min s.length 16 → w'.ownsRow U e 1 (.slice (some ⟨gb, 0, none⟩) 16 16) 16 ((s.take 16 ++ List.replicate (16 - s.length) 0).map bv) → Below U w w' →
      Oper.wp P ⟨some d, .call { callee := .builtin .copy, args := #[x, y], argTypes := #[t, t] }, ty, p, af, g⟩ a w (runOps P Q r) Q := by
    intro n w' hr hn h1 h2
    simp only [Oper.wp, execOp, resolve, invoke, builtin, Sem.run_bind, Sem.run_pure, Result.andThen_ok, List.map_toArray, List.map_cons, List.map_nil, hx, hy, hr, Oper.upon_value]
    subst hn
    exact h w' h1 h2
  rcases hown.2 with ⟨hh, _⟩ | ⟨g', cap, cur, hv, hbg, hg, hnc, hcm, hcs, htake⟩
  · cases hh
  simp only [Value.slice.injEq, Option.some.injEq, Addr.mk.injEq, and_true, true_and] at hv
  obtain ⟨rfl, rfl⟩ := hv
  have hcur : cur.toList = List.replicate 16 (.int .u8 0) := by
    rw [← htake, List.take_of_length_le (by simp [hcs])]
  rcases ho with ⟨rfl, rfl⟩ | ⟨q, o, cap, rfl, hcap, hq, hc⟩
  · refine fin 0 w (run_copy_none w t t ty e _ _ _ _ _ _ hu hsz rfl) (by simp) ?_ (Below.refl _ _)
    have : (([] : List UInt8).take 16 ++ List.replicate (16 - ([] : List UInt8).length) 0).map bv = List.replicate 16 (.int .u8 0) := by simp [bv]
    rw [this]
    exact hown
  · have hnl : ((s.take 16).map bv).length = Nat.min s.length 16 := by simp [Nat.min_comm]
    have hr := run_copy_row (P := P) w t t ty e gb 0 16 16 ⟨q, o, none⟩ s.length cap cur e ((s.take 16).map bv) hu hsz hg hnl (by
      intro j v hv
      rw [Addr.add_lit]
      refine hc j v ?_
      rw [List.map_take, List.getElem?_take] at hv
      split at hv
      · exact hv
      · cases hv) (by rw [hnl, hcs]; show 0 + min s.length 16 ≤ 16 * 1; omega) (bv_one _)
    refine fin _ _ hr hnl ?_ ?_
    · refine ⟨by simp; omega, .inr ⟨gb, 16, _, rfl, hbg, setRow_heap w gb cur _ e _ hg, by omega, hcm, ?_, ?_⟩⟩
      · simp [hcs]; omega
      · rw [hcur]
        simp only [List.take_zero, List.nil_append, Nat.zero_add]
        rw [List.take_of_length_le (by simp; omega)]
        rw [List.map_append, List.drop_replicate]
        congr 1
        rw [List.map_replicate]
        congr 1
        · simp; omega
    · refine ⟨rfl, rfl, rfl, by simp, fun k hk => setRow_other w gb k _ (by omega)⟩
end
end Go.Km
