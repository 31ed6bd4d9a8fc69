/- What kbin's functions that write do. -/
import Derived.Test.YtnbhpeaapbpaeaaKmKC
import Derived.Test.YtnbhpeaapbpaeaaKmOps3
import Derived.Test.YtnbhpeaapbpaeaaKmW4
import Derived.Laws.BitsAllLaws
set_option linter.unusedSimpArgs false
set_option linter.unusedVariables false
namespace Go.Km
open Go Go.RowKit
attribute [local irreducible] vc runOps runG runS runD

/-- An octet from a number. -/
def o8 (z : Int) : UInt8 := UInt8.ofNat z.toNat
theorem bv_o8 {z : Int} (h0 : 0 ≤ z) (h1 : z < 256) : bv (o8 z) = .int .u8 z := by
  unfold bv o8
  have : z.toNat < 256 := by omega
  rw [UInt8.toNat_ofNat']
  congr 1
  omega
theorem map_o8 {zs : List Int} (h : ∀ z ∈ zs, 0 ≤ z ∧ z < 256) : (zs.map o8).map bv = zs.map fun z => .int .u8 z := by
  rw [List.map_map]
  apply List.map_congr_left
  intro z hz
  exact bv_o8 (h z hz).1 (h z hz).2
theorem wrap8 (n : Int) : IntKind.u8.wrap n = n % 256 := IntKind.wrap_u8' n
theorem wrap8_ok (n : Int) : 0 ≤ IntKind.u8.wrap n ∧ IntKind.u8.wrap n < 256 := by rw [wrap8]; omega

theorem flat_u8 : ∀ zs : List Int, ((zs.map fun z => Value.int .u8 z).flatMap fun v => v.cells.toList) = zs.map fun z => Value.int .u8 z
  | [] => rfl
  | z :: r => by simp only [List.map_cons, List.flatMap_cons, flat_u8 r]; rfl

section
variable {P : Program} {a : Act} {w : World} {r : List Oper} {Q : Exit → Act → World → Prop}

/-- 'append(s, z1, .., zn)' of octets. -/
theorem r_litApp {d d2 s : Nat} {t n ps ty p af g ty2 p2 af2 g2 e U v} {xs : List UInt8} {zs : List Int} (hB : rowB P t e 1 = true) (hp : (ps.map fun (x : Nat × Operand) => (x.1, a.eval x.2)).toList = ((zs.map fun z => Value.int .u8 z).zipIdx 0).map fun x => (x.2, x.1)) (h8 : ∀ z ∈ zs, 0 ≤ z ∧ z < 256) (hn : zs.length = n)
    (hlim : n ≤ 1000) (hn0 : 0 < n) (hs : a.eval (.tmp s) = v) (hsd : d ≠ s) (hd : d < a.tmps.size) (hown : w.ownsRow U e 1 v xs.length (xs.map bv)) (hU : U ≤ w.heap.size) (hb : xs.length + n ≤ big)
    (h : ∀ v' w', w'.ownsRow U e 1 v' (xs ++ zs.map o8).length ((xs ++ zs.map o8).map bv) → Below U w w' → runOps P Q r ((a.put (some d) (.slice (some ⟨w.heap.size, 0, none⟩) n n)).put (some d2) v') w') :
    runOps P Q (⟨some d, .buildSlice t n ps, ty, p, af, g⟩ :: ⟨some d2, .call { callee := .builtin .append, args := #[.tmp s, .tmp d], argTypes := #[t, t] }, ty2, p2, af2, g2⟩ :: r) a w := by
  refine r_buildSlice (s := 1) (vs := zs.map fun z => .int .u8 z) hB hp (by simpa using hn) (by intro v hv; obtain ⟨z, _, rfl⟩ := List.mem_map.1 hv; rfl) (by omega) hn0 ?_
  have hcs : ((zs.map fun z => Value.int .u8 z).flatMap fun v => v.cells.toList) = (zs.map o8).map bv := by
    rw [map_o8 h8, flat_u8]
  rw [hcs]
  have hlen : (zs.map o8).length = n := by simpa using hn
  refine r_append (sz := 1) (m := n) (U := U) (v := v) (n := xs.length) (xs := xs.map bv) (news := (zs.map o8).map bv) hB (by rw [eval_put_ne _ _ _ _ hsd]; exact hs) (eval_put_same _ _ _ hd) (hown.alloc _) (by simp; omega) ?_ hb ?_
  · refine src_cells (rowB_slice hB) ?_ (by simp [hn]) (bv_one _)
    intro j u hu
    rw [Nat.zero_add]
    exact cells_new w _ e (by simpa using hu)
  · intro v' w' h1 h2
    refine h v' w' (by simpa [hn] using h1) ?_
    exact ((Below.refl U w).alloc (o := .cells _ e) hU).trans h2
end

/-- The end of a function with one result. -/
theorem out_ret {P : Program} {a : Act} {w : World} {t : Nat} {v : Value} {S : Value → World → Prop} (hd : a.defers = []) (hv : a.eval (.tmp t) = v) (hs : S v w) : Out P #[.tmp t] S .ret a w :=
  ⟨hd, v, results_one hv, hs⟩
theorem out_fall {P : Program} {a : Act} {w : World} {t : Nat} {v : Value} {S : Value → World → Prop} (hd : a.defers = []) (hv : a.eval (.tmp t) = v) (hs : S v w) : Out P #[.tmp t] S .normal a w :=
  ⟨hd, v, results_one hv, hs⟩

theorem wrap_i8 (n : Int) : IntKind.i8.wrap n = (n + 128) % 256 - 128 := by
  simp [IntKind.wrap, IntKind.bits, IntKind.signed]
  split <;> omega
theorem wrap_i16 (n : Int) : IntKind.i16.wrap n = (n + 32768) % 65536 - 32768 := by
  simp [IntKind.wrap, IntKind.bits, IntKind.signed]
  split <;> omega
theorem wrap_i32 (n : Int) : IntKind.i32.wrap n = (n + 2147483648) % 4294967296 - 2147483648 := by
  simp [IntKind.wrap, IntKind.bits, IntKind.signed]
  split <;> omega
theorem wrap_u16 (n : Int) : IntKind.u16.wrap n = n % 65536 := by simp [IntKind.wrap, IntKind.bits, IntKind.signed]
theorem wrap_u32 (n : Int) : IntKind.u32.wrap n = n % 4294967296 := by simp [IntKind.wrap, IntKind.bits, IntKind.signed]
theorem wrap_u64 (n : Int) : IntKind.u64.wrap n = n % 18446744073709551616 := by simp [IntKind.wrap, IntKind.bits, IntKind.signed]

theorem o8_congr {m n : Int} (h : m = n) : o8 m = o8 n := by rw [h]
theorem be1 (n : Int) : be 1 n = [o8 (n % 256)] := by simp [be, o8]
theorem be2 (n : Int) : be 2 n = [o8 (n / 256 % 256), o8 (n % 256)] := by simp [be, o8, Int.fdiv_eq_ediv_of_nonneg]
theorem be4 (n : Int) : be 4 n = [o8 (n / 16777216 % 256), o8 (n / 65536 % 256), o8 (n / 256 % 256), o8 (n % 256)] := by simp [be, o8, Int.fdiv_eq_ediv_of_nonneg]
theorem be8 (n : Int) : be 8 n = [o8 (n / 72057594037927936 % 256), o8 (n / 281474976710656 % 256), o8 (n / 1099511627776 % 256), o8 (n / 4294967296 % 256), o8 (n / 16777216 % 256), o8 (n / 65536 % 256), o8 (n / 256 % 256), o8 (n % 256)] := by
  simp [be, o8, Int.fdiv_eq_ediv_of_nonneg]
theorem be1_mod (n : Int) : be 1 (IntKind.u8.wrap n) = be 1 n := by
  rw [be1, be1, wrap8, Int.emod_emod_of_dvd n (by decide)]
theorem be2_mod (n : Int) : be 2 (IntKind.u16.wrap n) = be 2 n := by
  rw [be2, be2, wrap_u16, show n % 65536 / 256 % 256 = n / 256 % 256 by omega, show n % 65536 % 256 = n % 256 by omega]
theorem be4_mod (n : Int) : be 4 (IntKind.u32.wrap n) = be 4 n := by
  rw [be4, be4, wrap_u32, show n % 4294967296 / 16777216 % 256 = n / 16777216 % 256 by omega, show n % 4294967296 / 65536 % 256 = n / 65536 % 256 by omega, show n % 4294967296 / 256 % 256 = n / 256 % 256 by omega, show n % 4294967296 % 256 = n % 256 by omega]
theorem be8_mod (n : Int) : be 8 (IntKind.u64.wrap n) = be 8 n := by
  rw [be8, be8, wrap_u64, show n % 18446744073709551616 / 72057594037927936 % 256 = n / 72057594037927936 % 256 by omega, show n % 18446744073709551616 / 281474976710656 % 256 = n / 281474976710656 % 256 by omega,
    show n % 18446744073709551616 / 1099511627776 % 256 = n / 1099511627776 % 256 by omega, show n % 18446744073709551616 / 4294967296 % 256 = n / 4294967296 % 256 by omega, show n % 18446744073709551616 / 16777216 % 256 = n / 16777216 % 256 by omega,
    show n % 18446744073709551616 / 65536 % 256 = n / 65536 % 256 by omega, show n % 18446744073709551616 / 256 % 256 = n / 256 % 256 by omega, show n % 18446744073709551616 % 256 = n % 256 by omega]
theorem all_wrap8 {l : List Int} (h : ∀ z ∈ l, ∃ n, z = IntKind.u8.wrap n) : ∀ z ∈ l, 0 ≤ z ∧ z < 256 := by
  intro z hz
  obtain ⟨n, rfl⟩ := h z hz
  exact wrap8_ok n

section
variable {P : Program} {E : Env} {w : World} {U : Nat}

theorem k_u16 (ht : Text P E.wU16 2 13 #[.tmp 4] (c_wU16 E)) (hB : rowB P E.tBytes E.tU8 1 = true) (i16 : intT P E.tU16 = some .u16) (i8 : intT P E.tU8 = some .u8) {n : Int} (hn : 0 ≤ n ∧ n ≤ 65535) : Wr1 P E E.wU16 U [.int .u16 n] (be 2 n) w := by
  intro dv xs hown hU hb
  refine CallsV.enter ht (by simp) ?_
  intro a hsz hdf harg
  have e0 := harg 0 dv (by simp)
  have e1 := harg 1 (.int .u16 n) (by simp)
  unfold c_wU16
  refine vc_sq (vc_rg (by simp) ?_)
  refine r_assign ?_
  refine dn ?_
  refine vc_sq (vc_rg (by simp) ?_)
  refine r_move ?_
  refine r_move ?_
  refine r_shr (by (try simp (disch := (first | omega | (simp only [sP]; omega))) only [eS, eN, eC, e1]) <;> (first | rfl | assumption)) (by (try simp (disch := (first | omega | (simp only [sP]; omega))) only [eS, eN, eC, e1]) <;> (first | rfl | assumption)) (by decide) ?_
  refine r_conv (by assumption) (by assumption) (by (try simp (disch := (first | omega | (simp only [sP]; omega))) only [eS, eN, eC]) <;> (first | rfl | assumption)) ?_
  refine r_move ?_
  refine r_conv (by assumption) (by assumption) (by (try simp (disch := (first | omega | (simp only [sP]; omega))) only [eS, eN, eC, e1]) <;> (first | rfl | assumption)) ?_
  refine r_litApp (zs := [IntKind.u8.wrap (n.fdiv (2 ^ (min 8 16))), IntKind.u8.wrap n]) hB ?_ (by intro z hz; simp only [List.mem_cons, List.not_mem_nil, or_false] at hz; rcases hz with rfl | rfl <;> first | exact wrap8_ok _ | decide) rfl (by omega) (by omega) (by simp (disch := (first | omega | (simp only [sP]; omega))) only [eS, eN, eC, e0]) (by omega) (by simp only [size_put]; omega) hown hU (by simpa [be] using hb) ?_
  · simp only [List.map_toArray, List.map_cons, List.map_nil]
    simp (disch := (first | omega | (simp only [sP]; omega))) only [eS, eN, eC]
    rfl
  intro v' w' h1 h2
  rw [show [IntKind.u8.wrap (n.fdiv (2 ^ (min 8 16))), IntKind.u8.wrap n].map o8 = be 2 n by rw [be2]; simp only [List.map_cons, List.map_nil, wrap8]; rw [Int.fdiv_eq_ediv_of_nonneg _ (by decide)]; rfl] at h1
  refine r_assign ?_
  refine dn ?_
  refine vc_sq (vc_ret ?_)
  exact ⟨by simp only [defers_put]; exact hdf, v', results_one (by simp (disch := (first | omega | (simp only [sP]; omega))) only [eS, eN, eC]), ⟨h1, h2⟩⟩
theorem k_u32 (ht : Text P E.wU32 2 19 #[.tmp 4] (c_wU32 E)) (hB : rowB P E.tBytes E.tU8 1 = true) (i32 : intT P E.tU32 = some .u32) (i8 : intT P E.tU8 = some .u8) {n : Int} (hn : 0 ≤ n ∧ n ≤ 4294967295) : Wr1 P E E.wU32 U [.int .u32 n] (be 4 n) w := by
  intro dv xs hown hU hb
  refine CallsV.enter ht (by simp) ?_
  intro a hsz hdf harg
  have e0 := harg 0 dv (by simp)
  have e1 := harg 1 (.int .u32 n) (by simp)
  unfold c_wU32
  refine vc_sq (vc_rg (by simp) ?_)
  refine r_assign ?_
  refine dn ?_
  refine vc_sq (vc_rg (by simp) ?_)
  refine r_move ?_
  refine r_move ?_
  refine r_shr (by (try simp (disch := (first | omega | (simp only [sP]; omega))) only [eS, eN, eC, e1]) <;> (first | rfl | assumption)) (by (try simp (disch := (first | omega | (simp only [sP]; omega))) only [eS, eN, eC, e1]) <;> (first | rfl | assumption)) (by decide) ?_
  refine r_conv (by assumption) (by assumption) (by (try simp (disch := (first | omega | (simp only [sP]; omega))) only [eS, eN, eC]) <;> (first | rfl | assumption)) ?_
  refine r_move ?_
  refine r_shr (by (try simp (disch := (first | omega | (simp only [sP]; omega))) only [eS, eN, eC, e1]) <;> (first | rfl | assumption)) (by (try simp (disch := (first | omega | (simp only [sP]; omega))) only [eS, eN, eC, e1]) <;> (first | rfl | assumption)) (by decide) ?_
  refine r_conv (by assumption) (by assumption) (by (try simp (disch := (first | omega | (simp only [sP]; omega))) only [eS, eN, eC]) <;> (first | rfl | assumption)) ?_
  refine r_move ?_
  refine r_shr (by (try simp (disch := (first | omega | (simp only [sP]; omega))) only [eS, eN, eC, e1]) <;> (first | rfl | assumption)) (by (try simp (disch := (first | omega | (simp only [sP]; omega))) only [eS, eN, eC, e1]) <;> (first | rfl | assumption)) (by decide) ?_
  refine r_conv (by assumption) (by assumption) (by (try simp (disch := (first | omega | (simp only [sP]; omega))) only [eS, eN, eC]) <;> (first | rfl | assumption)) ?_
  refine r_move ?_
  refine r_conv (by assumption) (by assumption) (by (try simp (disch := (first | omega | (simp only [sP]; omega))) only [eS, eN, eC, e1]) <;> (first | rfl | assumption)) ?_
  refine r_litApp (zs := [IntKind.u8.wrap (n.fdiv (2 ^ (min 24 32))), IntKind.u8.wrap (n.fdiv (2 ^ (min 16 32))), IntKind.u8.wrap (n.fdiv (2 ^ (min 8 32))), IntKind.u8.wrap n]) hB ?_ (by intro z hz; simp only [List.mem_cons, List.not_mem_nil, or_false] at hz; rcases hz with rfl | rfl | rfl | rfl <;> first | exact wrap8_ok _ | decide) rfl (by omega) (by omega) (by simp (disch := (first | omega | (simp only [sP]; omega))) only [eS, eN, eC, e0]) (by omega) (by simp only [size_put]; omega) hown hU (by simpa [be] using hb) ?_
  · simp only [List.map_toArray, List.map_cons, List.map_nil]
    simp (disch := (first | omega | (simp only [sP]; omega))) only [eS, eN, eC]
    rfl
  intro v' w' h1 h2
  rw [show [IntKind.u8.wrap (n.fdiv (2 ^ (min 24 32))), IntKind.u8.wrap (n.fdiv (2 ^ (min 16 32))), IntKind.u8.wrap (n.fdiv (2 ^ (min 8 32))), IntKind.u8.wrap n].map o8 = be 4 n by rw [be4]; simp only [List.map_cons, List.map_nil, wrap8]; simp only [Int.fdiv_eq_ediv_of_nonneg _ (show (0 : Int) ≤ 2 ^ (min 24 32) by decide), Int.fdiv_eq_ediv_of_nonneg _ (show (0 : Int) ≤ 2 ^ (min 16 32) by decide), Int.fdiv_eq_ediv_of_nonneg _ (show (0 : Int) ≤ 2 ^ (min 8 32) by decide)]; rfl] at h1
  refine r_assign ?_
  refine dn ?_
  refine vc_sq (vc_ret ?_)
  exact ⟨by simp only [defers_put]; exact hdf, v', results_one (by simp (disch := (first | omega | (simp only [sP]; omega))) only [eS, eN, eC]), ⟨h1, h2⟩⟩
theorem k_u64 (ht : Text P E.wU64 2 31 #[.tmp 4] (c_wU64 E)) (hB : rowB P E.tBytes E.tU8 1 = true) (i64 : intT P E.tU64 = some .u64) (i8 : intT P E.tU8 = some .u8) {n : Int} (hn : 0 ≤ n ∧ n ≤ 18446744073709551615) : Wr1 P E E.wU64 U [.int .u64 n] (be 8 n) w := by
  intro dv xs hown hU hb
  refine CallsV.enter ht (by simp) ?_
  intro a hsz hdf harg
  have e0 := harg 0 dv (by simp)
  have e1 := harg 1 (.int .u64 n) (by simp)
  unfold c_wU64
  refine vc_sq (vc_rg (by simp) ?_)
  refine r_assign ?_
  refine dn ?_
  refine vc_sq (vc_rg (by simp) ?_)
  refine r_move ?_
  refine r_move ?_
  refine r_shr (by (try simp (disch := (first | omega | (simp only [sP]; omega))) only [eS, eN, eC, e1]) <;> (first | rfl | assumption)) (by (try simp (disch := (first | omega | (simp only [sP]; omega))) only [eS, eN, eC, e1]) <;> (first | rfl | assumption)) (by decide) ?_
  refine r_conv (by assumption) (by assumption) (by (try simp (disch := (first | omega | (simp only [sP]; omega))) only [eS, eN, eC]) <;> (first | rfl | assumption)) ?_
  refine r_move ?_
  refine r_shr (by (try simp (disch := (first | omega | (simp only [sP]; omega))) only [eS, eN, eC, e1]) <;> (first | rfl | assumption)) (by (try simp (disch := (first | omega | (simp only [sP]; omega))) only [eS, eN, eC, e1]) <;> (first | rfl | assumption)) (by decide) ?_
  refine r_conv (by assumption) (by assumption) (by (try simp (disch := (first | omega | (simp only [sP]; omega))) only [eS, eN, eC]) <;> (first | rfl | assumption)) ?_
  refine r_move ?_
  refine r_shr (by (try simp (disch := (first | omega | (simp only [sP]; omega))) only [eS, eN, eC, e1]) <;> (first | rfl | assumption)) (by (try simp (disch := (first | omega | (simp only [sP]; omega))) only [eS, eN, eC, e1]) <;> (first | rfl | assumption)) (by decide) ?_
  refine r_conv (by assumption) (by assumption) (by (try simp (disch := (first | omega | (simp only [sP]; omega))) only [eS, eN, eC]) <;> (first | rfl | assumption)) ?_
  refine r_move ?_
  refine r_shr (by (try simp (disch := (first | omega | (simp only [sP]; omega))) only [eS, eN, eC, e1]) <;> (first | rfl | assumption)) (by (try simp (disch := (first | omega | (simp only [sP]; omega))) only [eS, eN, eC, e1]) <;> (first | rfl | assumption)) (by decide) ?_
  refine r_conv (by assumption) (by assumption) (by (try simp (disch := (first | omega | (simp only [sP]; omega))) only [eS, eN, eC]) <;> (first | rfl | assumption)) ?_
  refine r_move ?_
  refine r_shr (by (try simp (disch := (first | omega | (simp only [sP]; omega))) only [eS, eN, eC, e1]) <;> (first | rfl | assumption)) (by (try simp (disch := (first | omega | (simp only [sP]; omega))) only [eS, eN, eC, e1]) <;> (first | rfl | assumption)) (by decide) ?_
  refine r_conv (by assumption) (by assumption) (by (try simp (disch := (first | omega | (simp only [sP]; omega))) only [eS, eN, eC]) <;> (first | rfl | assumption)) ?_
  refine r_move ?_
  refine r_shr (by (try simp (disch := (first | omega | (simp only [sP]; omega))) only [eS, eN, eC, e1]) <;> (first | rfl | assumption)) (by (try simp (disch := (first | omega | (simp only [sP]; omega))) only [eS, eN, eC, e1]) <;> (first | rfl | assumption)) (by decide) ?_
  refine r_conv (by assumption) (by assumption) (by (try simp (disch := (first | omega | (simp only [sP]; omega))) only [eS, eN, eC]) <;> (first | rfl | assumption)) ?_
  refine r_move ?_
  refine r_shr (by (try simp (disch := (first | omega | (simp only [sP]; omega))) only [eS, eN, eC, e1]) <;> (first | rfl | assumption)) (by (try simp (disch := (first | omega | (simp only [sP]; omega))) only [eS, eN, eC, e1]) <;> (first | rfl | assumption)) (by decide) ?_
  refine r_conv (by assumption) (by assumption) (by (try simp (disch := (first | omega | (simp only [sP]; omega))) only [eS, eN, eC]) <;> (first | rfl | assumption)) ?_
  refine r_move ?_
  refine r_conv (by assumption) (by assumption) (by (try simp (disch := (first | omega | (simp only [sP]; omega))) only [eS, eN, eC, e1]) <;> (first | rfl | assumption)) ?_
  refine r_litApp (zs := [IntKind.u8.wrap (n.fdiv (2 ^ (min 56 64))), IntKind.u8.wrap (n.fdiv (2 ^ (min 48 64))), IntKind.u8.wrap (n.fdiv (2 ^ (min 40 64))), IntKind.u8.wrap (n.fdiv (2 ^ (min 32 64))), IntKind.u8.wrap (n.fdiv (2 ^ (min 24 64))), IntKind.u8.wrap (n.fdiv (2 ^ (min 16 64))), IntKind.u8.wrap (n.fdiv (2 ^ (min 8 64))), IntKind.u8.wrap n]) hB ?_ (by intro z hz; simp only [List.mem_cons, List.not_mem_nil, or_false] at hz; rcases hz with rfl | rfl | rfl | rfl | rfl | rfl | rfl | rfl <;> first | exact wrap8_ok _ | decide) rfl (by omega) (by omega) (by simp (disch := (first | omega | (simp only [sP]; omega))) only [eS, eN, eC, e0]) (by omega) (by simp only [size_put]; omega) hown hU (by simpa [be] using hb) ?_
  · simp only [List.map_toArray, List.map_cons, List.map_nil]
    simp (disch := (first | omega | (simp only [sP]; omega))) only [eS, eN, eC]
    rfl
  intro v' w' h1 h2
  rw [show [IntKind.u8.wrap (n.fdiv (2 ^ (min 56 64))), IntKind.u8.wrap (n.fdiv (2 ^ (min 48 64))), IntKind.u8.wrap (n.fdiv (2 ^ (min 40 64))), IntKind.u8.wrap (n.fdiv (2 ^ (min 32 64))), IntKind.u8.wrap (n.fdiv (2 ^ (min 24 64))), IntKind.u8.wrap (n.fdiv (2 ^ (min 16 64))), IntKind.u8.wrap (n.fdiv (2 ^ (min 8 64))), IntKind.u8.wrap n].map o8 = be 8 n by rw [be8]; simp only [List.map_cons, List.map_nil, wrap8]; simp only [Int.fdiv_eq_ediv_of_nonneg _ (show (0 : Int) ≤ 2 ^ (min 56 64) by decide), Int.fdiv_eq_ediv_of_nonneg _ (show (0 : Int) ≤ 2 ^ (min 48 64) by decide), Int.fdiv_eq_ediv_of_nonneg _ (show (0 : Int) ≤ 2 ^ (min 40 64) by decide), Int.fdiv_eq_ediv_of_nonneg _ (show (0 : Int) ≤ 2 ^ (min 32 64) by decide), Int.fdiv_eq_ediv_of_nonneg _ (show (0 : Int) ≤ 2 ^ (min 24 64) by decide), Int.fdiv_eq_ediv_of_nonneg _ (show (0 : Int) ≤ 2 ^ (min 16 64) by decide), Int.fdiv_eq_ediv_of_nonneg _ (show (0 : Int) ≤ 2 ^ (min 8 64) by decide)]; rfl] at h1
  refine r_assign ?_
  refine dn ?_
  refine vc_sq (vc_ret ?_)
  exact ⟨by simp only [defers_put]; exact hdf, v', results_one (by simp (disch := (first | omega | (simp only [sP]; omega))) only [eS, eN, eC]), ⟨h1, h2⟩⟩
theorem k_i16 (ht : Text P E.wI16 2 9 #[.tmp 4] (c_wI16 E)) (is : intT P E.tI16 = some .i16) (iu : intT P E.tU16 = some .u16) (hc : ∀ n U w, 0 ≤ n ∧ n ≤ 65535 → Wr1 P E E.wU16 U [.int .u16 n] (be 2 n) w) {n : Int} : Wr1 P E E.wI16 U [.int .i16 n] (be 2 n) w := by
  intro dv xs hown hU hb
  refine CallsV.enter ht (by simp) ?_
  intro a hsz hdf harg
  have e0 := harg 0 dv (by simp)
  have e1 := harg 1 (.int .i16 n) (by simp)
  unfold c_wI16
  refine vc_sq (vc_rg (by simp) ?_)
  refine r_assign ?_
  refine dn ?_
  refine vc_sq (vc_rg (by simp) ?_)
  refine r_move ?_
  refine r_move ?_
  refine r_conv (by assumption) (by assumption) (by (try simp (disch := (first | omega | (simp only [sP]; omega))) only [eS, eN, eC, e1]) <;> (first | rfl | assumption)) ?_
  refine r_call' (args := #[dv, .int .u16 (IntKind.u16.wrap n)]) ?_ (hc (IntKind.u16.wrap n) U w (by rw [wrap_u16]; omega) dv xs hown hU (by rw [be2_mod]; exact hb)) ?_
  · simp only [List.map_toArray, List.map_cons, List.map_nil]
    simp (disch := (first | omega | (simp only [sP]; omega))) only [eS, eN, eC, e0]
  intro v' w' hs
  rw [be2_mod] at hs
  refine r_assign ?_
  refine dn ?_
  refine vc_sq (vc_ret ?_)
  exact ⟨by simp only [defers_put]; exact hdf, v', results_one (by simp (disch := (first | omega | (simp only [sP]; omega))) only [eS, eN, eC]), hs⟩
theorem k_i32 (ht : Text P E.wI32 2 9 #[.tmp 4] (c_wI32 E)) (is : intT P E.tI32 = some .i32) (iu : intT P E.tU32 = some .u32) (hc : ∀ n U w, 0 ≤ n ∧ n ≤ 4294967295 → Wr1 P E E.wU32 U [.int .u32 n] (be 4 n) w) {n : Int} : Wr1 P E E.wI32 U [.int .i32 n] (be 4 n) w := by
  intro dv xs hown hU hb
  refine CallsV.enter ht (by simp) ?_
  intro a hsz hdf harg
  have e0 := harg 0 dv (by simp)
  have e1 := harg 1 (.int .i32 n) (by simp)
  unfold c_wI32
  refine vc_sq (vc_rg (by simp) ?_)
  refine r_assign ?_
  refine dn ?_
  refine vc_sq (vc_rg (by simp) ?_)
  refine r_move ?_
  refine r_move ?_
  refine r_conv (by assumption) (by assumption) (by (try simp (disch := (first | omega | (simp only [sP]; omega))) only [eS, eN, eC, e1]) <;> (first | rfl | assumption)) ?_
  refine r_call' (args := #[dv, .int .u32 (IntKind.u32.wrap n)]) ?_ (hc (IntKind.u32.wrap n) U w (by rw [wrap_u32]; omega) dv xs hown hU (by rw [be4_mod]; exact hb)) ?_
  · simp only [List.map_toArray, List.map_cons, List.map_nil]
    simp (disch := (first | omega | (simp only [sP]; omega))) only [eS, eN, eC, e0]
  intro v' w' hs
  rw [be4_mod] at hs
  refine r_assign ?_
  refine dn ?_
  refine vc_sq (vc_ret ?_)
  exact ⟨by simp only [defers_put]; exact hdf, v', results_one (by simp (disch := (first | omega | (simp only [sP]; omega))) only [eS, eN, eC]), hs⟩
theorem k_i64 (ht : Text P E.wI64 2 9 #[.tmp 4] (c_wI64 E)) (is : intT P E.tI64 = some .i64) (iu : intT P E.tU64 = some .u64) (hc : ∀ n U w, 0 ≤ n ∧ n ≤ 18446744073709551615 → Wr1 P E E.wU64 U [.int .u64 n] (be 8 n) w) {n : Int} : Wr1 P E E.wI64 U [.int .i64 n] (be 8 n) w := by
  intro dv xs hown hU hb
  refine CallsV.enter ht (by simp) ?_
  intro a hsz hdf harg
  have e0 := harg 0 dv (by simp)
  have e1 := harg 1 (.int .i64 n) (by simp)
  unfold c_wI64
  refine vc_sq (vc_rg (by simp) ?_)
  refine r_assign ?_
  refine dn ?_
  refine vc_sq (vc_rg (by simp) ?_)
  refine r_move ?_
  refine r_move ?_
  refine r_conv (by assumption) (by assumption) (by (try simp (disch := (first | omega | (simp only [sP]; omega))) only [eS, eN, eC, e1]) <;> (first | rfl | assumption)) ?_
  refine r_call' (args := #[dv, .int .u64 (IntKind.u64.wrap n)]) ?_ (hc (IntKind.u64.wrap n) U w (by rw [wrap_u64]; omega) dv xs hown hU (by rw [be8_mod]; exact hb)) ?_
  · simp only [List.map_toArray, List.map_cons, List.map_nil]
    simp (disch := (first | omega | (simp only [sP]; omega))) only [eS, eN, eC, e0]
  intro v' w' hs
  rw [be8_mod] at hs
  refine r_assign ?_
  refine dn ?_
  refine vc_sq (vc_ret ?_)
  exact ⟨by simp only [defers_put]; exact hdf, v', results_one (by simp (disch := (first | omega | (simp only [sP]; omega))) only [eS, eN, eC]), hs⟩
theorem k_i8 (ht : Text P E.wI8 2 10 #[.tmp 4] (c_wI8 E)) (hB : rowB P E.tBytes E.tU8 1 = true) (is : intT P E.tI8 = some .i8) (i8 : intT P E.tU8 = some .u8) {n : Int} : Wr1 P E E.wI8 U [.int .i8 n] (be 1 n) w := by
  intro dv xs hown hU hb
  refine CallsV.enter ht (by simp) ?_
  intro a hsz hdf harg
  have e0 := harg 0 dv (by simp)
  have e1 := harg 1 (.int .i8 n) (by simp)
  unfold c_wI8
  refine vc_sq (vc_rg (by simp) ?_)
  refine r_assign ?_
  refine dn ?_
  refine vc_sq (vc_rg (by simp) ?_)
  refine r_move ?_
  refine r_move ?_
  refine r_conv (by assumption) (by assumption) (by (try simp (disch := (first | omega | (simp only [sP]; omega))) only [eS, eN, eC, e1]) <;> (first | rfl | assumption)) ?_
  refine r_litApp (zs := [IntKind.u8.wrap n]) hB ?_ (by intro z hz; simp only [List.mem_cons, List.not_mem_nil, or_false] at hz; rcases hz with rfl <;> first | exact wrap8_ok _ | decide) rfl (by omega) (by omega) (by simp (disch := (first | omega | (simp only [sP]; omega))) only [eS, eN, eC, e0]) (by omega) (by simp only [size_put]; omega) hown hU (by simpa [be] using hb) ?_
  · simp only [List.map_toArray, List.map_cons, List.map_nil]
    simp (disch := (first | omega | (simp only [sP]; omega))) only [eS, eN, eC]
    rfl
  intro v' w' h1 h2
  rw [show [IntKind.u8.wrap n].map o8 = be 1 n by rw [be1]; simp only [List.map_cons, List.map_nil, wrap8]] at h1
  refine r_assign ?_
  refine dn ?_
  refine vc_sq (vc_ret ?_)
  exact ⟨by simp only [defers_put]; exact hdf, v', results_one (by simp (disch := (first | omega | (simp only [sP]; omega))) only [eS, eN, eC]), ⟨h1, h2⟩⟩
theorem k_bool (ht : Text P E.wBool 2 12 #[.tmp 4] (c_wBool E)) (hB : rowB P E.tBytes E.tU8 1 = true) {b : Bool} : Wr1 P E E.wBool U [.bool b] ([if b then 1 else 0]) w := by
  intro dv xs hown hU hb
  refine CallsV.enter ht (by simp) ?_
  intro a hsz hdf harg
  have e0 := harg 0 dv (by simp)
  have e1 := harg 1 (.bool b) (by simp)
  unfold c_wBool
  refine vc_sq (vc_rg (by simp) ?_)
  refine r_assign ?_
  refine dn ?_
  refine vc_sq (vc_sq (vc_rg (by simp) ?_))
  refine r_move ?_
  refine dn ?_
  refine vc_sq (vc_cond (t := b) (by simp (disch := (first | omega | (simp only [sP]; omega))) only [eS, eN, eC, e1]) ?_ ?_)
  · intro hbt
    refine vc_sq (vc_rg (by simp) ?_)
    refine r_move ?_
    refine r_litApp (zs := [1]) hB ?_ (by intro z hz; simp only [List.mem_cons, List.not_mem_nil, or_false] at hz; rcases hz with rfl <;> first | exact wrap8_ok _ | decide) rfl (by omega) (by omega) (by simp (disch := (first | omega | (simp only [sP]; omega))) only [eS, eN, eC, e0]) (by omega) (by simp only [size_put]; omega) hown hU (by simpa [be] using hb) ?_
    · simp only [List.map_toArray, List.map_cons, List.map_nil]
      simp (disch := (first | omega | (simp only [sP]; omega))) only [eS, eN, eC]
      rfl
    intro v' w' h1 h2
    refine r_assign ?_
    refine dn ?_
    refine vc_sq (vc_ret ?_)
    exact ⟨by simp only [defers_put]; exact hdf, v', results_one (by simp (disch := (first | omega | (simp only [sP]; omega))) only [eS, eN, eC]), ⟨by rw [hbt]; exact h1, h2⟩⟩
  · intro hbt
    refine vc_skip ?_
    refine vc_sq_nil ?_
    refine vc_sq (vc_rg (by simp) ?_)
    refine r_move ?_
    refine r_litApp (zs := [0]) hB ?_ (by intro z hz; simp only [List.mem_cons, List.not_mem_nil, or_false] at hz; rcases hz with rfl <;> first | exact wrap8_ok _ | decide) rfl (by omega) (by omega) (by simp (disch := (first | omega | (simp only [sP]; omega))) only [eS, eN, eC, e0]) (by omega) (by simp only [size_put]; omega) hown hU (by simpa [be] using hb) ?_
    · simp only [List.map_toArray, List.map_cons, List.map_nil]
      simp (disch := (first | omega | (simp only [sP]; omega))) only [eS, eN, eC]
      rfl
    intro v' w' h1 h2
    refine r_assign ?_
    refine dn ?_
    refine vc_sq (vc_ret ?_)
    exact ⟨by simp only [defers_put]; exact hdf, v', results_one (by simp (disch := (first | omega | (simp only [sP]; omega))) only [eS, eN, eC]), ⟨by rw [hbt]; exact h1, h2⟩⟩
end
end Go.Km
