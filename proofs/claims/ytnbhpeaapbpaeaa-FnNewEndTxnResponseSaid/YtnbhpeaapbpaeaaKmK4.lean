/- Tags: how many; the writing of none. All of kbin's writing together. -/
import Derived.Test.YtnbhpeaapbpaeaaKmK3
set_option linter.unusedSimpArgs false
set_option linter.unusedVariables false
namespace Go.Km
open Go Go.RowKit
attribute [local irreducible] vc runOps runG runS runD

section
variable {P : Program} {a : Act} {w : World} {r : List Oper} {Q : Exit → Act → World → Prop}
/-- How many entries a map has. -/
theorem r_lenMap {d x t ty p af g kt vt n} {v : Value} (ht : P.underlying t = some (.map kt vt)) (hx : a.eval x = v) (hv : (v = .map none ∧ n = 0) ∨ ∃ q es clock, v = .map (some q) ∧ w.heap[q]? = some (.map es clock) ∧ es.size = n) (h : runOps P Q r (a.put (some d) (.int .i64 (n : Nat))) w) :
    runOps P Q (⟨some d, .call { callee := .builtin .len, args := #[x], argTypes := #[t] }, ty, p, af, g⟩ :: r) a w := by
  refine st ?_
  have hr : (Builtin.len_ #[t] ty #[a.eval x]).run P w = .ok (.int .i64 (n : Nat)) w := by
    rw [hx]
    rcases hv with ⟨rfl, rfl⟩ | ⟨q, es, clock, rfl, hq, rfl⟩
    · simp [Builtin.len_, run_underlying ht, goInt]
    · have hg : (getObj q).run P w = .ok (.map es clock) w := by simp [getObj, Sem.run, hq]
      simp [Builtin.len_, run_underlying ht, goInt, hg]
  simp only [Oper.wp, execOp, resolve, invoke, builtin, Sem.run_bind, Sem.run_pure, Result.andThen_ok, List.map_toArray, List.map_cons, List.map_nil, hr, Oper.upon_value]
  exact h
theorem r_makeFunc {d f xs ys ty p af g} (h : runOps P Q r (a.put (some d) (.func (.func f) (xs.map a.eval) (ys.map a.eval))) w) : runOps P Q (⟨some d, .makeFunc (.func f) xs ys, ty, p, af, g⟩ :: r) a w := by
  refine st ?_
  simp only [Oper.wp, execOp, Instr.makeFunc, Sem.run_bind, Sem.run_pure, Result.andThen_ok, Oper.upon_value]
  exact h
end

/-- The map type of tags. -/
def mapB (P : Program) (t : TypeId) : Bool := match P.underlying t with | some (.map _ _) => true | _ => false
theorem mapB_inv {P : Program} {t : TypeId} (h : mapB P t = true) : ∃ k v, P.underlying t = some (.map k v) := by
  unfold mapB at h
  split at h
  · rename_i k v hu; exact ⟨k, v, hu⟩
  · cases h

section
variable {P : Program} {E : Env} {w : World} {U : Nat}

theorem tags_len {W0 : World} {sb : Sb} {B : Nat} {v : Value} {tags : List (Nat × List UInt8)} (h : TagsRep W0 sb B v tags) (hw : Below W0.heap.size W0 w) :
    (v = .map none ∧ tags.length = 0) ∨ ∃ q es clock, v = .map (some q) ∧ w.heap[q]? = some (.map es clock) ∧ es.size = tags.length := by
  obtain ⟨_, _, h⟩ := h
  rcases h with ⟨rfl, rfl⟩ | ⟨q, es, clock, rfl, _, hq, hm, _, _, l, hp, hl, _⟩
  · exact .inl ⟨rfl, rfl⟩
  · exact .inr ⟨q, es, clock, rfl, by rw [hw.block q hq]; exact hm, by rw [← hl]; exact hp.length_eq⟩

theorem k_tlen (ht : Text P E.tLen 1 8 #[.tmp 2] (c_tLen E)) (ho : oneT P E.tTagMap = true) (hf : fieldOff P E.tTags 0 = some 0) (hm : mapB P E.tTagMap = true)
    {W0 : World} {sb : Sb} {b o : Nat} {v : Value} {tags : List (Nat × List UInt8)} (hc : W0.cell? ⟨b, o, none⟩ = some v) (hr : TagsRep W0 sb 0 v tags) (hw : Below W0.heap.size W0 w) :
    CallsV P E.tLen #[.pointer (some ⟨b, o, none⟩)] w fun r w' => r = .int .i64 (tags.length : Int) ∧ Grow w w' := by
  refine CallsV.enter ht (by simp) ?_
  intro a hsz hdf harg
  have e0 := harg 0 (.pointer (some ⟨b, o, none⟩)) (by simp)
  obtain ⟨kt, vt, hu⟩ := mapB_inv hm
  have hcw : w.cell? ⟨b, o, none⟩ = some v := by rw [hw.cell (p := ⟨b, o, none⟩) (lt_of_cell hc)]; exact hc
  unfold c_tLen
  refine vc_sq (vc_rg (by simp) ?_)
  refine r_assign ?_
  refine dn ?_
  refine vc_sq (vc_rg (by simp) ?_)
  refine r_move ?_
  refine r_nil (ad := ⟨b, o, none⟩) (by simp (disch := (first | omega | (simp only [sP]; omega))) only [eS, eN, eC, e0]) ?_
  refine r_field (b := b) (o := o) (by simp (disch := (first | omega | (simp only [sP]; omega))) only [eS, eN, eC]) hf ?_
  refine r_load (b := b) (o := o) (by (try simp (disch := (first | omega | (simp only [sP]; omega))) only [eS, eN, eC]) <;> (first | rfl | assumption)) ho hcw ?_
  refine r_lenMap (v := v) (n := tags.length) hu (by simp (disch := (first | omega | (simp only [sP]; omega))) only [eS, eN, eC]) (tags_len hr hw) ?_
  refine r_assign ?_
  refine dn ?_
  refine vc_sq (vc_ret ?_)
  exact ⟨by simp only [defers_put]; exact hdf, .int .i64 (tags.length : Nat), results_one (by simp (disch := (first | omega | (simp only [sP]; omega))) only [eS, eN, eC]), rfl, Eff.refl _ _⟩

/-- Each, of no tags. -/
theorem k_gAll0 (ht : Text P E.gAll 2 53 #[] (c_gAll E)) (ho : oneT P E.tTagMap = true) (hf : fieldOff P E.tTags 0 = some 0) (hm : mapB P E.tTagMap = true)
    {b o : Nat} {v fn : Value} (hcw : w.cell? ⟨b, o, none⟩ = some v) (hv : (v = .map none ∧ (0 : Nat) = 0) ∨ ∃ q es clock, v = .map (some q) ∧ w.heap[q]? = some (.map es clock) ∧ es.size = 0) :
    CallsV P E.gAll #[.pointer (some ⟨b, o, none⟩), fn] w fun r w' => w' = w := by
  refine CallsV.enter ht (by simp) ?_
  intro a hsz hdf harg
  have e0 := harg 0 (.pointer (some ⟨b, o, none⟩)) (by simp)
  obtain ⟨kt, vt, hu⟩ := mapB_inv hm
  unfold c_gAll
  refine vc_sq (vc_sq (vc_rg (by simp) ?_))
  refine r_move ?_
  refine r_nil (ad := ⟨b, o, none⟩) (by simp (disch := (first | omega | (simp only [sP]; omega))) only [eS, eN, eC, e0]) ?_
  refine r_field (b := b) (o := o) (by simp (disch := (first | omega | (simp only [sP]; omega))) only [eS, eN, eC]) hf ?_
  refine r_load (b := b) (o := o) (by (try simp (disch := (first | omega | (simp only [sP]; omega))) only [eS, eN, eC]) <;> (first | rfl | assumption)) ho hcw ?_
  refine r_lenMap (v := v) (n := 0) hu (by simp (disch := (first | omega | (simp only [sP]; omega))) only [eS, eN, eC]) hv ?_
  refine r_eql (k := .i64) (m := ((0 : Nat) : Int)) (n := 0) (by simp (disch := (first | omega | (simp only [sP]; omega))) only [eS, eN, eC]) rfl ?_
  refine dn ?_
  refine vc_sq (vc_cond (t := true) (by (try simp (disch := (first | omega | (simp only [sP]; omega))) only [eS, eN, eC]) <;> (first | rfl | assumption)) ?_ (fun h => by cases h))
  intro _
  refine vc_ret ?_
  refine ⟨by simp only [defers_put]; exact hdf, .tuple #[], ?_, rfl⟩
  simp [results]

theorem k_teach0 (ht : Text P E.tEach 2 9 #[.tmp 4] (c_tEach E)) (hta : Text P E.gAll 2 53 #[] (c_gAll E)) (hob : oneT P E.tBytes = true) (ho : oneT P E.tTagMap = true) (hf : fieldOff P E.tTags 0 = some 0) (hm : mapB P E.tTagMap = true)
    {W0 : World} {sb : Sb} {b o : Nat} {v : Value} {tags : List (Nat × List UInt8)} (h0 : tags = []) (hc : W0.cell? ⟨b, o, none⟩ = some v) (hr : TagsRep W0 sb 0 v tags) (hw : Below W0.heap.size W0 w)
    {dv : Value} {xs : List UInt8} (hown : w.ownsRow W0.heap.size E.tU8 1 dv xs.length (xs.map bv)) :
    CallsV P E.tEach #[.pointer (some ⟨b, o, none⟩), dv] w fun v' w' => w'.ownsRow W0.heap.size E.tU8 1 v' (xs ++ (tags.map wrTag).flatten).length ((xs ++ (tags.map wrTag).flatten).map bv) ∧ Below W0.heap.size w w' := by
  subst h0
  refine CallsV.enter ht (by simp) ?_
  intro a hsz hdf harg
  have e0 := harg 0 (.pointer (some ⟨b, o, none⟩)) (by simp)
  have e1 := harg 1 dv (by simp)
  have hdc : dv.cells = #[dv] := by
    rcases hown.2 with ⟨rfl, _⟩ | ⟨g, cap, cur, rfl, _⟩ <;> rfl
  have hbl : Below W0.heap.size w (w.alloc (.cells dv.cells E.tBytes)) := (Below.refl _ w).alloc (o := .cells _ _) hw.size
  have hw1 : Below W0.heap.size W0 (w.alloc (.cells dv.cells E.tBytes)) := hw.trans hbl
  have hcw : (w.alloc (.cells dv.cells E.tBytes)).cell? ⟨b, o, none⟩ = some v := by rw [hw1.cell (p := ⟨b, o, none⟩) (lt_of_cell hc)]; exact hc
  unfold c_tEach
  refine vc_sq (vc_rg (by simp) ?_)
  refine r_box (v := dv) (by simp (disch := (first | omega | (simp only [sP]; omega))) only [eS, eN, eC, e1]) ?_
  refine r_assign ?_
  refine dn ?_
  refine vc_sq (vc_rg (by simp) ?_)
  refine r_move ?_
  refine r_makeFunc ?_
  refine r_call' (args := #[.pointer (some ⟨b, o, none⟩), .func (.func E.gEach1) #[] #[.pointer (some ⟨w.heap.size, 0, none⟩)]]) ?_ (k_gAll0 hta ho hf hm hcw (tags_len hr hw1)) ?_
  · simp only [List.map_toArray, List.map_cons, List.map_nil]
    simp (disch := (first | omega | (simp only [sP]; omega))) only [eS, eN, eC, e0]
  rintro v' w' rfl
  refine dn ?_
  refine vc_sq (vc_rg (by simp) ?_)
  refine r_load (b := w.heap.size) (o := 0) (v := dv) (by simp (disch := (first | omega | (simp only [sP]; omega))) only [eS, eN, eC]) hob (cells_new w _ _ (by rw [hdc]; rfl)) ?_
  refine r_assign ?_
  refine dn ?_
  refine vc_sq (vc_ret ?_)
  refine ⟨by simp only [defers_put]; exact hdf, dv, results_one (by simp (disch := (first | omega | (simp only [sP]; omega))) only [eS, eN, eC]), ?_, hbl⟩
  simpa using hown.alloc _
end

/-! ## all together -/
def on (f : Nat) (c : Bool) : Bool := f == 0 || c
theorem on_inv {f : Nat} {c : Bool} (h : on f c = true) (hf : f ≠ 0) : c = true := by
  simp only [on, Bool.or_eq_true, beq_iff_eq] at h
  exact h.resolve_left hf
def strB (P : Program) (t : TypeId) : Bool := match P.underlying t with | some .string => true | _ => false
theorem strB_inv {P : Program} {t : TypeId} (h : strB P t = true) : P.underlying t = some .string := by
  unfold strB at h
  split at h
  · assumption
  · cases h
def ptrB (P : Program) (t : TypeId) : Bool := match P.underlying t with | some (.pointer _) => true | _ => false
theorem ptrB_inv {P : Program} {t : TypeId} (h : ptrB P t = true) : ∃ e, P.underlying t = some (.pointer e) := by
  unfold ptrB at h
  split at h
  · rename_i e hu; exact ⟨e, hu⟩
  · cases h
def arrB (P : Program) (t e : TypeId) (n : Nat) : Bool := match P.underlying t with | some (.array n' e') => n' == n && e' == e | _ => false
theorem arrB_inv {P : Program} {t e : TypeId} {n : Nat} (h : arrB P t e n = true) : P.underlying t = some (.array n e) := by
  unfold arrB at h
  split at h
  · rename_i n' e' hu
    simp only [Bool.and_eq_true, beq_iff_eq] at h
    obtain ⟨rfl, rfl⟩ := h
    exact hu
  · cases h
/-- The types that kbin's functions turn are what they are thought, and what is called is there. -/
def kB (P : Program) (E : Env) : Bool :=
  rowB P E.tBytes E.tU8 1 && (intT P E.tU8 == some .u8) && (intT P E.tInt == some .i64) && oneT P E.tBytes && ((P.info? E.tU8).map (·.size) == some 1) &&
  on E.wU16 (intT P E.tU16 == some .u16) && on E.wU32 (intT P E.tU32 == some .u32) && on E.wU64 (intT P E.tU64 == some .u64) &&
  on E.wI8 (intT P E.tI8 == some .i8) && on E.wI16 (intT P E.tI16 == some .i16 && E.wU16 != 0) && on E.wI32 (intT P E.tI32 == some .i32 && E.wU32 != 0) && on E.wI64 (intT P E.tI64 == some .i64 && E.wU64 != 0) &&
  on E.wUvarint (intT P E.tU32 == some .u32 && strB P E.tStr && E.uvLen != 0 && E.len32 != 0) &&
  on E.wStr (strB P E.tStr && E.wI16 != 0) && on E.wCStr (strB P E.tStr && E.wUvarint != 0) &&
  on E.wNStr (ptrB P E.tPStr && oneT P E.tStr && E.wStr != 0 && E.wI16 != 0) && on E.wCNStr (ptrB P E.tPStr && oneT P E.tStr && E.wCStr != 0 && E.wUvarint != 0) &&
  on E.wBytes (E.wI32 != 0) && on E.wCBytes (E.wUvarint != 0) && on E.wNBytes (E.wBytes != 0 && E.wI32 != 0) && on E.wCNBytes (E.wCBytes != 0 && E.wUvarint != 0) &&
  on E.wLen (E.wI32 != 0) && on E.wCLen (E.wUvarint != 0) && on E.wNLen (E.wI32 != 0) && on E.wCNLen (E.wUvarint != 0) &&
  on E.wUuid (arrB P E.tUuid E.tU8 16) && on E.tLen (oneT P E.tTagMap && mapB P E.tTagMap && fieldOff P E.tTags 0 == some 0) && on E.tEach (oneT P E.tTagMap && mapB P E.tTagMap && fieldOff P E.tTags 0 == some 0 && E.gAll != 0) &&
  on E.wUvarint (intT P E.tU32 == some .u32) && (E.wF64 == 0)

/-- The functions of kbin that write have these texts. -/
structure KTexts (P : Program) (E : Env) : Prop where
  wBool : E.wBool ≠ 0 → Text P E.wBool 2 12 #[.tmp 4] (c_wBool E)
  wI8 : E.wI8 ≠ 0 → Text P E.wI8 2 10 #[.tmp 4] (c_wI8 E)
  wI16 : E.wI16 ≠ 0 → Text P E.wI16 2 9 #[.tmp 4] (c_wI16 E)
  wU16 : E.wU16 ≠ 0 → Text P E.wU16 2 13 #[.tmp 4] (c_wU16 E)
  wI32 : E.wI32 ≠ 0 → Text P E.wI32 2 9 #[.tmp 4] (c_wI32 E)
  wU32 : E.wU32 ≠ 0 → Text P E.wU32 2 19 #[.tmp 4] (c_wU32 E)
  wI64 : E.wI64 ≠ 0 → Text P E.wI64 2 9 #[.tmp 4] (c_wI64 E)
  wU64 : E.wU64 ≠ 0 → Text P E.wU64 2 31 #[.tmp 4] (c_wU64 E)
  wUuid : E.wUuid ≠ 0 → Text P E.wUuid 2 8 #[.tmp 4] (c_wUuid E)
  wStr : E.wStr ≠ 0 → Text P E.wStr 2 13 #[.tmp 4] (c_wStr E)
  wCStr : E.wCStr ≠ 0 → Text P E.wCStr 2 14 #[.tmp 4] (c_wCStr E)
  wNStr : E.wNStr ≠ 0 → Text P E.wNStr 2 14 #[.tmp 4] (c_wNStr E)
  wCNStr : E.wCNStr ≠ 0 → Text P E.wCNStr 2 14 #[.tmp 4] (c_wCNStr E)
  wBytes : E.wBytes ≠ 0 → Text P E.wBytes 2 13 #[.tmp 4] (c_wBytes E)
  wCBytes : E.wCBytes ≠ 0 → Text P E.wCBytes 2 14 #[.tmp 4] (c_wCBytes E)
  wNBytes : E.wNBytes ≠ 0 → Text P E.wNBytes 2 12 #[.tmp 4] (c_wNBytes E)
  wCNBytes : E.wCNBytes ≠ 0 → Text P E.wCNBytes 2 12 #[.tmp 4] (c_wCNBytes E)
  wLen : E.wLen ≠ 0 → Text P E.wLen 2 9 #[.tmp 4] (c_wLen E)
  wCLen : E.wCLen ≠ 0 → Text P E.wCLen 2 10 #[.tmp 4] (c_wCLen E)
  wNLen : E.wNLen ≠ 0 → Text P E.wNLen 3 14 #[.tmp 6] (c_wNLen E)
  wCNLen : E.wCNLen ≠ 0 → Text P E.wCNLen 3 15 #[.tmp 6] (c_wCNLen E)
  uvLen : E.uvLen ≠ 0 → Text P E.uvLen 1 8 #[.tmp 2] (c_uvLen E)
  len32 : E.len32 ≠ 0 → Text P E.len32 1 19 #[.tmp 2] (c_len32 E)
  wUvarint : E.wUvarint ≠ 0 → Text P E.wUvarint 2 93 #[.tmp 4] (c_wUvarint E)
  tLen : E.tLen ≠ 0 → Text P E.tLen 1 8 #[.tmp 2] (c_tLen E)
  tEach : E.tEach ≠ 0 → Text P E.tEach 2 9 #[.tmp 4] (c_tEach E)
  gAll : E.gAll ≠ 0 → Text P E.gAll 2 53 #[] (c_gAll E)

theorem envW0 {P : Program} {E : Env} (HT : KTexts P E) (hB : kB P E = true) : EnvW P E (fun tags => tags = []) := by
  simp only [kB, Bool.and_eq_true, beq_iff_eq, bne_iff_ne, ne_eq] at hB
  obtain ⟨⟨⟨⟨⟨⟨⟨⟨⟨⟨⟨⟨⟨⟨⟨⟨⟨⟨⟨⟨⟨⟨⟨⟨⟨⟨⟨⟨⟨row, u8⟩, ii⟩, ob⟩, s8⟩, oU16⟩, oU32⟩, oU64⟩, oI8⟩, oI16⟩, oI32⟩, oI64⟩, oUv⟩, oStr⟩, oCStr⟩, oNStr⟩, oCNStr⟩, oB⟩, oCB⟩, oNB⟩, oCNB⟩, oL⟩, oCL⟩, oNL⟩, oCNL⟩, oUu⟩, oTl⟩, oTe⟩, oUv2⟩, oF⟩ := hB
  have dec : ∀ {f : Nat} {c : Bool}, on f c = true → f ≠ 0 → c = true := fun h hf => on_inv h hf
  have cU16 : E.wU16 ≠ 0 → ∀ (n : Int) U w, 0 ≤ n ∧ n ≤ 65535 → Wr1 P E E.wU16 U [.int .u16 n] (be 2 n) w := fun h n U w hn =>
    k_u16 (HT.wU16 h) row (by simpa using dec oU16 h) u8 hn
  have cI16 : E.wI16 ≠ 0 → ∀ (n : Int) U w, Wr1 P E E.wI16 U [.int .i16 n] (be 2 n) w := fun h n U w => by
    have h2 := dec oI16 h
    simp only [Bool.and_eq_true, beq_iff_eq, bne_iff_ne, ne_eq] at h2
    exact k_i16 (HT.wI16 h) h2.1 (by simpa using dec oU16 h2.2) (cU16 h2.2)
  have cU32 : E.wU32 ≠ 0 → ∀ (n : Int) U w, 0 ≤ n ∧ n ≤ 4294967295 → Wr1 P E E.wU32 U [.int .u32 n] (be 4 n) w := fun h n U w hn =>
    k_u32 (HT.wU32 h) row (by simpa using dec oU32 h) u8 hn
  have cI32 : E.wI32 ≠ 0 → ∀ (n : Int) U w, Wr1 P E E.wI32 U [.int .i32 n] (be 4 n) w := fun h n U w => by
    have h2 := dec oI32 h
    simp only [Bool.and_eq_true, beq_iff_eq, bne_iff_ne, ne_eq] at h2
    exact k_i32 (HT.wI32 h) h2.1 (by simpa using dec oU32 h2.2) (cU32 h2.2)
  have cU64 : E.wU64 ≠ 0 → ∀ (n : Int) U w, 0 ≤ n ∧ n ≤ 18446744073709551615 → Wr1 P E E.wU64 U [.int .u64 n] (be 8 n) w := fun h n U w hn =>
    k_u64 (HT.wU64 h) row (by simpa using dec oU64 h) u8 hn
  have cI64 : E.wI64 ≠ 0 → ∀ (n : Int) U w, Wr1 P E E.wI64 U [.int .i64 n] (be 8 n) w := fun h n U w => by
    have h2 := dec oI64 h
    simp only [Bool.and_eq_true, beq_iff_eq, bne_iff_ne, ne_eq] at h2
    exact k_i64 (HT.wI64 h) h2.1 (by simpa using dec oU64 h2.2) (cU64 h2.2)
  have cUv : E.wUvarint ≠ 0 → ∀ (n : Nat) U w, n < 4294967296 → Wr1 P E E.wUvarint U [.int .u32 n] (Go.Km.uvar n) w := fun h n U w hn => by
    have h2 := dec oUv h
    simp only [Bool.and_eq_true, beq_iff_eq, bne_iff_ne, ne_eq] at h2
    exact k_uvar (HT.wUvarint h) (HT.uvLen h2.1.2) (HT.len32 h2.2) row u8 h2.1.1.1 ii (strB_inv h2.1.1.2) hn
  have iU32 : E.wUvarint ≠ 0 → intT P E.tU32 = some .u32 := fun h => by simpa using dec oUv2 h
  have iI16 : E.wI16 ≠ 0 → intT P E.tI16 = some .i16 := fun h => by
    have h2 := dec oI16 h
    simp only [Bool.and_eq_true, beq_iff_eq] at h2
    exact h2.1
  have iI32 : E.wI32 ≠ 0 → intT P E.tI32 = some .i32 := fun h => by
    have h2 := dec oI32 h
    simp only [Bool.and_eq_true, beq_iff_eq] at h2
    exact h2.1
  have cStr : E.wStr ≠ 0 → ∀ (l : List UInt8) U w, Wr1 P E E.wStr U [.string ⟨l.toArray⟩] (wrStr false l) w := fun h l U w => by
    have h2 := dec oStr h
    simp only [Bool.and_eq_true, bne_iff_ne, ne_eq] at h2
    exact k_str (HT.wStr h) row (iI16 h2.2) ii (strB_inv h2.1) (cI16 h2.2)
  have cCStr : E.wCStr ≠ 0 → ∀ (l : List UInt8) U w, Wr1 P E E.wCStr U [.string ⟨l.toArray⟩] (wrStr true l) w := fun h l U w => by
    have h2 := dec oCStr h
    simp only [Bool.and_eq_true, bne_iff_ne, ne_eq] at h2
    exact k_cstr (HT.wCStr h) row (iU32 h2.2) ii (strB_inv h2.1) (cUv h2.2)
  have cB : E.wBytes ≠ 0 → ∀ v o U w, OctAt w U v o → Wr1 P E E.wBytes U [v] (wrBytes false (o.getD [])) w := fun h v o U w hv => by
    have h2 := dec oB h
    simp only [bne_iff_ne, ne_eq] at h2
    exact k_octs (HT.wBytes h) row (iI32 h2) ii hv (cI32 h2)
  have cCB : E.wCBytes ≠ 0 → ∀ v o U w, OctAt w U v o → Wr1 P E E.wCBytes U [v] (wrBytes true (o.getD [])) w := fun h v o U w hv => by
    have h2 := dec oCB h
    simp only [bne_iff_ne, ne_eq] at h2
    exact k_cocts (HT.wCBytes h) row (iU32 h2) ii hv (cUv h2)
  refine { bytes := rowB_slice row, scal := ?_, uuid := ?_, str := fun h l U w => cStr h l U w, cstr := fun h l U w => cCStr h l U w, nstr := ?_, cnstr := ?_, octs := cB, cocts := cCB, nocts := ?_, cnocts := ?_, len := ?_, clen := ?_, nlen := ?_, cnlen := ?_, uvar := cUv, tlen := ?_, teach := ?_ }
  · intro s hs n U w hn
    cases s with
    | bool =>
      have hb := k_bool (U := U) (w := w) (b := n != 0) (HT.wBool hs) row
      exact hb
    | i8 =>
      have h2 := dec oI8 hs
      simp only [beq_iff_eq] at h2
      exact k_i8 (HT.wI8 hs) row h2 u8
    | i16 => exact cI16 hs n U w
    | i32 => exact cI32 hs n U w
    | i64 => exact cI64 hs n U w
    | u16 => exact cU16 hs n U w hn
    | f64 => exact absurd oF hs
  · intro h l U w hl
    exact k_uuid (HT.wUuid h) row hl (arrB_inv (dec oUu h)) s8
  · intro h v o U w hv
    have h2 := dec oNStr h
    simp only [Bool.and_eq_true, bne_iff_ne, ne_eq] at h2
    obtain ⟨te, hte⟩ := ptrB_inv h2.1.1.1
    exact k_nstr (HT.wNStr h) hte h2.1.1.2 hv (cI16 h2.2) (cStr h2.1.2)
  · intro h v o U w hv
    have h2 := dec oCNStr h
    simp only [Bool.and_eq_true, bne_iff_ne, ne_eq] at h2
    obtain ⟨te, hte⟩ := ptrB_inv h2.1.1.1
    exact k_cnstr (HT.wCNStr h) hte h2.1.1.2 hv (cUv h2.2) (cCStr h2.1.2)
  · intro h v o U w hv
    have h2 := dec oNB h
    simp only [Bool.and_eq_true, bne_iff_ne, ne_eq] at h2
    exact k_nocts (HT.wNBytes h) row hv (cI32 h2.2) (cB h2.1)
  · intro h v o U w hv
    have h2 := dec oCNB h
    simp only [Bool.and_eq_true, bne_iff_ne, ne_eq] at h2
    exact k_cnocts (HT.wCNBytes h) row hv (cUv h2.2) (cCB h2.1)
  · intro h n U w hn
    have h2 := dec oL h
    simp only [bne_iff_ne, ne_eq] at h2
    exact k_len (HT.wLen h) (iI32 h2) ii hn (cI32 h2)
  · intro h n U w hn
    have h2 := dec oCL h
    simp only [bne_iff_ne, ne_eq] at h2
    exact k_clen (HT.wCLen h) (iU32 h2) ii hn (cUv h2)
  · intro h n b U w hn
    have h2 := dec oNL h
    simp only [bne_iff_ne, ne_eq] at h2
    exact k_nlen (HT.wNLen h) (iI32 h2) ii hn (cI32 h2)
  · intro h n b U w hn
    have h2 := dec oCNL h
    simp only [bne_iff_ne, ne_eq] at h2
    exact k_cnlen (HT.wCNLen h) (iU32 h2) ii hn (cUv h2)
  · intro h W0 sb b o v tags w _ hc hr hw
    have h2 := dec oTl h
    simp only [Bool.and_eq_true, beq_iff_eq] at h2
    exact k_tlen (HT.tLen h) h2.1.1 h2.2 h2.1.2 hc hr hw
  · intro h W0 sb b o v tags w hT hc hr hw dv xs hown hb
    have h2 := dec oTe h
    simp only [Bool.and_eq_true, beq_iff_eq, bne_iff_ne, ne_eq] at h2
    have h0 : tags = [] := by
      have := hr.2.1
      rw [hT] at this
      exact this
    exact k_teach0 (HT.tEach h) (HT.gAll h2.2) ob h2.1.1.1 h2.1.2 h2.1.1.2 h0 hc hr hw hown
end Go.Km
