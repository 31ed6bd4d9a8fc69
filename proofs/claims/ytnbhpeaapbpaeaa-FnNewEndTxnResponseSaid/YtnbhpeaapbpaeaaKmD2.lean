/- kmsg's small functions: Default, NewPtr, MaxVersion, SetVersion. -/
import Derived.Test.YtnbhpeaapbpaeaaKmD1
import Derived.Test.YtnbhpeaapbpaeaaKmP1
set_option linter.unusedSimpArgs false
set_option linter.unusedVariables false
namespace Go.Km
open Go Go.RowKit
attribute [local irreducible] vc runOps runG

def Scal.okB : Scal → Int → Bool
  | .bool, n => n == 0 || n == 1
  | .i8, n => decide (-128 ≤ n) && decide (n ≤ 127)
  | .i16, n => decide (-32768 ≤ n) && decide (n ≤ 32767)
  | .u16, n => decide (0 ≤ n) && decide (n ≤ 65535)
  | .i32, n => decide (-2147483648 ≤ n) && decide (n ≤ 2147483647)
  | .i64, n => decide (-9223372036854775808 ≤ n) && decide (n ≤ 9223372036854775807)
  | .f64, n => decide (0 ≤ n) && decide (n < 18446744073709551616)
theorem Scal.okB_ok {k : Scal} {n : Int} (h : k.okB n = true) : k.ok n := by
  cases k <;> simpa [Scal.okB, Scal.ok] using h
mutual
def Ty.okZ : Ty → Bool
  | .scal k df | .named k _ df => k.okB df
  | .struct _ _ _ fs => fs.okZ && !fs.tagged
  | _ => true
def Flds.okZ : Flds → Bool
  | .nil _ => true
  | .cons _ t r => t.okZ && r.okZ
def Flds.tagged : Flds → Bool
  | .nil _ => false
  | .cons _ _ r => r.tagged
end
mutual
theorem Ty.dz_rep {w : World} {sb : Sb} (hT : sb.T []) : ∀ (t : Ty) (B : Nat), t.okZ = true → t.Rep w sb B t.dz t.dflt
  | .scal k df, B, h => ⟨rfl, k.okB_ok h⟩
  | .named k _ df, B, h => ⟨rfl, k.okB_ok h⟩
  | .uuid, B, _ => ⟨by simp, by simp [Ty.dz, bv]⟩
  | .text, B, _ => rfl
  | .ntext, B, _ => rfl
  | .ntextFrom _, B, _ => rfl
  | .bytes, B, _ => rfl
  | .nbytes, B, _ => rfl
  | .list _ _ _, B, _ => rfl
  | .struct _ _ _ fs, B, h => by
    simp only [Ty.okZ, Bool.and_eq_true] at h
    exact Flds.dz_rep hT fs B h.1
theorem Flds.dz_rep {w : World} {sb : Sb} (hT : sb.T []) : ∀ (fs : Flds) (B : Nat), fs.okZ = true → fs.Rep w sb B fs.dz fs.dflt []
  | .nil t, B, _ => by
    cases t with
    | false => exact ⟨rfl, rfl⟩
    | true => exact ⟨.map none, rfl, ⟨List.Pairwise.nil, by simp⟩, hT, .inl ⟨rfl, rfl⟩⟩
  | .cons _ t r, B, h => by
    simp only [Flds.okZ, Bool.and_eq_true] at h
    refine ⟨?_, ?_⟩
    · simp only [Flds.dz]
      rw [← Ty.dz_len t, List.take_left]
      exact Ty.dz_rep hT t B h.1
    · simp only [Flds.dz]
      rw [← Ty.dz_len t, List.drop_left]
      exact Flds.dz_rep hT r B h.2
end

section
variable {P : Program} {E : Env}
/-- Default. -/
theorem c_dflt {TP TU : TypeId} {idx : Nat} {fs : Flds} {FD : FuncId} {np nt off : Nat} (ht : Text P FD np nt #[] (dcode E TP TU idx fs)) (hnt : 2 + fs.dn + fs.dt ≤ nt) (hok : fs.okD P E TU idx off = true)
    {b o : Nat} {cs : List Value} {W : World} (hl : cs.length = fs.size) (hc : Cells W b (o + off) cs) (hf : ∀ i, i < fs.size → Free W b (o + off + i)) :
    CallsV P FD #[.pointer (some ⟨b, o, none⟩)] W fun v w' => Eff (fun k i => k = b ∧ o + off ≤ i ∧ i < o + off + fs.size) W w' ∧ Cells w' b (o + off) (fs.over cs) := by
  refine CallsV.enter ht (by simp; omega) ?_
  intro a hsz hdf harg
  have e0 := harg 0 (.pointer (some ⟨b, o, none⟩)) (by simp)
  unfold dcode
  have := Flds.dc_ok fs (E := E) (P := P) (TP := TP) (TU := TU) (s := 0) (idx := idx) (n := 2) (t := 2 + fs.dn) (b := b) (o0 := o) (off := off) (cs := cs) (rest := []) (Q := Out P #[] fun v w' => Eff (fun k i => k = b ∧ o + off ≤ i ∧ i < o + off + fs.size) W w' ∧ Cells w' b (o + off) (fs.over cs)) (A := a) (W := W) hok e0 (by omega) (Nat.le_refl _) (by omega) hl hc hf
  rw [List.append_nil] at this
  refine this ?_
  intro A' W' a1 a2 a3 a4 a5
  refine vc_sq_nil ?_
  exact ⟨by rw [a2]; exact hdf, .tuple #[], by simp [results], a4, a5⟩

def c_newPtr (m : Msg) : Code :=
  sq [rg [oAssign 0 (.const (.pointer none)) m.TP], rg [oAlloc 1 m.TU], rg [oCall (some 2) m.FD #[.tmp 1] #[m.TU] 0], rg [oAssign 0 (.tmp 1) m.TP], .ret]
def c_maxV (E : Env) (mx : Nat) : Code := sq [rg [oAssign 2 (.const (.int .i16 0)) E.tI16], rg [oAssign 2 (.const (.int .i16 mx)) E.tI16], .ret]
def c_setV (E : Env) (m : Msg) : Code :=
  rg [oMove 4 (.tmp 0) m.TP, oMove 5 (.tmp 1) E.tI16, oNil 6 (.tmp 4), oField 7 m.TU (.tmp 6) 0, oStore E.tI16 (.tmp 7) (.tmp 5)]

/-- A new message. -/
def NewC (P : Program) (f : FuncId) (m : Msg) : Prop := ∀ w, CallsV P f #[] w fun v w' => v = .pointer (some ⟨w.heap.size, 0, none⟩) ∧ Below w.heap.size w w' ∧ w.heap.size < w'.heap.size ∧
  Cells w' w.heap.size 0 (.int .i16 0 :: m.fs.dz) ∧ ∀ i, i < m.fs.size + 1 → Free w' w.heap.size i
theorem c_newPtr_ok {m : Msg} {f : FuncId} {np nt npd ntd : Nat} (ht : Text P f np nt #[.tmp 0] (c_newPtr m)) (hn : 3 ≤ nt) (hd : Text P m.FD npd ntd #[] (dcode E m.TP m.TU 1 m.fs)) (hnd : 2 + m.fs.dn + m.fs.dt ≤ ntd) (hok : m.fs.okD P E m.TU 1 1 = true)
    (hz : (zeroT P m.TU).map (·.cells.toList) = some (.int .i16 0 :: m.fs.zc)) : NewC P f m := by
  intro w
  obtain ⟨z, hz0, hzc⟩ : ∃ z, zeroT P m.TU = some z ∧ z.cells.toList = .int .i16 0 :: m.fs.zc := by
    cases h : zeroT P m.TU with
    | none => rw [h] at hz; cases hz
    | some z => rw [h] at hz; exact ⟨z, rfl, by simpa using hz⟩
  have hzl : z.cells.size = m.fs.size + 1 := by
    have := congrArg List.length hzc
    simpa [Flds.zc_len] using this
  refine CallsV.enter ht (by simp) ?_
  intro a hsz hdf harg
  unfold c_newPtr
  refine vc_sq (vc_rg (by simp) ?_)
  refine r_assign ?_
  refine dn ?_
  refine vc_sq (vc_rg (by simp) ?_)
  refine r_alloc hz0 ?_
  refine dn ?_
  have hb0 : Below w.heap.size w (w.alloc (.cells z.cells m.TU)) := (Below.refl w.heap.size w).alloc (o := .cells _ _) (Nat.le_refl _)
  have hfr : ∀ i, i < m.fs.size + 1 → Free (w.alloc (.cells z.cells m.TU)) w.heap.size i := fun i hi => free_new w _ m.TU (by omega)
  have hcz : Cells (w.alloc (.cells z.cells m.TU)) w.heap.size 0 (.int .i16 0 :: m.fs.zc) := by
    intro i v hv
    rw [Nat.zero_add]
    refine cells_new w _ m.TU ?_
    rw [← hzc] at hv
    simpa using hv
  have hz1 : w.heap.size < (w.alloc (.cells z.cells m.TU)).heap.size := by simp
  generalize w.alloc (.cells z.cells m.TU) = W at *
  generalize w.heap.size = b at *
  refine vc_sq (vc_rg (by simp) ?_)
  refine r_call' (args := #[.pointer (some ⟨b, 0, none⟩)]) ?_ (c_dflt (b := b) (o := 0) (cs := m.fs.zc) hd hnd hok (Flds.zc_len _) (hcz.dp (n := 1)) (fun i hi => by have := hfr (i + 1) (by omega); rwa [show 0 + 1 + i = i + 1 by omega])) ?_
  · simp only [List.map_toArray, List.map_cons, List.map_nil]
    simp (disch := (first | omega | (simp only [sP]; omega))) only [eS, eN, eC]
  rintro v W1 ⟨h1, h2⟩
  refine dn ?_
  refine vc_sq (vc_rg (by simp) ?_)
  refine r_assign ?_
  refine dn ?_
  refine vc_sq (vc_ret ?_)
  refine ⟨by simp only [defers_put]; exact hdf, .pointer (some ⟨b, 0, none⟩), results_one ?_, rfl, hb0.trans (h1.below (by omega) (by rintro k i hk ⟨h, _⟩; omega)), Nat.lt_of_lt_of_le hz1 h1.size, ?_, fun i hi => (hfr i hi).eff h1⟩
  · simp (disch := (first | omega | (simp only [sP]; omega))) only [eS, eN, eC]
  · rw [Flds.over_zc] at h2
    have h0 : Cells W1 b 0 [.int .i16 0] := (hcz.tk (n := 1)).eff h1 (by intro i hi ⟨_, h, _⟩; simp at hi; omega)
    exact h0.append h2
theorem c_maxV_ok {f : FuncId} {np nt mx : Nat} (ht : Text P f np nt #[.tmp 2] (c_maxV E mx)) (hn : 3 ≤ nt) (x : Value) (w : World) : CallsV P f #[x] w fun v w' => v = .int .i16 mx ∧ w' = w := by
  refine CallsV.enter ht (by simp; omega) ?_
  intro a hsz hdf harg
  unfold c_maxV
  refine vc_sq (vc_rg (by simp) ?_)
  refine r_assign ?_
  refine dn ?_
  refine vc_sq (vc_rg (by simp) ?_)
  refine r_assign ?_
  refine dn ?_
  refine vc_sq (vc_ret ?_)
  exact ⟨by simp only [defers_put]; exact hdf, .int .i16 mx, results_one (by simp (disch := (first | omega | (simp only [sP]; omega))) only [eS, eN, eC]), rfl, rfl⟩
theorem c_setV_ok {m : Msg} {f : FuncId} {np nt : Nat} (ht : Text P f np nt #[] (c_setV E m)) (hn : 8 ≤ nt) (ho : fieldOff P m.TU 0 = some 0) (hT : oneT P E.tI16 = true) {b o : Nat} {ver : Int} {w : World} (hf : Free w b o) :
    CallsV P f #[.pointer (some ⟨b, o, none⟩), .int .i16 ver] w fun v w' => w' = w.setCell ⟨b, o, none⟩ (.int .i16 ver) := by
  refine CallsV.enter ht (by simp; omega) ?_
  intro a hsz hdf harg
  have e0 := harg 0 (.pointer (some ⟨b, o, none⟩)) (by simp)
  have e1 := harg 1 (.int .i16 ver) (by simp)
  unfold c_setV
  refine vc_rg (by simp) ?_
  refine r_move ?_
  refine r_move ?_
  refine r_nil (ad := ⟨b, o, none⟩) (by simp (disch := (first | omega | (simp only [sP]; omega))) only [eS, eN, eC, e0]) ?_
  refine r_field (b := b) (o := o) (by simp (disch := (first | omega | (simp only [sP]; omega))) only [eS, eN, eC]) ho ?_
  refine r_store (b := b) (o := o + 0) (v := .int .i16 ver) (by simp (disch := (first | omega | (simp only [sP]; omega))) only [eS, eN, eC]) (by simp (disch := (first | omega | (simp only [sP]; omega))) only [eS, eN, eC, e1]) rfl hT (by simpa using hf) ?_
  refine dn ?_
  exact ⟨by simp only [defers_put]; exact hdf, .tuple #[], by simp [results], by simp⟩
end
end Go.Km
