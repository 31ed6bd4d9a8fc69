/- The laws of new messages. -/
import Derived.Test.YtnbhpeaapbpaeaaKmL2
import Derived.Test.YtnbhpeaapbpaeaaKmD2
set_option linter.unusedSimpArgs false
set_option linter.unusedVariables false
namespace Go.Km
open Go Go.RowKit
attribute [local irreducible] vc runOps runG runS runD

/-- The numbers of a message's functions. -/
structure MN where
  newPtr : FuncId
  maxV : FuncId
  setV : FuncId
  app : FuncId
  implMax : FuncId
  implNew : FuncId
  spec : FuncId
  law : FuncId
def c_implMax (E : Env) (m : Msg) (N : MN) : Code :=
  sq [rg [oAssign 0 (.const (.int .i64 0)) E.tInt], rg [oCall (some 1) N.newPtr #[] #[] m.TP, oCall (some 2) N.maxV #[.tmp 1] #[m.TP] E.tI16, oConv 3 E.tI16 E.tInt (.tmp 2), oAssign 0 (.tmp 3) E.tInt], .ret]
def c_implNew (E : Env) (m : Msg) (N : MN) : Code :=
  sq [rg [oAssign 2 (.const (.slice none 0 0)) E.tBytes], rg [oCall (some 4) N.newPtr #[] #[] m.TP, oAssign 3 (.tmp 4) m.TP],
    rg [oMove 5 (.tmp 3) m.TP, oMove 6 (.tmp 0) E.tInt, oConv 7 E.tInt E.tI16 (.tmp 6), oCall (some 8) N.setV #[.tmp 5, .tmp 7] #[m.TP, E.tI16] 0],
    rg [oMove 9 (.tmp 3) m.TP, oCall (some 10) N.app #[.tmp 9, .const (.slice none 0 0)] #[m.TP, E.tBytes] E.tBytes, oAssign 2 (.tmp 10) E.tBytes], .ret]
def c_lawNew (E : Env) (N : MN) : Code :=
  (sq [(rg [⟨some 2, .assign (.const (.bool false)), E.tBool, "", #[], none⟩]),
    (rg [⟨some 5, .call { callee := .value (.func N.implMax), args := #[], argTypes := #[] }, E.tInt, "", #[], none⟩,
      ⟨some 3, .assign (.tmp 5), E.tInt, "", #[], none⟩]),
    (sq [(rg [⟨some 6, .move (.tmp 3), E.tInt, "", #[], none⟩,
        ⟨some 7, .binOp .lss E.tInt (.tmp 6) (.const (.int .i64 0)) E.tInt, E.tBool, "", #[], none⟩]),
      (.cond (.tmp 7)
        (sq [(rg [⟨some 2, .assign (.const (.bool false)), E.tBool, "", #[], none⟩]),
          .ret])
        .skip)]),
    (rg [⟨some 8, .call { callee := .value (.func N.spec), args := #[], argTypes := #[] }, E.tMsg, "", #[], none⟩,
      ⟨some 4, .alloc E.tMsg, 0, "", #[], none⟩,
      ⟨none, .store E.tMsg (.tmp 4) (.tmp 8), 0, "", #[], none⟩]),
    (rgd [⟨some 9, .move (.tmp 0), E.tU8, "", #[], none⟩,
      ⟨some 10, .move (.tmp 3), E.tInt, "", #[], none⟩,
      ⟨some 11, .call { callee := .value (.func E.lVersion), args := #[(.tmp 9), (.tmp 10)], argTypes := #[E.tU8, E.tInt] }, E.tInt, "", #[⟨0, .data⟩, ⟨1, .data⟩], none⟩,
      ⟨some 12, .call { callee := .value (.func N.implNew), args := #[(.tmp 11)], argTypes := #[E.tInt] }, E.tBytes, "", #[⟨2, .data⟩, ⟨2, .chain⟩], none⟩,
      ⟨some 13, .load E.tMsg (.tmp 4), E.tMsg, "", #[], none⟩,
      ⟨some 14, .move (.tmp 0), E.tU8, "", #[], none⟩,
      ⟨some 15, .move (.tmp 3), E.tInt, "", #[], none⟩,
      ⟨some 16, .call { callee := .value (.func E.lVersion), args := #[(.tmp 14), (.tmp 15)], argTypes := #[E.tU8, E.tInt] }, E.tInt, "", #[⟨5, .data⟩, ⟨6, .data⟩, ⟨3, .chain⟩], none⟩,
      ⟨some 17, .fieldAddr E.tMsg (.tmp 4) 0, 0, "", #[], none⟩,
      ⟨some 18, .load E.tFlds (.tmp 17), E.tFlds, "", #[⟨8, .data⟩], none⟩,
      ⟨some 19, .call { callee := .value (.func E.sDefault), args := #[(.tmp 18)], argTypes := #[E.tFlds] }, E.tTree, "", #[⟨9, .data⟩, ⟨7, .chain⟩], none⟩,
      ⟨some 20, .call { callee := .value (.func E.sWrite), args := #[(.tmp 13), (.tmp 16), (.tmp 19)], argTypes := #[E.tMsg, E.tInt, E.tTree] }, E.tBytes, "", #[⟨4, .data⟩, ⟨7, .data⟩, ⟨10, .data⟩, ⟨10, .chain⟩], none⟩,
      ⟨some 21, .call { callee := .value (.func E.sSame), args := #[(.tmp 12), (.tmp 20)], argTypes := #[E.tBytes, E.tBytes] }, E.tBool, "", #[⟨3, .data⟩, ⟨11, .data⟩, ⟨11, .chain⟩], none⟩,
      ⟨some 2, .assign (.tmp 21), E.tBool, "", #[⟨12, .data⟩, ⟨12, .chain⟩, ⟨0, .phase⟩, ⟨1, .phase⟩, ⟨2, .phase⟩, ⟨3, .phase⟩, ⟨4, .phase⟩, ⟨5, .phase⟩, ⟨6, .phase⟩, ⟨7, .phase⟩, ⟨8, .phase⟩, ⟨9, .phase⟩, ⟨10, .phase⟩, ⟨11, .phase⟩, ⟨12, .phase⟩], none⟩]),
    .ret])

section
variable {P : Program} {E : Env}
theorem c_implMax_ok {m : Msg} {N : MN} {np nt mx : Nat} (i16 : intT P E.tI16 = some .i16) (ii : intT P E.tInt = some .i64) (ht : Text P N.implMax np nt #[.tmp 0] (c_implMax E m N)) (hn : 4 ≤ nt) (hN : NewC P N.newPtr m) (hM : ∀ x w, CallsV P N.maxV #[x] w fun v w' => v = .int .i16 mx ∧ w' = w) (hmx : mx < 32768) (w : World) :
    CallsV P N.implMax #[] w fun v w' => v = .int .i64 mx ∧ Below w.heap.size w w' := by
  refine CallsV.enter ht (by simp) ?_
  intro a hsz hdf harg
  unfold c_implMax
  refine vc_sq (vc_rg (by simp) ?_)
  refine r_assign ?_
  refine dn ?_
  refine vc_sq (vc_rg (by simp) ?_)
  refine r_call' (args := #[]) (by simp) (hN w) ?_
  rintro v w1 ⟨rfl, hb1, _⟩
  refine r_call' (args := #[.pointer (some ⟨w.heap.size, 0, none⟩)]) ?_ (hM _ w1) ?_
  · simp only [List.map_toArray, List.map_cons, List.map_nil]
    simp (disch := (first | omega | (simp only [sP]; omega))) only [eS, eN, eC]
  rintro v w2 ⟨rfl, rfl⟩
  refine r_conv (k := .i16) (k' := .i64) (m := (mx : Int)) i16 ii (by simp (disch := (first | omega | (simp only [sP]; omega))) only [eS, eN, eC]) ?_
  rw [wrap_i64 (by omega) (by omega)]
  refine r_assign ?_
  refine dn ?_
  refine vc_sq (vc_ret ?_)
  exact ⟨by simp only [defers_put]; exact hdf, .int .i64 mx, results_one (by simp (disch := (first | omega | (simp only [sP]; omega))) only [eS, eN, eC]), rfl, hb1⟩
theorem c_implNew_ok {m : Msg} {N : MN} {np nt nps nts npa nta : Nat} (HW : EnvW P E (fun tags => tags = [])) (HI : EnvI P E) (i16 : intT P E.tI16 = some .i16) (ii : intT P E.tInt = some .i64) (o16 : oneT P E.tI16 = true)
    (ht : Text P N.implNew np nt #[.tmp 2] (c_implNew E m N)) (hn : 11 ≤ nt) (hN : NewC P N.newPtr m) (hs : Text P N.setV nps nts #[] (c_setV E m)) (hns : 8 ≤ nts) (ho : fieldOff P m.TU 0 = some 0)
    (ha : Text P N.app npa nta #[.tmp 4] (m.wcode E)) (hna : m.wtop ≤ nta) (hok : m.okW P E = true) (hk : m.kept = false) (hz : m.fs.okZ = true) {ver : Nat} (hv : ver < 32768) (hb : (m.wfs.wr (m.isFlex ver) ver m.wfs.dflt []).length ≤ big) (w : World) :
    CallsV P N.implNew #[.int .i64 ver] w fun v w' => w'.ownsRow w.heap.size E.tU8 1 v (m.wfs.wr (m.isFlex ver) ver m.wfs.dflt []).length ((m.wfs.wr (m.isFlex ver) ver m.wfs.dflt []).map bv) ∧ Below w.heap.size w w' := by
  have hwfs : m.wfs = m.fs := by simp [Msg.wfs, hk]
  have hwi : m.wi = 1 := by simp [Msg.wi, hk]
  refine CallsV.enter ht (by simp; omega) ?_
  intro a hsz hdf harg
  have e0 := harg 0 (.int .i64 ver) (by simp)
  unfold c_implNew
  refine vc_sq (vc_rg (by simp) ?_)
  refine r_assign ?_
  refine dn ?_
  refine vc_sq (vc_rg (by simp) ?_)
  refine r_call' (args := #[]) (by simp) (hN w) ?_
  rintro v w1 ⟨rfl, hb1, hz1, hc1, hf1⟩
  refine r_assign ?_
  refine dn ?_
  refine vc_sq (vc_rg (by simp) ?_)
  refine r_move ?_
  refine r_move ?_
  refine r_conv (k := .i64) (k' := .i16) (m := (ver : Int)) ii i16 (by simp (disch := (first | omega | (simp only [sP]; omega))) only [eS, eN, eC, e0]) ?_
  have hwr : IntKind.i16.wrap (ver : Int) = (ver : Int) := by
    have h2 : (2 : Int) ^ 16 = 65536 := by decide
    have h3 : (2 : Int) ^ (16 - 1) = 32768 := by decide
    simp only [IntKind.wrap, IntKind.bits, IntKind.signed, Bool.true_and, decide_eq_true_eq, h2, h3]
    split <;> omega
  rw [hwr]
  refine r_call' (args := #[.pointer (some ⟨w.heap.size, 0, none⟩), .int .i16 ver]) ?_ (c_setV_ok hs hns ho o16 (hf1 0 (by omega))) ?_
  · simp only [List.map_toArray, List.map_cons, List.map_nil]
    simp (disch := (first | omega | (simp only [sP]; omega))) only [eS, eN, eC]
  rintro v w2 rfl
  refine dn ?_
  have hb2 : Below w.heap.size w (w1.setCell ⟨w.heap.size, 0, none⟩ (.int .i16 ver)) := hb1.setCell (p := ⟨w.heap.size, 0, none⟩) (Nat.le_refl _) _
  have hv2 : (w1.setCell ⟨w.heap.size, 0, none⟩ (.int .i16 ver)).cell? ⟨w.heap.size, 0, none⟩ = some (.int .i16 ver) := cell_setCell_same _ (hf1 0 (by omega)).1
  have hc2 : Cells (w1.setCell ⟨w.heap.size, 0, none⟩ (.int .i16 ver)) w.heap.size (0 + m.wi) m.wfs.dz := by
    intro i v hv
    rw [cell_setCell_ne _ (.inr (by rw [hwi]; omega))]
    rw [hwi]
    rw [hwfs] at hv
    exact hc1.dp (n := 1) i v hv
  have hz2 : w.heap.size ≤ (w1.setCell ⟨w.heap.size, 0, none⟩ (.int .i16 ver)).heap.size := hb2.size
  generalize w1.setCell ⟨w.heap.size, 0, none⟩ (.int .i16 ver) = W at *
  refine vc_sq (vc_rg (by simp) ?_)
  refine r_move ?_
  refine r_call' (args := #[.pointer (some ⟨w.heap.size, 0, none⟩), .slice none 0 0]) ?_ (appendTo (sb := ⟨0, fun tags => tags = []⟩) (B := 0) HW HI ha hna hok hv2 hc2 (Flds.dz_rep rfl m.wfs 0 (by rw [hwfs]; exact hz)) hb) ?_
  · simp only [List.map_toArray, List.map_cons, List.map_nil]
    simp (disch := (first | omega | (simp only [sP]; omega))) only [eS, eN, eC]
  rintro v w3 ⟨h3, hb3⟩
  refine r_assign ?_
  refine dn ?_
  refine vc_sq (vc_ret ?_)
  exact ⟨by simp only [defers_put]; exact hdf, v, results_one (by simp (disch := (first | omega | (simp only [sP]; omega))) only [eS, eN, eC]), own_mono h3 hz2, hb2.trans (hb3.mono hz2)⟩

set_option maxHeartbeats 1000000 in
theorem c_lawNew_ok (H : SEnv P E) (HL : SLay P E) (HT : STexts P E) (hz8 : zeroT P E.tU8 = some (.int .u8 0)) (hL3 : oneField P E.tTree 3 3 = true) (hoM : offs P E.tMsg 2 = true) (hM : aggT P E.tMsg = some 2)
    (hver : Text P E.lVersion 2 10 #[.tmp 4] (c_lVersion E)) {N : MN} {np nt mx : Nat} {fs : SFs} {flex : Int} {bs : Nat → List UInt8} (ht : Text P N.law np nt #[.tmp 2] (c_lawNew E N)) (hn : 22 ≤ nt)
    (hMax : ∀ w, CallsV P N.implMax #[] w fun v w' => v = .int .i64 mx ∧ Below w.heap.size w w') (hmx : mx < 32768) (hSpec : SpecC P N.spec fs flex) (hg : fs.good = true) (hl : fs.len ≤ 65536)
    (hNew : ∀ ver : Nat, ver ≤ mx → ∀ w, CallsV P N.implNew #[.int .i64 ver] w fun v w' => w'.ownsRow w.heap.size E.tU8 1 v (bs ver).length ((bs ver).map bv) ∧ Below w.heap.size w w')
    (hpure : ∀ ver : Nat, ver ≤ mx → fs.part ver (decide (flex ≥ 0) && decide ((ver : Int) ≥ flex)) fs.dflt = bs ver) (hbig : ∀ ver : Nat, ver ≤ mx → (bs ver).length ≤ big) {n : Nat} (hn8 : n < 256) (w : World) :
    CallsV P N.law #[.int .u8 n] w fun v w' => v = .bool true ∧ Below w.heap.size w w' := by
  refine CallsV.enter ht (by simp; omega) ?_
  intro a hsz hdf harg
  have e0 := harg 0 (.int .u8 n) (by simp)
  obtain ⟨z, hz, hzc⟩ := lays_zero HL.msg
  unfold c_lawNew
  refine vc_sq (vc_rg (by simp) ?_)
  refine r_assign ?_
  refine dn ?_
  refine vc_sq (vc_rg (by simp) ?_)
  refine r_call' (args := #[]) (by simp) (hMax w) ?_
  rintro v w1 ⟨rfl, hb1⟩
  refine r_assign ?_
  refine dn ?_
  refine vc_sq (vc_sq (vc_rg (by simp) ?_))
  refine r_move ?_
  refine r_lss (k := .i64) (m := (mx : Int)) (n := 0) (by simp (disch := (first | omega | (simp only [sP]; omega))) only [eS, eN, eC]) rfl ?_
  refine dn ?_
  refine vc_sq (vc_cond (t := false) ?_ (fun h => by cases h) ?_)
  · simp (disch := (first | omega | (simp only [sP]; omega))) only [eS, eN, eC]
    simp only [Value.bool.injEq, decide_eq_false_iff_not]
    omega
  intro _
  refine vc_skip (vc_sq_nil ?_)
  refine vc_sq (vc_rg (by simp) ?_)
  refine r_call' (args := #[]) (by simp) (hSpec w1) ?_
  rintro v w2 ⟨sv, rfl, hsl, hb2⟩
  refine r_alloc hz ?_
  have hsv1 : sv.oneCell' = true := by rcases hsl with ⟨rfl, _⟩ | ⟨q, o, cap, rfl, _⟩ <;> rfl
  refine r_storeAgg (b := w2.heap.size) (o := 0) (cs := [sv, .int .i64 flex]) (by simp (disch := (first | omega | (simp only [sP]; omega))) only [eS, eN, eC]) (by simp (disch := (first | omega | (simp only [sP]; omega))) only [eS, eN, eC]) (by intro v hv; simp only [List.mem_cons, List.not_mem_nil, or_false] at hv; rcases hv with rfl | rfl; exact hsv1; rfl) hM ?_ ?_
  · intro j hj
    rw [Nat.zero_add]
    exact free_new w2 _ _ (by rw [hzc]; simpa using hj)
  refine dn ?_
  have hcell : Cells (setCells (w2.alloc (.cells z.cells E.tMsg)) w2.heap.size 0 [sv, .int .i64 flex]) w2.heap.size 0 [sv, .int .i64 flex] := by
    intro j v hv
    refine setCells_cell w2.heap.size _ _ 0 (fun j hj => ?_) j _ hv
    rw [Nat.zero_add]
    exact (free_new w2 z.cells E.tMsg (by rw [hzc]; simpa using hj)).1
  have hb3 : Below w2.heap.size w2 (setCells (w2.alloc (.cells z.cells E.tMsg)) w2.heap.size 0 [sv, .int .i64 flex]) := by
    refine ((Below.refl w2.heap.size w2).alloc (o := .cells _ _) (Nat.le_refl _)).trans ((setCells_eff w2.heap.size _ _ 0).below (by simp) (by rintro k i hk ⟨rfl, _, _⟩; omega))
  have hz3 : w2.heap.size < (setCells (w2.alloc (.cells z.cells E.tMsg)) w2.heap.size 0 [sv, .int .i64 flex]).heap.size := by
    have := (setCells_eff w2.heap.size [sv, .int .i64 flex] (w2.alloc (.cells z.cells E.tMsg)) 0).size
    simp at this
    omega
  generalize setCells (w2.alloc (.cells z.cells E.tMsg)) w2.heap.size 0 [sv, .int .i64 flex] = W at hcell hb3 hz3 ⊢
  have hslW : SlF W W.heap.size sv fs := (hsl.below hb3).mono hb3.size
  have hbW : Below w.heap.size w W := (hb1.trans (hb2.mono hb1.size)).trans (hb3.mono (Nat.le_trans hb1.size hb2.size))
  generalize hbm : w2.heap.size = bm at *
  generalize hG : Act.put _ (some 4) _ = G
  have hsG : G.tmps.size = nt := by rw [← hG]; simp only [size_put]; exact hsz
  have hdG : G.defers = [] := by rw [← hG]; simp only [defers_put]; exact hdf
  have k0 : G.eval (.tmp 0) = .int .u8 n := by rw [← hG]; simp (disch := (first | omega | (simp only [sP]; omega))) only [eS, eN, eC, e0]
  have k3 : G.eval (.tmp 3) = .int .i64 mx := by rw [← hG]; simp (disch := (first | omega | (simp only [sP]; omega))) only [eS, eN, eC]
  have k4 : G.eval (.tmp 4) = .pointer (some ⟨bm, 0, none⟩) := by rw [← hG]; simp (disch := (first | omega | (simp only [sP]; omega))) only [eS, eN, eC]
  clear hG
  have hvle : n % (mx + 1) ≤ mx := by have := Nat.mod_lt n (show mx + 1 > 0 by omega); omega
  have hp := hpure _ hvle
  have hbg := hbig _ hvle
  have hbd : Below W.heap.size W { W with drawn := W.drawn + 1 } := ⟨rfl, rfl, rfl, Nat.le_refl _, fun _ _ => rfl⟩
  have mkS : ∀ w', Below W.heap.size W w' → Cells w' bm 0 [sv, .int .i64 flex] := fun w' h => hcell.below h hz3
  have hS := mkS _ hbd
  refine vc_sq (vc_rgd [(0, true), (1, true), (4, true), (5, true), (6, true), (8, true), (9, true), (2, false), (3, false), (7, false), (10, false), (11, false), (12, false), (13, true)] (fun W' => Cells W' bm 0 [sv, .int .i64 flex]) HT.mixed (by kernel_rfl) rfl (by kernel_rfl) (fun _ _ _ _ h => False.elim h) ?_)
  refine d_pure rfl rfl rfl (wants_none rfl) (by simp only [size_put, hsG]; omega) hS (fun w' hS' => r_move (dn ⟨rfl, rfl, rfl⟩)) ?_
  refine d_pure rfl rfl rfl (wants_none rfl) (by simp only [size_put, hsG]; omega) hS (fun w' hS' => r_move (dn ⟨rfl, rfl, rfl⟩)) ?_
  refine d_pure rfl rfl rfl (wants_none rfl) (by simp only [size_put, hsG]; omega) hS (fun w' hS' => r_loadAgg (b := bm) (o := 0) (cs := [sv, .int .i64 flex]) (by simp (disch := (first | omega | (simp only [sP]; omega))) only [eS, eN, eC, k4]) hM hS' (dn ⟨rfl, rfl, rfl⟩)) ?_
  refine d_pure rfl rfl rfl (wants_none rfl) (by simp only [size_put, hsG]; omega) hS (fun w' hS' => r_move (dn ⟨rfl, rfl, rfl⟩)) ?_
  refine d_pure rfl rfl rfl (wants_none rfl) (by simp only [size_put, hsG]; omega) hS (fun w' hS' => r_move (dn ⟨rfl, rfl, rfl⟩)) ?_
  refine d_pure rfl rfl rfl (wants_none rfl) (by simp only [size_put, hsG]; omega) hS (fun w' hS' => r_field (b := bm) (o := 0) (by simp (disch := (first | omega | (simp only [sP]; omega))) only [eS, eN, eC, k4]) (offs_inv hoM (by decide)) (dn ⟨rfl, rfl, rfl⟩)) ?_
  refine d_pure rfl rfl rfl (wants_none rfl) (by simp only [size_put, hsG]; omega) hS (fun w' hS' => r_load (b := bm) (o := 0 + 0) (v := sv) (by (try simp (disch := (first | omega | (simp only [sP]; omega))) only [eS, eN, eC]) <;> (first | rfl | assumption)) H.oFlds (hS' 0 sv rfl) (dn ⟨rfl, rfl, rfl⟩)) ?_
  refine d_sole rfl (wants_none rfl) ?_
  refine r_call' (args := #[.int .u8 n, .int .i64 mx]) ?_ (s_version hver H.u8 H.int hn8 hmx) ?_
  · simp only [List.map_toArray, List.map_cons, List.map_nil]
    simp (disch := (first | omega | (simp only [sP]; omega))) only [eS, eN, eC, k0, k3]
  rintro v3 w3 ⟨rfl, rfl⟩
  refine dn (d_then hS ?_)
  refine d_sole rfl (wants_none rfl) ?_
  generalize hvv : n % (mx + 1) = ver at *
  refine r_call' (args := #[.int .i64 ver]) ?_ (hNew ver hvle { W with drawn := W.drawn + 1 }) ?_
  · simp only [List.map_toArray, List.map_cons, List.map_nil]
    simp (disch := (first | omega | (simp only [sP]; omega))) only [eS, eN, eC]
  rintro v4 w4 ⟨h4, hb4⟩
  have hbW4 : Below W.heap.size W w4 := hbd.trans hb4
  refine dn (d_then (mkS _ hbW4) ?_)
  refine d_sole rfl (wants_none rfl) ?_
  refine r_call' (args := #[.int .u8 n, .int .i64 mx]) ?_ (s_version hver H.u8 H.int hn8 hmx) ?_
  · simp only [List.map_toArray, List.map_cons, List.map_nil]
    simp (disch := (first | omega | (simp only [sP]; omega))) only [eS, eN, eC, k0, k3]
  rintro v5 w5 ⟨rfl, rfl⟩
  rw [hvv]
  refine dn (d_then (mkS _ hbW4) ?_)
  refine d_sole rfl (wants_none rfl) ?_
  have hslw4 : SlF w5 w5.heap.size sv fs := (hslW.below hbW4).mono hbW4.size
  refine r_call' (args := #[sv]) ?_ (dfltC H HL HT hL3 hg hl w5 sv hslw4) ?_
  · simp only [List.map_toArray, List.map_cons, List.map_nil]
    simp (disch := (first | omega | (simp only [sP]; omega))) only [eS, eN, eC]
  rintro v6 w6 ⟨c6, rfl, hr6, hb6⟩
  have hbW6 : Below W.heap.size W w6 := hbW4.trans (hb6.mono hbW4.size)
  refine dn (d_then (mkS _ hbW6) ?_)
  refine d_sole rfl (wants_none rfl) ?_
  have hr6' : fs.dflt.Rep w6 w6.heap.size c6 := hr6.rep (fun q h => h.2)
  have hslw6 : SlF w6 w6.heap.size sv fs := (hslw4.below hb6).mono hb6.size
  refine r_call' (args := #[.agg [sv, .int .i64 flex].toArray, .int .i64 ver, .agg c6.toArray]) ?_ (s_write (ver := (ver : Int)) (flex := flex) (t := fs.dflt) H HL HT hoM hslw6 hr6' (Nat.le_refl _) (partC H HL HT hz8 hg hl) (by rw [hp]; exact hbg)) ?_
  · simp only [List.map_toArray, List.map_cons, List.map_nil]
    simp (disch := (first | omega | (simp only [sP]; omega))) only [eS, eN, eC]
  rintro v7 w7 ⟨h7, hb7⟩
  rw [hp] at h7
  have hbW7 : Below W.heap.size W w7 := hbW6.trans (hb7.mono hbW6.size)
  refine dn (d_then (mkS _ hbW7) ?_)
  refine d_sole rfl (wants_none rfl) ?_
  have h47 := own_below (own_below h4 hb6) hb7
  refine r_call' (args := #[v4, v7]) ?_ (s_same (U := w7.heap.size) H HT.mixed HT.same (RowB.of_own h47) (RowB.of_own h7) hbg hbg) ?_
  · simp only [List.map_toArray, List.map_cons, List.map_nil]
    simp (disch := (first | omega | (simp only [sP]; omega))) only [eS, eN, eC]
  rintro v8 w8 ⟨rfl, hb8⟩
  have hbW8 : Below W.heap.size W w8 := hbW7.trans (hb8.mono hbW7.size)
  refine dn (d_then (mkS _ hbW8) ?_)
  refine d_pure rfl rfl rfl (wants_none rfl) (by simp only [size_put, hsG]; omega) (mkS _ hbW8) (fun w' hS' => r_assign (dn ⟨rfl, rfl, rfl⟩)) ?_
  refine d_nil ?_
  refine vc_sq (vc_ret ?_)
  refine ⟨by simp only [defers_put]; exact hdG, .bool true, results_one ?_, rfl, hbW.trans (hbW8.mono hbW.size)⟩
  simp (disch := (first | omega | (simp only [sP]; omega))) only [eS, eN, eC]
  simp
end
end Go.Km
