/- The laws 'what ends early is an error': the law's body. -/
import Derived.Test.YticdohpbambelaaGreatDoorKc01
set_option linter.unusedSimpArgs false
set_option linter.unusedVariables false
namespace Go.Km
open Go Go.RowKit
section
variable {P : Program} {a : Act} {w : World} {Q : Exit → Act → World → Prop} {ops : List Oper} {S : World → Prop}
theorem d_extract {i d k : Nat} {x : Operand} {ty : TypeId} {p af g} {vs : Array Value} {v : Value} {r : List (Nat × Bool)} (ho : ops[i]? = some ⟨some d, .extract x k, ty, p, af, g⟩) (hw : wants ops a ⟨some d, .extract x k, ty, p, af, g⟩ = true) (hx : a.eval x = .tuple vs) (hv : vs[k]? = some v) (hS : S w)
  (h : runD P ops Q S r (a.put (some d) v) w) : runD P ops Q S ((i, true) :: r) a w :=
 ⟨_, v, ho, .inl ⟨hw, fun w' _ => by simp [execOp, hx, hv, Instr.extract]⟩, hS, h⟩
end
attribute [local irreducible] vc rO_ runG runS runD
section
variable {P : Program} {E : Env}
set_option maxHeartbeats 2000000 in
theorem c_cutL_ok {A : ML} {m : Msg} {fs : SFs} {flex : Int} {mx : Nat} (L : LawT P E A m fs flex mx) (S : Spd m fs flex mx) {np nt : Nat} (ht : Text P A.law np nt #[.tmp 6] (c_cutL E A)) (hn : 56 ≤ nt)
  (hu16 : intT P E.tU16 = some .u16) {n at' : Nat} (hn8 : n < 256) (hat : at' < 65536) {t : Tr} {ts : List Value} {ev : Value} {W : World} (hr : t.Rep W W.heap.size ts) (htk : t.tok) (hsm : t.small) (hbig : ∀ ver : Nat, ver ≤ mx → (fs.part ver (m.isFlex ver) t).length ≤ big)
  (he : W.cell? ⟨E.vErr, 0, none⟩ = some ev) (hev : ∃ u z, ev = .iface u z) : CallsV P A.law #[.int .u8 n, .agg ts.toArray, .int .u16 at'] W fun v w' => v = .bool true ∧ Below W.heap.size W w' := by
 have hevlt := lt_of_cell he
 have hmx := S.mx
 have H := L.se
 refine CallsV.enter ht (by simp; omega) ?_
 intro a hsz hdf harg
 have e0 := harg 0 (.int .u8 n) (by simp)
 have e1 := harg 1 (.agg ts.toArray) (by simp)
 have e2 := harg 2 (.int .u16 at') (by simp)
 unfold c_cutL
 refine vX ?_
 refine r_box (v := .agg ts.toArray) (by simp (disch := (try simp only [sP]); omega) only [eV, e1]) ?_
 refine rA (dn ?_)
 have hb0 : Below W.heap.size W (W.alloc (.cells (Value.agg ts.toArray).cells E.tT)) := (Below.refl _ W).alloc (o := .cells _ _) (Nat.le_refl _)
 have hbc : Cells (W.alloc (.cells (Value.agg ts.toArray).cells E.tT)) W.heap.size 0 ts := by
  intro j v hv
  rw [Nat.zero_add]
  exact cells_new W _ E.tT (by simpa [Value.cells] using hv)
 have hz0 : W.heap.size < (W.alloc (.cells (Value.agg ts.toArray).cells E.tT)).heap.size := by simp
 generalize W.alloc (.cells (Value.agg ts.toArray).cells E.tT) = w0 at *
 have haT : aggT P E.tT = some ts.length := by rw [hr.len]; exact H.aTree
 refine vS (vX ?_)
 refine r_loadAgg (b := W.heap.size) (o := 0) (cs := ts) (by simp (disch := (try simp only [sP]); omega) only [eV]) haT hbc ?_
 refine r_call' (args := #[.agg ts.toArray]) ?_ (fits2_ok H L.f4 L.f3 L.f2 (hr.below hb0) hb0.size hsm) ?_
 ·simp only [lM]
  simp (disch := (try simp only [sP]); omega) only [eV]
 rintro v w1 ⟨⟨bf, rfl⟩, hb1⟩
 have hb01 : Below W.heap.size W w1 := hb0.trans (hb1.mono hb0.size)
 refine r_not (b := bf) (by simp (disch := (try simp only [sP]); omega) only [eV]) ?_
 refine dn ?_
 refine vS (vC (t := !bf) (by simp (disch := (try simp only [sP]); omega) only [eV]) ?_ ?_)
 ·intro h
  refine vX (rA (dn (vS (vT ?_))))
  exact ⟨by simp only [dF]; exact hdf, .bool true, rO (by simp (disch := (try simp only [sP]); omega) only [eV]), rfl, hb01⟩
 intro _
 refine vK (vN (vX ?_))
 refine r_call' (args := #[]) (by simp) (L.max w1) ?_
 rintro v w2 ⟨rfl, hb2⟩
 refine rA (dn ?_)
 have hb02 : Below W.heap.size W w2 := hb01.trans (hb2.mono hb01.size)
 have hbc2 : Cells w2 W.heap.size 0 ts := (hbc.below hb1 hz0).below hb2 (Nat.lt_of_lt_of_le hz0 hb1.size)
 have hz2 : W.heap.size < w2.heap.size := Nat.lt_of_lt_of_le hz0 (Nat.le_trans hb1.size hb2.size)
 refine vS (vX (rM ?_))
 refine r_lss (k := .i64) (m := (mx : Int)) (n := 0) (by simp (disch := (try simp only [sP]); omega) only [eV]) rfl ?_
 refine dn ?_
 refine vS (vC (t := false) ?_ (fun h => by cases h) ?_)
 ·simp (disch := (try simp only [sP]); omega) only [eV]
  simp only [Value.bool.injEq, decide_eq_false_iff_not]
  omega
 intro _
 refine vK (vN ?_)
 generalize hG : Act.put _ (some 18) _ = G
 have hsG : G.tmps.size = nt := by rw [← hG]; simp only [zP]; exact hsz
 have hdG : G.defers = [] := by rw [← hG]; simp only [dF]; exact hdf
 have k0 : G.eval (.tmp 0) = .int .u8 n := by rw [← hG]; simp (disch := (try simp only [sP]); omega) only [eV, e0]
 have k2 : G.eval (.tmp 2) = .int .u16 at' := by rw [← hG]; simp (disch := (try simp only [sP]); omega) only [eV, e2]
 have k4 : G.eval (.tmp 4) = .pointer (some ⟨W.heap.size, 0, none⟩) := by rw [← hG]; simp (disch := (try simp only [sP]); omega) only [eV]
 have k7 : G.eval (.tmp 7) = .int .i64 mx := by rw [← hG]; simp (disch := (try simp only [sP]); omega) only [eV]
 clear hG
 have hvle : n % (mx + 1) ≤ mx := by have := Nat.mod_lt n (show mx + 1 > 0 by omega); omega
 have hbd : Below w2.heap.size w2 { w2 with drawn := w2.drawn + 1 } := ⟨rfl, rfl, rfl, Nat.le_refl _, fun _ _ => rfl⟩
 have mkS : ∀ w', Below w2.heap.size w2 w' → Cells w' W.heap.size 0 ts := fun w' h => hbc2.below h hz2
 have hS := mkS _ hbd
 refine vS (vc_rgd [(1, true), (2, true), (4, true), (0, false), (3, false), (5, false), (6, true)] (fun W' => Cells W' W.heap.size 0 ts) L.st.mixed (by kernel_rfl) rfl (by kernel_rfl) (fun _ _ _ _ h => False.elim h) ?_)
 refine dP rfl rfl rfl (wN rfl) (by simp only [zP, hsG]; omega) hS (fun w' hS' => rM (dn ⟨rfl, rfl, rfl⟩)) ?_
 refine dP rfl rfl rfl (wN rfl) (by simp only [zP, hsG]; omega) hS (fun w' hS' => rM (dn ⟨rfl, rfl, rfl⟩)) ?_
 refine dP rfl rfl rfl (wN rfl) (by simp only [zP, hsG]; omega) hS (fun w' hS' => r_loadAgg (b := W.heap.size) (o := 0) (cs := ts) (by simp (disch := (try simp only [sP]); omega) only [eV, k4]) haT hS' (dn ⟨rfl, rfl, rfl⟩)) ?_
 refine d_sole rfl (wN rfl) ?_
 refine r_call' (args := #[]) (by simp) (L.spec _) ?_
 rintro v w3 ⟨sv, rfl, hsl, hb3⟩
 have hb23 : Below w2.heap.size w2 w3 := hbd.trans hb3
 refine dn (d_then (mkS _ hb23) ?_)
 refine d_sole rfl (wN rfl) ?_
 refine r_call' (args := #[.int .u8 n, .int .i64 mx]) ?_ (s_version L.ver H.u8 H.int hn8 hmx) ?_
 ·simp only [lM]
  simp (disch := (try simp only [sP]); omega) only [eV, k0, k7]
 rintro v4 w4 ⟨rfl, rfl⟩
 refine dn (d_then (mkS _ hb23) ?_)
 refine d_sole rfl (wN rfl) ?_
 generalize hvv : n % (mx + 1) = ver at *
 have hbg := hbig ver hvle
 have hfx := S.fx ver hvle
 rw [hfx] at hbg
 have hb04 : Below W.heap.size W w4 := hb02.trans (hb23.mono hb02.size)
 have hr4 : t.Rep w4 w4.heap.size ts := (hr.below hb04).mono hb04.size
 refine r_call' (args := #[.agg [sv, .int .i64 flex].toArray, .int .i64 ver, .agg ts.toArray]) ?_ (s_write (ver := (ver : Int)) (flex := flex) (t := t) H L.sl L.st L.hoM hsl hr4 (Nat.le_refl _) (partC H L.sl L.st L.hz8 S.good S.len) hbg) ?_
 ·simp only [lM]
  simp (disch := (try simp only [sP]); omega) only [eV]
 rintro bv5 w5 ⟨hown, hb5⟩
 rw [← hfx] at hown hbg
 have hpw := part_wr (fx := m.isFlex ver) (ver := ver) S.agr t
 have hgood := part_good (fx := m.isFlex ver) (ver := ver) S.agr htk
 have hback : m.back ver (fs.part ver (m.isFlex ver) t) = some (fs.part ver (m.isFlex ver) t) := by
  rw [hpw]
  exact back_wr S.kept (lpB_at S.lp hvle) hgood
 generalize fs.part ver (m.isFlex ver) t = bs at *
 have hb25 : Below w2.heap.size w2 w5 := hb23.trans (hb5.mono hb23.size)
 have hb05 : Below W.heap.size W w5 := hb02.trans (hb25.mono hb02.size)
 refine dn (d_then (mkS _ hb25) ?_)
 refine dP rfl rfl rfl (wN rfl) (by simp only [zP, hsG]; omega) (mkS _ hb25) (fun w' hS' => rA (dn ⟨rfl, rfl, rfl⟩)) ?_
 refine d_nil ?_
 generalize hG2 : Act.put _ (some 8) _ = G2
 have hsG2 : G2.tmps.size = nt := by rw [← hG2]; simp only [zP]; exact hsG
 have hdG2 : G2.defers = [] := by rw [← hG2]; simp only [dF]; exact hdG
 have k0 : G2.eval (.tmp 0) = .int .u8 n := by rw [← hG2]; simp (disch := (try simp only [sP]); omega) only [eV, k0]
 have k2 : G2.eval (.tmp 2) = .int .u16 at' := by rw [← hG2]; simp (disch := (try simp only [sP]); omega) only [eV, k2]
 have k7 : G2.eval (.tmp 7) = .int .i64 mx := by rw [← hG2]; simp (disch := (try simp only [sP]); omega) only [eV, k7]
 have k8 : G2.eval (.tmp 8) = bv5 := by rw [← hG2]; simp (disch := (try simp only [sP]); omega) only [eV]
 clear hG2
 have hrow : RowB w5 bv5 bs := RowB.of_own hown
 have he5 : w5.cell? ⟨E.vErr, 0, none⟩ = some ev := by rw [hb05.cell (p := ⟨E.vErr, 0, none⟩) hevlt]; exact he
 refine vX (rM (rM ?_))
 refine r_call' (args := #[.int .u8 n, .int .i64 mx]) ?_ (s_version L.ver H.u8 H.int hn8 hmx) ?_
 ·simp only [lM]
  simp (disch := (try simp only [sP]); omega) only [eV, k0, k7]
 rintro v6 w6 ⟨rfl, rfl⟩
 rw [hvv]
 refine rM ?_
 refine r_call' (args := #[.int .i64 ver, bv5]) ?_ (L.again ver bs bv5 ev w6 hvle (hrow.bytesIn H.row) hbg he5 hev) ?_
 ·simp only [lM]
  simp (disch := (try simp only [sP]); omega) only [eV, k8]
 rintro r w7 ⟨hb7, hr7⟩
 rw [hback] at hr7
 obtain ⟨y, rfl, hy⟩ := hr7
 refine rM ?_
 refine r_extract (vs := #[y, .bool true]) (v := y) (by simp (disch := (try simp only [sP]); omega) only [eV]) rfl ?_
 refine r_extract (vs := #[y, .bool true]) (v := .bool true) (by simp (disch := (try simp only [sP]); omega) only [eV]) rfl ?_
 refine rA (rA (dn ?_))
 generalize hG3 : Act.put _ (some 10) _ = G3
 have hsG3 : G3.tmps.size = nt := by rw [← hG3]; simp only [zP]; exact hsG2
 have hdG3 : G3.defers = [] := by rw [← hG3]; simp only [dF]; exact hdG2
 have k0 : G3.eval (.tmp 0) = .int .u8 n := by rw [← hG3]; simp (disch := (try simp only [sP]); omega) only [eV, k0]
 have k2 : G3.eval (.tmp 2) = .int .u16 at' := by rw [← hG3]; simp (disch := (try simp only [sP]); omega) only [eV, k2]
 have k7 : G3.eval (.tmp 7) = .int .i64 mx := by rw [← hG3]; simp (disch := (try simp only [sP]); omega) only [eV, k7]
 have k8 : G3.eval (.tmp 8) = bv5 := by rw [← hG3]; simp (disch := (try simp only [sP]); omega) only [eV, k8]
 have k10 : G3.eval (.tmp 10) = .bool true := by rw [← hG3]; simp (disch := (try simp only [sP]); omega) only [eV]
 clear hG3
 have hb07 : Below W.heap.size W w7 := hb05.trans (hb7.mono hb05.size)
 obtain ⟨ad, cap, hbv⟩ := hrow.form
 refine vS (vX (rM ?_))
 refine r_len (ad := ad) (n := bs.length) (c := cap) (rB H.row) (by simp (disch := (try simp only [sP]); omega) only [eV, k8, hbv]) ?_
 refine r_eql (k := .i64) (m := (bs.length : Int)) (n := 0) (by simp (disch := (try simp only [sP]); omega) only [eV]) rfl ?_
 refine dn ?_
 refine vS (vC (t := ((bs.length : Int) == 0)) (by simp (disch := (try simp only [sP]); omega) only [eV]) ?_ ?_)
 ·intro _
  refine vX (rM (rA (dn (vS (vT ?_)))))
  refine ⟨by simp only [dF]; exact hdG3, .bool true, rO ?_, rfl, hb07⟩
  simp (disch := (try simp only [sP]); omega) only [eV, k10]
 intro h0
 have hpos : 0 < bs.length := by
  rcases Nat.eq_zero_or_pos bs.length with h | h
  ·rw [h] at h0; simp at h0
  ·exact h
 refine vK (vN ?_)
 obtain ⟨g, cap, rfl, hcap⟩ : ∃ g cap, bv5 = .slice (some ⟨g, 0, none⟩) bs.length cap ∧ bs.length ≤ cap := by
  rcases hown.2 with ⟨_, h⟩ | ⟨g, cap, cur, h1, _, _, h2, _⟩
  ·omega
  ·exact ⟨g, cap, h1, h2⟩
 have hcs5 : Cells w6 g 0 (bs.map bv) := by
  intro j u hu
  have := hown.cells (g := g) rfl j u hu
  rwa [Addr.add_lit] at this
 have hklt : at' % bs.length < bs.length := Nat.mod_lt _ hpos
 have hcut : m.back ver (bs.take (at' % bs.length)) = none := by
  rw [hpw]
  rw [hpw] at hklt
  exact back_cut S.kept (lpB_at S.lp hvle) hgood hklt
 generalize hkk : at' % bs.length = kk at *
 have hrowk : RowB w6 (.slice (some ⟨g, 0, none⟩) kk cap) (bs.take kk) := by
  refine .inr ⟨g, 0, cap, by rw [List.length_take]; congr 1; omega, ?_⟩
  rw [List.map_take]
  exact hcs5.take kk
 have htl : (bs.take kk).length ≤ big := by rw [List.length_take]; omega
 clear hpw hgood
 generalize hG4 : Act.put _ (some 35) _ = G4
 have hsG4 : G4.tmps.size = nt := by rw [← hG4]; simp only [zP]; exact hsG3
 have hdG4 : G4.defers = [] := by rw [← hG4]; simp only [dF]; exact hdG3
 have k0 : G4.eval (.tmp 0) = .int .u8 n := by rw [← hG4]; simp (disch := (try simp only [sP]); omega) only [eV, k0]
 have k2 : G4.eval (.tmp 2) = .int .u16 at' := by rw [← hG4]; simp (disch := (try simp only [sP]); omega) only [eV, k2]
 have k7 : G4.eval (.tmp 7) = .int .i64 mx := by rw [← hG4]; simp (disch := (try simp only [sP]); omega) only [eV, k7]
 have k8 : G4.eval (.tmp 8) = .slice (some ⟨g, 0, none⟩) bs.length cap := by rw [← hG4]; simp (disch := (try simp only [sP]); omega) only [eV, k8]
 have k10 : G4.eval (.tmp 10) = .bool true := by rw [← hG4]; simp (disch := (try simp only [sP]); omega) only [eV, k10]
 clear hG4
 have hbd7 : Below w7.heap.size w7 { w7 with drawn := w7.drawn + 1 } := ⟨rfl, rfl, rfl, Nat.le_refl _, fun _ _ => rfl⟩
 have he7 : World.cell? { w7 with drawn := w7.drawn + 1 } ⟨E.vErr, 0, none⟩ = some ev := by
  show w7.cell? ⟨E.vErr, 0, none⟩ = some ev
  rw [hb07.cell (p := ⟨E.vErr, 0, none⟩) hevlt]; exact he
 have hT : (fun _ : World => True) { w7 with drawn := w7.drawn + 1 } := trivial
 have hsl := rB H.row
 refine vS (vc_rgd [(0, true), (1, true), (3, true), (4, true), (5, true), (6, true), (7, true), (8, true), (9, true), (2, false), (10, false), (11, true), (12, true), (13, true), (14, true), (15, true)] (fun _ => True) L.st.mixed (by kernel_rfl) rfl (by kernel_rfl) (fun _ _ _ _ h => False.elim h) ?_)
 refine dP rfl rfl rfl (wN rfl) (by simp only [zP, hsG4]; omega) hT (fun w' _ => rM (dn ⟨rfl, rfl, rfl⟩)) ?_
 refine dP rfl rfl rfl (wN rfl) (by simp only [zP, hsG4]; omega) hT (fun w' _ => rM (dn ⟨rfl, rfl, rfl⟩)) ?_
 refine dP rfl rfl rfl (wN rfl) (by simp only [zP, hsG4]; omega) hT (fun w' _ => rM (dn ⟨rfl, rfl, rfl⟩)) ?_
 refine dP rfl rfl rfl (wN rfl) (by simp only [zP, hsG4]; omega) hT (fun w' _ => rM (dn ⟨rfl, rfl, rfl⟩)) ?_
 refine dP (v := .int .i64 (at' : Int)) rfl rfl rfl (wN rfl) (by simp only [zP, hsG4]; omega) hT (fun w' _ => r_conv (k := .u16) (k' := .i64) (m := (at' : Int)) hu16 H.int (by simp (disch := (try simp only [sP]); omega) only [eV, k2]) (by rw [wrap_i64 (by omega) (by omega)]; exact dn ⟨rfl, rfl, rfl⟩)) ?_
 refine dP rfl rfl rfl (wN rfl) (by simp only [zP, hsG4]; omega) hT (fun w' _ => rM (dn ⟨rfl, rfl, rfl⟩)) ?_
 refine dP rfl rfl rfl (wN rfl) (by simp only [zP, hsG4]; omega) hT (fun w' _ => r_len (ad := some ⟨g, 0, none⟩) (n := bs.length) (c := cap) hsl (by simp (disch := (try simp only [sP]); omega) only [eV, k8]) (dn ⟨rfl, rfl, rfl⟩)) ?_
 refine dP (v := .int .i64 (kk : Int)) rfl rfl rfl (wN rfl) (by simp only [zP, hsG4]; omega) hT (fun w' _ => r_rem (k := .i64) (m := (at' : Int)) (n := (bs.length : Int)) (by simp (disch := (try simp only [sP]); omega) only [eV]) (by simp (disch := (try simp only [sP]); omega) only [eV]) (by omega) (by rw [show (at' : Int).tmod (bs.length : Int) = (kk : Int) by rw [← hkk]; rfl]; exact dn ⟨rfl, rfl, rfl⟩)) ?_
 refine dP rfl rfl rfl (wN rfl) (by simp only [zP, hsG4]; omega) hT (fun w' _ => r_sliceTo (k := .i64) (h := kk) (len := bs.length) (cap := cap) (ad := some ⟨g, 0, none⟩) hsl (by simp (disch := (try simp only [sP]); omega) only [eV, k8]) (by simp (disch := (try simp only [sP]); omega) only [eV]) (by omega) (dn ⟨rfl, rfl, rfl⟩)) ?_
 refine d_sole rfl (wN rfl) ?_
 refine r_call' (args := #[.int .u8 n, .int .i64 mx]) ?_ (s_version L.ver H.u8 H.int hn8 hmx) ?_
 ·simp only [lM]
  simp (disch := (try simp only [sP]); omega) only [eV, k0, k7]
 rintro v9 w9 ⟨rfl, rfl⟩
 rw [hvv]
 refine dn (d_then trivial ?_)
 refine d_sole rfl (wN rfl) ?_
 refine r_call' (args := #[.int .i64 ver, .slice (some ⟨g, 0, none⟩) kk cap]) ?_ (L.again ver (bs.take kk) _ ev { w7 with drawn := w7.drawn + 1 } hvle (((hrowk.below hb7).below hbd7).bytesIn H.row) htl he7 hev) ?_
 ·simp only [lM]
  simp (disch := (try simp only [sP]); omega) only [eV]
 rintro r w10 ⟨hb10, hr10⟩
 rw [hcut] at hr10
 subst hr10
 have hb010 : Below W.heap.size W w10 := hb07.trans ((hbd7.trans hb10).mono hb07.size)
 refine dn (d_then trivial ?_)
 refine dP rfl rfl rfl (wN rfl) (by simp only [zP, hsG4]; omega) trivial (fun w' _ => rM (dn ⟨rfl, rfl, rfl⟩)) ?_
 refine d_extract (vs := #[.slice none 0 0, .bool false]) (v := .slice none 0 0) rfl (wN rfl) (by simp (disch := (try simp only [sP]); omega) only [eV]) rfl trivial ?_
 refine d_extract (vs := #[.slice none 0 0, .bool false]) (v := .bool false) rfl (wN rfl) (by simp (disch := (try simp only [sP]); omega) only [eV]) rfl trivial ?_
 refine dP rfl rfl rfl (wN rfl) (by simp only [zP, hsG4]; omega) trivial (fun w' _ => rA (dn ⟨rfl, rfl, rfl⟩)) ?_
 refine dP rfl rfl rfl (wN rfl) (by simp only [zP, hsG4]; omega) trivial (fun w' _ => rA (dn ⟨rfl, rfl, rfl⟩)) ?_
 refine d_nil ?_
 generalize hG5 : Act.put _ (some 12) _ = G5
 have hsG5 : G5.tmps.size = nt := by rw [← hG5]; simp only [zP]; exact hsG4
 have hdG5 : G5.defers = [] := by rw [← hG5]; simp only [dF]; exact hdG4
 have k10 : G5.eval (.tmp 10) = .bool true := by rw [← hG5]; simp (disch := (try simp only [sP]); omega) only [eV, k10]
 have k12 : G5.eval (.tmp 12) = .bool false := by rw [← hG5]; simp (disch := (try simp only [sP]); omega) only [eV]
 clear hG5
 refine vS (vc_runS ?_)
 refine rD rfl (wN rfl) (rM (dn (rT ?_)))
 refine rD rfl (wN rfl) (rM (dn (rT ?_)))
 refine rD rfl (by rw [wS (b := true) rfl rfl (by simp (disch := (try simp only [sP]); omega) only [eV, k10])]; rfl) (rM (dn (rT ?_)))
 refine rD rfl (by rw [wS (b := true) rfl rfl (by simp (disch := (try simp only [sP]); omega) only [eV, k10])]; rfl) (r_not (b := false) (by simp (disch := (try simp only [sP]); omega) only [eV, k12]) (dn (rT ?_)))
 refine rD rfl (wN rfl) (r_pickT (by simp (disch := (try simp only [sP]); omega) only [eV, k10]) (dn (rT ?_)))
 refine rD rfl (wN rfl) (rA (dn (rT ?_)))
 refine runS_nil ?_
 refine vS (vT ?_)
 refine ⟨by simp only [dF]; exact hdG5, .bool true, rO ?_, rfl, hb010⟩
 simp (disch := (try simp only [sP]); omega) only [eV]
 rfl
end
end Go.Km
