/- Over any program: what the functions of kmsg, kbin and the spec compute. -/
import Derived.Test.YtlcamogfjoneiaaGreatDoorKc01
set_option maxHeartbeats 4000000
set_option linter.unusedSimpArgs false
set_option linter.unusedVariables false
namespace Go.Km
open Go Go.RowKit
variable {E:Env} {P:Program} {W:World} {ev:Value} {n:Nat} {ts:List Value}
section
attribute [local irreducible] vc rO_ qz qP qJ
theorem c_againL_ok {A:ML} {m:Msg} {fs:SFs} {flex:Int} {mx:Nat} (L:LawT P E A m fs flex mx) (S:Spd m fs flex mx) {np nt:Nat} (ht:Text P A.law np nt #[.tmp 4] (c_againL E A)) (hn:35<=nt) (hn8:n<256) {t:Tr} (hr:t.Rep W W.heap.size ts) (htk:t.tok) (hsm:t.small) (hbig:∀ ver:Nat,ver<=mx->(fs.part ver (m.isFlex ver) t).length<=big) (he:W.cell? ⟨E.vErr,0,none⟩=some ev) (hev:∃ u z,ev=.iface u z):qa P A.law #[.int .u8 n,.agg ts.toArray] W fun v w'=>v=.bool true/\Below W.heap.size W w':=by
 have hevlt:=qi he
 have hmx:=S.mx
 have H:=L.se
 refine qa.enter ht (by simp;omega) ?_
 intro a hsz hdf harg
 have e0:=harg 0 (.int .u8 n) zS
 have e1:=harg 1 (.agg ts.toArray) zS
 unfold c_againL
 refine vX ?_
 refine xN (v:=.agg ts.toArray) zA ?_
 refine rA (dn ?_)
 have hb0:Below W.heap.size W (W.alloc (.cells (Value.agg ts.toArray).cells E.tT)):=(Below.refl _ W).alloc (o:=.cells _ _) (Nat.le_refl _)
 have hbc:qb (W.alloc (.cells (Value.agg ts.toArray).cells E.tT)) W.heap.size 0 ts:=by
  intro j v hv
  rw[Nat.zero_add]
  exact qm W _ E.tT (by simpa [Value.cells] using hv)
 have hz0:W.heap.size<(W.alloc (.cells (Value.agg ts.toArray).cells E.tT)).heap.size:=by simp
 generalize W.alloc (.cells (Value.agg ts.toArray).cells E.tT)=w0 at *
 have haT:zd P E.tT=some ts.length:=by rw[hr.len];exact H.aTree
 refine vS (vX ?_)
 refine qf (b:=W.heap.size) (o:=0) (cs:=ts) zE haT hbc ?_
 refine q8 (args:=#[.agg ts.toArray]) ?_ (gP H L.f4 L.f3 L.f2 (hr.below hb0) hb0.size hsm) ?_
 ·simp only[lM]
  exact zE
 rintro v w1 ⟨⟨bf,rfl⟩,hb1⟩
 have hb01:Below W.heap.size W w1:=hb0.trans (hb1.mono hb0.size)
 refine zG (b:=bf) zE ?_
 refine dn ?_
 refine vS (vC (t:=!bf) zE ?_ ?_)
 ·intro h
  refine vX (rA (dn (vS (vT ?_))))
  exact ⟨by simp only[dF];exact hdf,.bool true,rO zE,rfl,hb01⟩
 intro _
 refine vK (vN (vX ?_))
 refine q8 (args:=#[]) zS (L.max w1) ?_
 rintro v w2 ⟨rfl,hb2⟩
 refine rA (dn ?_)
 have hb02:Below W.heap.size W w2:=hb01.trans (hb2.mono hb01.size)
 have hbc2:qb w2 W.heap.size 0 ts:=(hbc.below hb1 hz0).below hb2 (Nat.lt_of_lt_of_le hz0 hb1.size)
 have hz2:W.heap.size<w2.heap.size:=Nat.lt_of_lt_of_le hz0 (Nat.le_trans hb1.size hb2.size)
 refine vS (vX (rM ?_))
 refine xm (k:=.i64) (m:=(mx:Int)) (n:=0) zE rfl ?_
 refine dn ?_
 refine vS (vC (t:=false) ?_ (fun h=>by cases h) ?_)
 ·simp (disch:=(try simp only[sP]);omega) only[eV]
  simp only[Value.bool.injEq,decide_eq_false_iff_not]
  omega
 intro _
 refine vK (vN ?_)
 generalize hG:Act.put _ (some 14) _=G
 have hsG:G.tmps.size=nt:=by rw[← hG];simp only[zP];exact hsz
 have hdG:G.defers=[]:=by rw[← hG];simp only[dF];exact hdf
 have k0:G.eval (.tmp 0)=.int .u8 n:=by rw[← hG];exact zA
 have k3:G.eval (.tmp 3)=.pointer (some ⟨W.heap.size,0,none⟩):=by rw[← hG];exact zE
 have k5:G.eval (.tmp 5)=.int .i64 mx:=by rw[← hG];exact zE
 clear hG
 have hvle:n % (mx+1)<=mx:=by have:=Nat.mod_lt n (show mx+1>0 by omega);omega
 have hbd:Below w2.heap.size w2 { w2 with drawn:=w2.drawn+1 }:=⟨rfl,rfl,rfl,Nat.le_refl _,fun _ _=>rfl⟩
 have mkS:∀ w',Below w2.heap.size w2 w'->qb w' W.heap.size 0 ts:=fun w' h=>hbc2.below h hz2
 have hS:=mkS _ hbd
 refine vS (xq [(1,true),(2,true),(4,true),(0,false),(3,false),(5,false),(6,true)] (fun W'=>qb W' W.heap.size 0 ts) L.st.mixed (by kernel_rfl) rfl (by kernel_rfl) (fun _ _ _ _ h=>False.elim h) ?_)
 refine dP rfl rfl rfl (wN rfl) (by simp only[zP,hsG];omega) hS (fun w' hS'=>rM (dn ⟨rfl,rfl,rfl⟩)) ?_
 refine dP rfl rfl rfl (wN rfl) (by simp only[zP,hsG];omega) hS (fun w' hS'=>rM (dn ⟨rfl,rfl,rfl⟩)) ?_
 refine dP rfl rfl rfl (wN rfl) (by simp only[zP,hsG];omega) hS (fun w' hS'=>qf (b:=W.heap.size) (o:=0) (cs:=ts) zA haT hS' (dn ⟨rfl,rfl,rfl⟩)) ?_
 refine qw rfl (wN rfl) ?_
 refine q8 (args:=#[]) zS (L.spec _) ?_
 rintro v w3 ⟨sv,rfl,hsl,hb3⟩
 have hb23:Below w2.heap.size w2 w3:=hbd.trans hb3
 refine dn (qv (mkS _ hb23) ?_)
 refine qw rfl (wN rfl) ?_
 refine q8 (args:=#[.int .u8 n,.int .i64 mx]) ?_ (jf L.ver H.u8 H.int hn8 hmx) ?_
 ·simp only[lM]
  simp (disch:=(try simp only[sP]);omega) only[eV,k0,k5]
 rintro v4 w4 ⟨rfl,rfl⟩
 refine dn (qv (mkS _ hb23) ?_)
 refine qw rfl (wN rfl) ?_
 generalize hvv:n % (mx+1)=ver at *
 have hbg:=hbig ver hvle
 have hfx:=S.fx ver hvle
 rw[hfx] at hbg
 have hb04:Below W.heap.size W w4:=hb02.trans (hb23.mono hb02.size)
 have hr4:t.Rep w4 w4.heap.size ts:=(hr.below hb04).mono hb04.size
 refine q8 (args:=#[.agg [sv,.int .i64 flex].toArray,.int .i64 ver,.agg ts.toArray]) ?_ (s_write (ver:=(ver:Int)) (flex:=flex) (t:=t) H L.sl L.st L.hoM hsl hr4 (Nat.le_refl _) (partC H L.sl L.st L.hz8 S.good S.len) hbg) ?_
 ·simp only[lM]
  exact zE
 rintro bv5 w5 ⟨hown,hb5⟩
 rw[← hfx] at hown hbg
 have hpw:=wg (fx:=m.isFlex ver) (ver:=ver) S.agr t
 have hgood:=part_good (fx:=m.isFlex ver) (ver:=ver) S.agr htk (by have:=hbg;unfold big at this;omega)
 have hback:m.back ver (fs.part ver (m.isFlex ver) t)=some (fs.part ver (m.isFlex ver) t):=by
  rw[hpw]
  exact back_wr S.kept (lpB_at S.lp hvle) hgood
 generalize fs.part ver (m.isFlex ver) t=bs at *
 have hb25:Below w2.heap.size w2 w5:=hb23.trans (hb5.mono hb23.size)
 have hb05:Below W.heap.size W w5:=hb02.trans (hb25.mono hb02.size)
 refine dn (qv (mkS _ hb25) ?_)
 refine dP rfl rfl rfl (wN rfl) (by simp only[zP,hsG];omega) (mkS _ hb25) (fun w' hS'=>rA (dn ⟨rfl,rfl,rfl⟩)) ?_
 refine xI ?_
 generalize hG2:Act.put _ (some 6) _=G2
 have hsG2:G2.tmps.size=nt:=by rw[← hG2];simp only[zP];exact hsG
 have hdG2:G2.defers=[]:=by rw[← hG2];simp only[dF];exact hdG
 have k0:G2.eval (.tmp 0)=.int .u8 n:=by rw[← hG2];exact zA
 have k5:G2.eval (.tmp 5)=.int .i64 mx:=by rw[← hG2];exact zA
 have k6:G2.eval (.tmp 6)=bv5:=by rw[← hG2];exact zE
 clear hG2
 have hrow:xA w5 bv5 bs:=xA.of_own hown
 have he5:w5.cell? ⟨E.vErr,0,none⟩=some ev:=by rw[hb05.cell (p:=⟨E.vErr,0,none⟩) hevlt];exact he
 refine vX (rM (rM ?_))
 refine q8 (args:=#[.int .u8 n,.int .i64 mx]) ?_ (jf L.ver H.u8 H.int hn8 hmx) ?_
 ·simp only[lM]
  simp (disch:=(try simp only[sP]);omega) only[eV,k0,k5]
 rintro v6 w6 ⟨rfl,rfl⟩
 rw[hvv]
 refine rM ?_
 refine q8 (args:=#[.int .i64 ver,bv5]) ?_ (L.again ver bs bv5 ev w6 hvle (hrow.bytesIn H.row) hbg he5 hev) ?_
 ·simp only[lM]
  simp (disch:=(try simp only[sP]);omega) only[eV,k6]
 rintro r w7 ⟨hb7,hr7⟩
 rw[hback] at hr7
 obtain ⟨y,rfl,hy⟩:=hr7
 refine rM ?_
 refine ql (vs:=#[y,.bool true]) (v:=y) zE rfl ?_
 refine ql (vs:=#[y,.bool true]) (v:=.bool true) zE rfl ?_
 refine rA (rA (dn ?_))
 generalize hG3:Act.put _ (some 8) _=G3
 have hsG3:G3.tmps.size=nt:=by rw[← hG3];simp only[zP];exact hsG2
 have hdG3:G3.defers=[]:=by rw[← hG3];simp only[dF];exact hdG2
 have k6:G3.eval (.tmp 6)=bv5:=by rw[← hG3];exact zA
 have k7:G3.eval (.tmp 7)=y:=by rw[← hG3];exact zE
 have k8:G3.eval (.tmp 8)=.bool true:=by rw[← hG3];exact zE
 clear hG3
 refine vS (xQ ?_)
 refine rD rfl (wN rfl) (rM (dn (rT ?_)))
 refine rD rfl (wN rfl) (rM (dn (rT ?_)))
 refine rD rfl (by rw[wS (b:=true) rfl rfl zA];rfl) (rM (dn (rT ?_)))
 refine rD rfl (by rw[wS (b:=true) rfl rfl zA];rfl) (rM (dn (rT ?_)))
 refine rD rfl (by rw[wS (b:=true) rfl rfl zA];rfl) ?_
 refine q8 (args:=#[y,bv5]) ?_ (wK (U:=w7.heap.size) H.row H.oU8 L.st.mixed L.st.same (xA.of_own hy) (hrow.below hb7) hbg hbg) ?_
 ·simp only[lM]
  simp (disch:=(try simp only[sP]);omega) only[eV,k6,k7]
 rintro v8 w8 ⟨rfl,hb8⟩
 refine dn (rT ?_)
 refine rD rfl (wN rfl) (xf zA (dn (rT ?_)))
 refine rD rfl (wN rfl) (rA (dn (rT ?_)))
 refine qx ?_
 refine vS (vT ?_)
 refine ⟨by simp only[dF];exact hdG3,.bool true,rO ?_,rfl,hb05.trans ((hb7.trans (hb8.mono hb7.size)).mono hb05.size)⟩
 simp (disch:=(try simp only[sP]);omega) only[eV]
 simp
end
end Go.Km
