/- The laws 'what is read of any octets ..': the body, the row. -/
import Derived.Test.YtlcamogfjoneiaaDoorKb05
set_option maxHeartbeats 4000000
set_option linter.unusedSimpArgs false
set_option linter.unusedVariables false
namespace Go.Km
open Go Go.RowKit Go.ChangeShapes Go.WideShapes Go.ChangeAt
section
variable {H : Type} {enc : TypeId × Value → H} {P : Program} {E : Env}
theorem open_octs (ht:P.underlying E.tB=some (.slice E.tU8)) (he:P.underlying E.tU8=some (.int .u8)) (hc:P.cellsOf E.tU8=1) {W:World} {base:Nat} {v:Value} {d:DataW H} {p:List MemPlace}
  (hval:Value.okWide P W .any base E.tB v) (h:DataW.Trod enc P W 0 (fun _=>true) true E.tB v d p):∃ l,xj P E W v l/\l.length<=maxLen:=by
 obtain ⟨a,len,cap,rfl⟩:=okWide_slice ht hval
 obtain ⟨fuel,hf⟩:=h
 rcases open_ints ht he hc hf with ⟨hcs,hx⟩ | ⟨a,len',cap',zs,hcs,_,hl,hm,hz,hx,hcell,hwz⟩
 ·simp[Value.cells] at hcs
  obtain ⟨rfl,rfl,rfl⟩:=hcs
  exact ⟨[],⟨⟨_,_,rfl⟩,fun w' _=>Src.ofNil w' ht 0⟩,Nat.zero_le _⟩
 ·simp[Value.cells] at hcs
  obtain ⟨rfl,rfl,rfl⟩:=hcs
  simp only[if_true] at hz
  have hlen:((zs.take len).map fun n=>UInt8.ofNat n.toNat).length=len:=by simp;omega
  refine ⟨(zs.take len).map fun n=>UInt8.ofNat n.toNat,⟨⟨_,_,by rw[hlen]⟩,fun w' hb=>?_⟩,by rw[hlen];omega⟩
  rw[hlen]
  refine Src.ofSlice w' ht a len cap _ (by simp;omega) (fun j u hu=>?_) (xo _)
  have hj:j<len:=by
   rcases Nat.lt_or_ge j len with h | h
   ·exact h
   ·rw[List.getElem?_eq_none (by simp;omega)] at hu;cases hu
  have hcj:=hcell j (by omega)
  rw[Below.cell hb (p:=a.add j) (World.block_lt_of_cell? W _ hcj),hcj]
  have hb2:=range_u8 hwz j
  simp only[List.getElem?_map,List.getElem?_take,if_pos hj,List.getElem?_eq_getElem (show j<zs.length by omega),Option.map_some,Option.some.injEq] at hu
  subst hu
  have e:zs.getD j 0=zs[j]'(by omega):=by simp[List.getD,List.getElem?_eq_getElem (show j<zs.length by omega)]
  rw[e]
  rw[List.getD_eq_getElem?_getD] at e
  rw[e] at hb2
  simp only[bv,UInt8.toNat_ofNat']
  congr 2
  omega
theorem anyRow {f:Func} {L:FuncId} {s:ChangeSpec} {apart:Bool} {tb:TypeId} (hp:f.params=#[E.tU8,E.tB]) (hrt:f.resultTypes=#[tb]) (hub:P.underlying tb=some .bool) (hvars:s.vars=[]) (hfn:∀ d1 d2:DataW H,s.fn H [d1,d2]={ results:=[.lit (.bool true)],args:=[d1,d2] })
  (hl:laidOutB P=true) (hr8:P.readableRec E.tU8=true/\E.tU8<P.types.size) (hrB:P.readableRec E.tB=true/\E.tB<P.types.size) (hu8:P.underlying E.tU8=some (.int .u8)) (hub8:P.underlying E.tB=some (.slice E.tU8)) (hc8:P.cellsOf E.tU8=1)
  {W:World} {base:Nat} {args:Array Value} {ds gs:List (DataW H)} {before:List MemPlace}
  (walk:∀ n:Nat,n<256->∀ sv l,xj P E W sv l->l.length<=maxLen->qa P L #[.int .u8 n,sv] W fun v w'=>v=.bool true/\Below W.heap.size W w')
  (hval:∀ (j:Nat) t v,f.params[j]? = some t->args[j]? = some v->Value.okWide P W .any base t v) (hW:DataW.Whole enc P f.params.toList s.vars apart W args.toList ds gs before) :
  Calls P L args W fun e W'=>∃ v,e=.returned v/\s.post enc P f apart true false false W args v W':=by
 have hW':=hW
 obtain ⟨p,q,hA,hV,rfl,_,_⟩:=hW
 rw[hp] at hA hval
 obtain ⟨v0,vs0,d0,ds0,p0,q0,hargs,rfl,rfl,h0,r0⟩:=trodAll_cons hA
 obtain ⟨v1,vs1,d1,ds1,p1,q1,rfl,rfl,rfl,h1,r1⟩:=trodAll_cons r0
 obtain ⟨rfl,rfl,rfl⟩:=trodAll_nil r1
 obtain rfl:args=#[v0,v1]:=by cases args;simp_all
 obtain ⟨a,rfl,rfl,rfl,wa⟩:=open_int hu8 (hval 0 _ v0 rfl rfl) h0
 obtain ⟨l,hin,hll⟩:=open_octs hub8 hu8 hc8 (hval 1 _ v1 rfl rfl) h1
 obtain ⟨n,rfl,hn⟩:=u8_nat' wa
 refine (walk n hn v1 l hin hll).2.mono ?_
 rintro e W' ⟨v,rfl,rfl,hb⟩
 refine ⟨_,rfl,kH hW' hvars hl ?_ hb hrt hub (hfn _ _)⟩
 rw[hp]
 intro t ht
 simp only[List.mem_cons,List.not_mem_nil,or_false] at ht
 rcases ht with rfl | rfl
 ·exact hr8
 ·exact hrB
end
attribute [local irreducible] vc rO_ qz qI qF
structure MA where
 implMax:FuncId
 again:FuncId
 law:FuncId
 tTup:TypeId
def c_anyL (E:Env) (A:MA):Code :=
 (sq [(rg [(oQ 4 (.assign (.const (.bool false))) E.tO)]),
  (sq [(rg [(oQ 10 (.move (.tmp 1)) E.tB),
    (oQ 11 (.call { callee:=.builtin .len,args:=#[(.tmp 10)],argTypes:=#[E.tB] }) E.tI),
    (oQ 12 (.binOp .gtr E.tI (.tmp 11) (.const (.int .i64 2147483647)) E.tI) E.tO)]),
   (.cond (.tmp 12)
    (sq [(rg [(oQ 4 (.assign (.const (.bool true))) E.tO)]),
     .ret])
    .skip)]),
  (rg [(oQ 13 (.call { callee:=.value (.func A.implMax),args:=#[],argTypes:=#[] }) E.tI),
   (oQ 5 (.assign (.tmp 13)) E.tI)]),
  (sq [(rg [(oQ 14 (.move (.tmp 5)) E.tI),
    (oQ 15 (.binOp .lss E.tI (.tmp 14) (.const (.int .i64 0)) E.tI) E.tO)]),
   (.cond (.tmp 15)
    (sq [(rg [(oQ 4 (.assign (.const (.bool false))) E.tO)]),
     .ret])
    .skip)]),
  (sq [(rg [(oQ 16 (.move (.tmp 1)) E.tB),
    (oQ 17 (.call { callee:=.builtin .len,args:=#[(.tmp 16)],argTypes:=#[E.tB] }) E.tI),
    (oQ 18 (.binOp .gtr E.tI (.tmp 17) (.const (.int .i64 1000)) E.tI) E.tO)]),
   (.cond (.tmp 18)
    (sq [(rg [(oQ 4 (.assign (.const (.bool true))) E.tO)]),
     .ret])
    .skip)]),
  (rg [(oQ 20 (.move (.tmp 0)) E.tU8),
   (oQ 21 (.move (.tmp 5)) E.tI),
   (oQ 22 (.call { callee:=.value (.func E.lVersion),args:=#[(.tmp 20),(.tmp 21)],argTypes:=#[E.tU8,E.tI] }) E.tI),
   (oQ 23 (.move (.tmp 1)) E.tB),
   (oQ 24 (.call { callee:=.value (.func A.again),args:=#[(.tmp 22),(.tmp 23)],argTypes:=#[E.tI,E.tB] }) A.tTup),
   (oQ 19 (.move (.tmp 24)) A.tTup),
   (oQ 25 (.extract (.tmp 19) 0) E.tB),
   (oQ 26 (.extract (.tmp 19) 1) E.tO),
   (oQ 6 (.assign (.tmp 25)) E.tB),
   (oQ 7 (.assign (.tmp 26)) E.tO)]),
  (sq [(rg [(oQ 27 (.move (.tmp 7)) E.tO),
    (oQ 28 (.unOp .not E.tO (.tmp 27)) E.tO)]),
   (.cond (.tmp 28)
    (sq [(rg [(oQ 4 (.assign (.const (.bool true))) E.tO)]),
     .ret])
    .skip)]),
  (rg [(oQ 30 (.move (.tmp 0)) E.tU8),
   (oQ 31 (.move (.tmp 5)) E.tI),
   (oQ 32 (.call { callee:=.value (.func E.lVersion),args:=#[(.tmp 30),(.tmp 31)],argTypes:=#[E.tU8,E.tI] }) E.tI),
   (oQ 33 (.move (.tmp 6)) E.tB),
   (oQ 34 (.call { callee:=.value (.func A.again),args:=#[(.tmp 32),(.tmp 33)],argTypes:=#[E.tI,E.tB] }) A.tTup),
   (oQ 29 (.move (.tmp 34)) A.tTup),
   (oQ 35 (.extract (.tmp 29) 0) E.tB),
   (oQ 36 (.extract (.tmp 29) 1) E.tO),
   (oQ 8 (.assign (.tmp 35)) E.tB),
   (oQ 9 (.assign (.tmp 36)) E.tO)]),
  (rg [(oQ 37 (.move (.tmp 9)) E.tO),
   (oQ 38 (.move (.tmp 37)) E.tO),
   ⟨some 39,.move (.tmp 6),E.tB,"",#[],some (1,true)⟩,
   ⟨some 40,.move (.tmp 8),E.tB,"",#[],some (1,true)⟩,
   ⟨some 41,.call { callee:=.value (.func E.sSame),args:=#[(.tmp 39),(.tmp 40)],argTypes:=#[E.tB,E.tB] },E.tO,"",#[],some (1,true)⟩,
   (oQ 42 (.pick (.tmp 38) (.tmp 41) (.const (.bool false))) E.tO),
   (oQ 4 (.assign (.tmp 42)) E.tO)]),
  .ret])
section
variable {P : Program} {E : Env}
set_option maxHeartbeats 1000000 in
theorem c_any_ok (hu8:qs P E.tU8=some .u8) (hint:qs P E.tI=some .i64) (hU8:qQ P E.tU8=true) (hmix:P.follows .mixedOrders=true) (hsame:Text P E.sSame 2 26 #[.tmp 4] (gA E)) (HB:xd P E.tB E.tU8 1=true) (hver:Text P E.lVersion 2 10 #[.tmp 4] (kG E)) {m:Msg} {A:MA} {np nt mx:Nat} (ht:Text P A.law np nt #[.tmp 4] (c_anyL E A)) (hn:43<=nt)
  (hMax:∀ w,qa P A.implMax #[] w fun v w'=>v=.int .i64 mx/\Below w.heap.size w w') (hmx:mx<32768) (hAg:AgainC P E m A.again mx)
  (hpure:∀ ver:Nat,ver<=mx->∀ l a,m.back ver l=some a->m.back ver a=some a/\a.length<=l.length) {n:Nat} (hn8:n<256) {sv ev:Value} {l:List UInt8} {W:World} (hin:xj P E W sv l) (hlen:l.length<=9223372036854775807)
  (he:W.cell? ⟨E.vErr,0,none⟩=some ev) (hev:∃ u z,ev=.iface u z):qa P A.law #[.int .u8 n,sv] W fun v w'=>v=.bool true/\Below W.heap.size W w':=by
 have hevlt:=qj he
 obtain ⟨ad,cap,hsv⟩:=hin.1
 refine qa.enter ht (by simp;omega) ?_
 intro a hsz hdf harg
 have e0:=harg 0 (.int .u8 n) (by simp)
 have e1:=harg 1 sv (by simp)
 unfold c_anyL
 refine vX (rA (dn (vS (vX (rM ?_)))))
 refine qY (ad:=ad) (n:=l.length) (c:=cap) (rB HB) (by simp (disch:=(try simp only[sP]);omega) only[eV,e1,hsv]) ?_
 refine je (k:=.i64) (m:=(l.length:Int)) (n:=2147483647) (by simp (disch:=(try simp only[sP]);omega) only[eV]) rfl ?_
 refine dn ?_
 refine vS (vC (t:=decide ((l.length:Int)>2147483647)) (by simp (disch:=(try simp only[sP]);omega) only[eV]) ?_ ?_)
 ·intro h
  refine vX (rA (dn (vS (vT ?_))))
  exact ⟨by simp only[dF];exact hdf,.bool true,rO (by simp (disch:=(try simp only[sP]);omega) only[eV]),rfl,Below.refl _ _⟩
 intro h1
 refine vK (vN (vX ?_))
 refine q8 (args:=#[]) (by simp) (hMax W) ?_
 rintro v w1 ⟨rfl,hb1⟩
 refine rA (dn (vS (vX (rM ?_))))
 refine qW (k:=.i64) (m:=(mx:Int)) (n:=0) (by simp (disch:=(try simp only[sP]);omega) only[eV]) rfl ?_
 refine dn ?_
 refine vS (vC (t:=false) ?_ (fun h=>by cases h) ?_)
 ·simp (disch:=(try simp only[sP]);omega) only[eV]
  simp only[Value.bool.injEq,decide_eq_false_iff_not]
  omega
 intro _
 refine vK (vN (vS (vX (rM ?_))))
 refine qY (ad:=ad) (n:=l.length) (c:=cap) (rB HB) (by simp (disch:=(try simp only[sP]);omega) only[eV,e1,hsv]) ?_
 refine je (k:=.i64) (m:=(l.length:Int)) (n:=1000) (by simp (disch:=(try simp only[sP]);omega) only[eV]) rfl ?_
 refine dn ?_
 refine vS (vC (t:=decide ((l.length:Int)>1000)) (by simp (disch:=(try simp only[sP]);omega) only[eV]) ?_ ?_)
 ·intro h
  refine vX (rA (dn (vS (vT ?_))))
  exact ⟨by simp only[dF];exact hdf,.bool true,rO (by simp (disch:=(try simp only[sP]);omega) only[eV]),rfl,hb1⟩
 intro h2
 have hl1000:l.length<=1000:=by
  have:¬ ((l.length:Int)>1000):=by simpa using h2
  omega
 have hbig:l.length<=big:=by unfold big;omega
 refine vK (vN ?_)
 generalize hG:Act.put _ (some 18) _=G
 have hsG:G.tmps.size=nt:=by rw[← hG];simp only[zP];exact hsz
 have hdG:G.defers=[]:=by rw[← hG];simp only[dF];exact hdf
 have k0:G.eval (.tmp 0)=.int .u8 n:=by rw[← hG];simp (disch:=(try simp only[sP]);omega) only[eV,e0]
 have k1:G.eval (.tmp 1)=sv:=by rw[← hG];simp (disch:=(try simp only[sP]);omega) only[eV,e1]
 have k5:G.eval (.tmp 5)=.int .i64 mx:=by rw[← hG];simp (disch:=(try simp only[sP]);omega) only[eV]
 clear hG
 have hvle:n % (mx+1)<=mx:=by have:=Nat.mod_lt n (show mx+1>0 by omega);omega
 have he1:w1.cell? ⟨E.vErr,0,none⟩=some ev:=by rw[hb1.cell (p:=⟨E.vErr,0,none⟩) hevlt];exact he
 refine vX (rM (rM ?_))
 refine q8 (args:=#[.int .u8 n,.int .i64 mx]) ?_ (j6 hver hu8 hint hn8 hmx) ?_
 ·simp only[lM]
  simp (disch:=(try simp only[sP]);omega) only[eV,k0,k5]
 rintro v3 w2 ⟨rfl,rfl⟩
 refine rM ?_
 refine q8 (args:=#[.int .i64 (n % (mx+1):Nat),sv]) ?_ (hAg (n % (mx+1)) l sv ev w2 hvle (hin.below hb1) hbig he1 hev) ?_
 ·simp only[lM]
  simp (disch:=(try simp only[sP]);omega) only[eV,k1]
 rintro r w3 ⟨hb3,hr⟩
 generalize hvv:n % (mx+1)=ver at *
 have hb03:Below W.heap.size W w3:=hb1.trans (hb3.mono hb1.size)
 obtain ⟨x,ok,rfl,hxok⟩:∃ x ok,r=.tuple #[x,.bool ok]/\(match m.back ver l with | none=>ok=false | some a=>ok=true/\w3.ownsRow w2.heap.size E.tU8 1 x a.length (a.map bv)):=by
  cases hbk:m.back ver l with
  | none=>rw[hbk] at hr;exact ⟨_,_,hr,rfl⟩
  | some a=>rw[hbk] at hr;obtain ⟨x,h1,h2⟩:=hr;exact ⟨x,true,h1,rfl,h2⟩
 refine rM ?_
 refine qk (vs:=#[x,.bool ok]) (v:=x) (by simp (disch:=(try simp only[sP]);omega) only[eV]) rfl ?_
 refine qk (vs:=#[x,.bool ok]) (v:=.bool ok) (by simp (disch:=(try simp only[sP]);omega) only[eV]) rfl ?_
 refine rA (rA (dn (vS (vX (rM ?_)))))
 refine zq (b:=ok) (by simp (disch:=(try simp only[sP]);omega) only[eV]) ?_
 refine dn ?_
 refine vS (vC (t:=!ok) (by simp (disch:=(try simp only[sP]);omega) only[eV]) ?_ ?_)
 ·intro h
  refine vX (rA (dn (vS (vT ?_))))
  exact ⟨by simp only[dF];exact hdG,.bool true,rO (by simp (disch:=(try simp only[sP]);omega) only[eV]),rfl,hb03⟩
 intro h
 refine vK (vN ?_)
 have hok:ok=true:=by simpa using h
 subst hok
 cases hbk:m.back ver l with
 | none=>rw[hbk] at hxok;cases hxok
 | some b =>
 rw[hbk] at hxok
 have hown:=hxok.2
 obtain ⟨hpb,hpl⟩:=hpure ver hvle l b hbk
 generalize hG2:Act.put _ (some 28) _=G2
 have hsG2:G2.tmps.size=nt:=by rw[← hG2];simp only[zP];exact hsG
 have hdG2:G2.defers=[]:=by rw[← hG2];simp only[dF];exact hdG
 have k0:G2.eval (.tmp 0)=.int .u8 n:=by rw[← hG2];simp (disch:=(try simp only[sP]);omega) only[eV,k0]
 have k5:G2.eval (.tmp 5)=.int .i64 mx:=by rw[← hG2];simp (disch:=(try simp only[sP]);omega) only[eV,k5]
 have k6:G2.eval (.tmp 6)=x:=by rw[← hG2];simp (disch:=(try simp only[sP]);omega) only[eV]
 clear hG2
 have he3:w3.cell? ⟨E.vErr,0,none⟩=some ev:=by rw[hb03.cell (p:=⟨E.vErr,0,none⟩) hevlt];exact he
 refine vX (rM (rM ?_))
 refine q8 (args:=#[.int .u8 n,.int .i64 mx]) ?_ (j6 hver hu8 hint hn8 hmx) ?_
 ·simp only[lM]
  simp (disch:=(try simp only[sP]);omega) only[eV,k0,k5]
 rintro v4 w4 ⟨rfl,rfl⟩
 rw[hvv]
 refine rM ?_
 refine q8 (args:=#[.int .i64 ver,x]) ?_ (hAg ver b x ev w4 hvle ((xn.of_own hown).bytesIn HB) (by omega) he3 hev) ?_
 ·simp only[lM]
  simp (disch:=(try simp only[sP]);omega) only[eV,k6]
 rintro r w5 ⟨hb5,hr⟩
 rw[hpb] at hr
 obtain ⟨y,rfl,hy⟩:=hr
 refine rM ?_
 refine qk (vs:=#[y,.bool true]) (v:=y) (by simp (disch:=(try simp only[sP]);omega) only[eV]) rfl ?_
 refine qk (vs:=#[y,.bool true]) (v:=.bool true) (by simp (disch:=(try simp only[sP]);omega) only[eV]) rfl ?_
 refine rA (rA (dn ?_))
 generalize hG3:Act.put _ (some 9) _=G3
 have hsG3:G3.tmps.size=nt:=by rw[← hG3];simp only[zP];exact hsG2
 have hdG3:G3.defers=[]:=by rw[← hG3];simp only[dF];exact hdG2
 have k6:G3.eval (.tmp 6)=x:=by rw[← hG3];simp (disch:=(try simp only[sP]);omega) only[eV,k6]
 have k8:G3.eval (.tmp 8)=y:=by rw[← hG3];simp (disch:=(try simp only[sP]);omega) only[eV]
 have k9:G3.eval (.tmp 9)=.bool true:=by rw[← hG3];simp (disch:=(try simp only[sP]);omega) only[eV]
 clear hG3
 refine vS (xF ?_)
 refine rD rfl (wN rfl) (rM (dn (rT ?_)))
 refine rD rfl (wN rfl) (rM (dn (rT ?_)))
 refine rD rfl (by rw[wS (b:=true) rfl rfl (by simp (disch:=(try simp only[sP]);omega) only[eV,k9])];rfl) (rM (dn (rT ?_)))
 refine rD rfl (by rw[wS (b:=true) rfl rfl (by simp (disch:=(try simp only[sP]);omega) only[eV,k9])];rfl) (rM (dn (rT ?_)))
 refine rD rfl (by rw[wS (b:=true) rfl rfl (by simp (disch:=(try simp only[sP]);omega) only[eV,k9])];rfl) ?_
 refine q8 (args:=#[x,y]) ?_ (wk (U:=w5.heap.size) HB hU8 hmix hsame (xn.of_own (zj hown hb5)) (xn.of_own hy) (by omega) (by omega)) ?_
 ·simp only[lM]
  simp (disch:=(try simp only[sP]);omega) only[eV,k6,k8]
 rintro v6 w6 ⟨rfl,hb6⟩
 refine dn (rT ?_)
 refine rD rfl (wN rfl) (x7 (by simp (disch:=(try simp only[sP]);omega) only[eV,k9]) (dn (rT ?_)))
 refine rD rfl (wN rfl) (rA (dn (rT ?_)))
 refine qy ?_
 refine vS (vT ?_)
 refine ⟨by simp only[dF];exact hdG3,.bool true,rO ?_,rfl,hb03.trans ((hb5.trans (hb6.mono hb5.size)).mono hb03.size)⟩
 simp (disch:=(try simp only[sP]);omega) only[eV]
 simp
end
end Go.Km
