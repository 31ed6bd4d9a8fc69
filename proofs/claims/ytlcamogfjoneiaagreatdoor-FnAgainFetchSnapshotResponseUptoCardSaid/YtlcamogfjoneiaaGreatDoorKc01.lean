/- Over any program: what the functions of kmsg, kbin and the spec compute. -/
import Derived.Test.YtlcamogfjoneiaaGreatDoorKb03
import Derived.Test.YtlcamogfjoneiaaGreatDoorKb05
import Derived.Test.YtlcamogfjoneiaaGreatDoorKc00
set_option maxHeartbeats 4000000
set_option linter.unusedSimpArgs false
set_option linter.unusedVariables false
namespace Go.Km
open Go Go.RowKit
variable {B U b cap k n o s ver:Nat} {E:Env} {P:Program} {Q:Exit->Act->World->Prop} {W w w':World} {a:Act} {cs ts xs:List Value} {e:TypeId} {fx:Bool} {l:List UInt8} {r:List Oper} {u:List (Nat × List UInt8)} {v:Value}
section
theorem gJ {c:Code} (h:vc P c (fun e a w=>(∀ k,e≠.panic k)/\Q e a w) a w):vc P c Q a w:=xi _ h (fun e a w h=>h.2)
def SF.plain:SF->Bool
 | .mk kind _ _ _ _ _ _ _=>decide (1<=kind)&&decide (kind<=6)
def SFs.nums:SFs->Bool
 | .nil=>true
 | .cons f r=>f.plain&&decide (f.tag<0)&&r.nums
def SF.ten:SF->Bool
 | .mk kind _ _ _ _ _ _ _=>decide (kind=10)
def SF.num:SF->Bool
 | .mk kind fr to nul tag df el sub=>(SF.mk kind fr to nul tag df el sub).plain||decide (kind=11)||(decide (kind=10)&&decide (sub.len<=65536)&&sub.nums)
theorem SFs.nums_tags:∀ fs:SFs,fs.nums=true->∀ t ∈ fs.tags,t<65536
 | .nil,_,t,h=>by simp[SFs.tags] at h
 | .cons (.mk kind fr to nul tag df el sub) r,hg,t,h=>by
  simp only[SFs.nums,Bool.and_eq_true,decide_eq_true_eq] at hg
  have hg1:tag<0:=hg.1.2
  simp only[SFs.tags,List.mem_cons] at h
  rcases h with rfl | h
  ·omega
  ·exact SFs.nums_tags r hg.2 t h
theorem SFs.nums_get:∀ fs:SFs,fs.nums=true->∀ i f,fs.get i=some f->f.plain=true
 | .nil,_,i,f,h=>by cases h
 | .cons g r,hg,i,f,h=>by
  simp only[SFs.nums,Bool.and_eq_true] at hg
  cases i with
  | zero =>
   simp only[SFs.get,Option.some.injEq] at h
   subst h
   exact hg.1.1
  | succ i=>exact SFs.nums_get r hg.2 i f h
theorem SFs.get_len:∀ (fs:SFs) (i:Nat) (f:SF),fs.get i=some f->i<fs.len
 | .nil,i,f,h=>by cases h
 | .cons g r,0,f,_=>by simp[SFs.len]
 | .cons g r,i+1,f,h=>by
  have:=SFs.get_len r i f h
  simp[SFs.len]
  omega
theorem SFs.usual_all:∀ (fs:SFs) (k:Nat) (t:Tr),(∀ i g,fs.get i=some g->g.usual (t.at (k+i))=true)->fs.usual k t=true
 | .nil,k,t,_=>by rw[SFs.usual]
 | .cons f r,k,t,h=>by
  rw[SFs.usual,show f.usual (t.at k)=true from h 0 f rfl,Bool.true_and]
  exact SFs.usual_all r (k+1) t fun i g hg=>by rw[show k+1+i=k+(i+1) by omega];exact h (i+1) g hg
theorem SFs.usual_not:∀ (fs:SFs) (k:Nat) (t:Tr) (i:Nat) (g:SF),fs.get i=some g->g.usual (t.at (k+i))=false->fs.usual k t=false
 | .nil,k,t,i,g,h,_=>by cases h
 | .cons f r,k,t,i,g,h,hf=>by
  rw[SFs.usual]
  cases i with
  | zero =>
   simp only[SFs.get,Option.some.injEq] at h
   subst h
   rw[show f.usual (t.at k)=false from hf,Bool.false_and]
  | succ i=>rw[SFs.usual_not r (k+1) t i g h (by rw[show k+1+i=k+(i+1) by omega];exact hf),Bool.and_false]
def UsualC (P:Program) (E:Env) (f:SF):Prop :=
 ∀ (U:Nat) (w:World) (cs ts:List Value) (t:Tr),U<=w.heap.size->f.Rep w U cs->t.Rep w U ts →
  qa P E.sUsual #[.agg cs.toArray,.agg ts.toArray] w fun v w'=>v=.bool (f.usual t)/\Below U w w'
attribute [local irreducible] vc rO_ qz qP qJ
theorem s_usualX (H:SEnv P E) (HL:SLay P E) (HT:STexts P E) (f:SF) (hk:f.num=true) (hsb:f.ten=true->∀ i g,f.sub.get i=some g->UsualC P E g):UsualC P E f:=by
 intro U w cs ts t hU hr hrt
 have hrt0:=hrt
 cases f with
 | mk kind fr to nul tag df el sub =>
 cases t with
 | mk n s tnl l u =>
 obtain ⟨sv,rfl,hsub⟩:=hr
 obtain ⟨s1,lv,uv,rfl,ho,hu,hl⟩:=hrt
 simp only[SF.num,SF.plain,Bool.or_eq_true,Bool.and_eq_true,decide_eq_true_eq] at hk
 obtain ⟨k,rfl⟩:∃ k:Nat,kind=(k:Int):=⟨kind.toNat,by omega⟩
 have hk1:1<=(k:Int)/\((k:Int)<=6\/(k:Int)=11\/(k:Int)=10):=by omega
 refine qa.enter HT.usual zS ?_
 intro a hsz hdf harg
 have e0:a.eval (.tmp 0)=.agg [Value.int .i64 k,.int .i64 fr,.int .i64 to,.int .i64 nul,.int .i64 tag,.int .i64 df,.int .i64 el,sv].toArray:=harg 0 _ rfl
 have e1:a.eval (.tmp 1)=.agg [Value.int .i64 n,s1,.bool tnl,lv,uv].toArray:=harg 1 _ rfl
 unfold c_sUsual
 refine vX ?_
 refine xN (v:=.agg [Value.int .i64 k,.int .i64 fr,.int .i64 to,.int .i64 nul,.int .i64 tag,.int .i64 df,.int .i64 el,sv].toArray) zA ?_
 refine xN (v:=.agg [Value.int .i64 n,s1,.bool tnl,lv,uv].toArray) zA ?_
 refine rA (dn ?_)
 generalize hw1:w.alloc (.cells (Value.agg [Value.int .i64 k,.int .i64 fr,.int .i64 to,.int .i64 nul,.int .i64 tag,.int .i64 df,.int .i64 el,sv].toArray).cells E.tFld)=W1
 have hb1:Below U w W1:=by rw[← hw1];exact (Below.refl U w).alloc (o:=.cells _ _) hU
 have hz1:W1.heap.size=w.heap.size+1:=by rw[← hw1];simp
 have f0:W1.cell? ⟨w.heap.size,0,none⟩=some (.int .i64 k):=by rw[← hw1];exact qm w _ E.tFld (i:=0) rfl
 have f5:W1.cell? ⟨w.heap.size,5,none⟩=some (.int .i64 df):=by rw[← hw1];exact qm w _ E.tFld (i:=5) rfl
 have f7:W1.cell? ⟨w.heap.size,7,none⟩=some sv:=by rw[← hw1];exact qm w _ E.tFld (i:=7) rfl
 clear hw1
 generalize hw2:W1.alloc (.cells (Value.agg [Value.int .i64 n,s1,.bool tnl,lv,uv].toArray).cells E.tT)=W
 have hb2:Below W1.heap.size W1 W:=by rw[← hw2];exact (Below.refl W1.heap.size W1).alloc (o:=.cells _ _) (Nat.le_refl _)
 have hz2:W.heap.size=W1.heap.size+1:=by rw[← hw2];simp
 have t0:W.cell? ⟨W1.heap.size,0,none⟩=some (.int .i64 n):=by rw[← hw2];exact qm W1 _ E.tT (i:=0) rfl
 have tts:qb W W1.heap.size 0 [Value.int .i64 n,s1,.bool tnl,lv,uv]:=by
  rw[← hw2]
  intro j v hj
  rw[Nat.zero_add]
  exact qm W1 _ E.tT (i:=j) (by simpa [Value.cells] using hj)
 clear hw2
 have f0:W.cell? ⟨w.heap.size,0,none⟩=some (.int .i64 k):=by rw[hb2.cell (p:=⟨w.heap.size,0,none⟩) (show w.heap.size<W1.heap.size by omega)];exact f0
 have f5:W.cell? ⟨w.heap.size,5,none⟩=some (.int .i64 df):=by rw[hb2.cell (p:=⟨w.heap.size,5,none⟩) (show w.heap.size<W1.heap.size by omega)];exact f5
 have f7:W.cell? ⟨w.heap.size,7,none⟩=some sv:=by rw[hb2.cell (p:=⟨w.heap.size,7,none⟩) (show w.heap.size<W1.heap.size by omega)];exact f7
 have hUW1:U<=W1.heap.size:=by omega
 have hb:Below U w W:=hb1.trans (hb2.mono hUW1)
 have hUW:U<=W.heap.size:=by omega
 generalize hA:((a.put (some 2) _).put (some 3) _).put (some 4) _=A
 have g2:A.eval (.tmp 2)=.pointer (some ⟨w.heap.size,0,none⟩):=by rw[← hA];exact zE
 have g3:A.eval (.tmp 3)=.pointer (some ⟨W1.heap.size,0,none⟩):=by rw[← hA];exact zE
 have hs:A.tmps.size=91:=by rw[← hA];simp only[zP];exact hsz
 have hd:A.defers=[]:=by rw[← hA];simp only[dF];exact hdf
 clear hA
 refine vS (vX ?_)
 refine rF (b:=w.heap.size) (o:=0) zA (qn H.fFld (by decide)) ?_
 refine rL (b:=w.heap.size) (o:=0+0) zE H.oInt f0 ?_
 refine dn ?_
 generalize hA:(A.put (some 9) _).put (some 10) _=A1
 have g2:A1.eval (.tmp 2)=.pointer (some ⟨w.heap.size,0,none⟩):=by rw[← hA];exact zA
 have g3:A1.eval (.tmp 3)=.pointer (some ⟨W1.heap.size,0,none⟩):=by rw[← hA];exact zA
 have g10:A1.eval (.tmp 10)=.int .i64 k:=by rw[← hA];exact zE
 have hs:A1.tmps.size=91:=by rw[← hA];simp only[zP];exact hs
 have hd:A1.defers=[]:=by rw[← hA];simp only[dF];exact hd
 clear hA
 have ne:∀ m:Int,(m=0\/m=7\/m=8\/m=9)->((k:Int)==m)=false:=fun m h=>by simp only[beq_eq_false_iff_ne];omega
 refine vS (qk ?_)
 refine vX ?_
 refine xG (k:=.i64) (m:=(k:Int)) (n:=0) zA rfl ?_
 rw[ne 0 zH]
 refine rA (dn ?_)
 refine vS (vC (t:=false) zM (fun h=>by cases h) (fun _=>?_))
 refine vX ?_
 refine xG (k:=.i64) (m:=(k:Int)) (n:=7) zA rfl ?_
 rw[ne 7 zH]
 refine rA (dn ?_)
 refine vS (vC (t:=false) zM (fun h=>by cases h) (fun _=>?_))
 refine vS (vX ?_)
 refine xG (k:=.i64) (m:=(k:Int)) (n:=8) zA rfl ?_
 rw[ne 8 zH]
 refine rA (dn ?_)
 refine vS (vC (t:=false) zM (fun h=>by cases h) (fun _=>?_))
 refine vR zS ?_
 refine xG (k:=.i64) (m:=(k:Int)) (n:=9) zA rfl ?_
 rw[ne 9 zH]
 refine rA (dn (vN ?_))
 refine vS (vC (t:=false) zM (fun h=>by cases h) (fun _=>?_))
 refine vX ?_
 refine xG (k:=.i64) (m:=(k:Int)) (n:=11) zA rfl ?_
 by_cases h11:k=11
 ·subst h11
  have hus:(SF.mk ((11:Nat):Int) fr to nul tag df el sub).usual (.mk n s tnl l u)=decide ((l.len:Int)=0):=by
   simp only[SF.usual]
   by_cases h:l.len=0<;>simp[h]
  obtain ⟨ad,cap,hlv⟩:∃ ad cap,lv=.slice ad l.len cap:=by
   rcases hl with ⟨⟨ad,cap,rfl⟩,h0⟩ | ⟨q,o,cap,rfl,_⟩
   ·exact ⟨ad,cap,by rw[h0]⟩
   ·exact ⟨_,cap,rfl⟩
  rw[show (((11:Nat):Int)==11)=true from rfl,hus]
  refine rA (dn ?_)
  refine vS (vC (t:=true) zM (fun _=>?_) (fun h=>by cases h))
  refine vX ?_
  refine rF (b:=W1.heap.size) (o:=0) zA (qn H.fTree (by decide)) ?_
  refine rL (b:=W1.heap.size) (o:=0+3) zM H.oTrees (tts 3 _ rfl) ?_
  refine xh (ad:=ad) (n:=l.len) (c:=cap) (rB H.rTrees) zA ?_
  refine xG (k:=.i64) (m:=(l.len:Int)) (n:=0) zE rfl ?_
  refine rA (dn (vS (vT ?_)))
  exact ⟨by simp only[dF];exact hd,_,rO zM,rfl,hb⟩
 rw[show ((k:Int)==11)=false from by simp only[beq_eq_false_iff_ne];omega]
 (first | refine rM ?_ | refine rA ?_ | refine qY (by assumption) (by assumption) zM ?_ | refine xm zM zM ?_ | refine ww zM zM ?_ | refine jq zM zM ?_ | refine yw zM zM ?_ | refine xG zM zM ?_ | refine gC zM zM ?_ | refine z8 zM zM ?_ | refine yX zM zM ?_ | refine r_mul zM zM ?_ | refine r_shl zM zM (by decide) ?_ | refine r_shr zM zM (by decide) ?_ | refine vu zM zM zS (by rfl) ?_ | refine zG zM ?_ | refine xh (by assumption) zM ?_ | refine jb (by assumption) zM ?_ | refine xe zM ?_ | (refine xf ?_ ?_;(try exact zE)<;>(first | rfl | assumption)) | (refine xE ?_ ?_;(try exact zE)<;>(first | rfl | assumption)))
 refine dn ?_
 refine vS (vC (t:=false) zM (fun h=>by cases h) (fun _=>?_))
 refine vX ?_
 refine xG (k:=.i64) (m:=(k:Int)) (n:=10) zA rfl ?_
 by_cases h10:k=10
 ·subst h10
  have hsb':∀ i g,sub.get i=some g->UsualC P E g:=hsb rfl
  have hnl:sub.len<=65536/\sub.nums=true:=by
   rcases hk with (h | h) | h
   ·omega
   ·omega
   ·exact ⟨h.1.2,h.2⟩
  have hus:(SF.mk ((10:Nat):Int) fr to nul tag df el sub).usual (.mk n s tnl l u)=(sub.usual 0 (.mk n s tnl l u)&&(unk (known sub.tags) u).isEmpty):=by
   simp[SF.usual]
  obtain ⟨ad,cap,hsv,hget⟩:∃ ad cap,sv=.slice ad sub.len cap/\∀ i f,sub.get i=some f->i<sub.len->∃ q o c,ad=some ⟨q,o,none⟩/\q<U/\qb w q (o+i*8) c/\f.Rep w U c:=by
   rcases hsub with ⟨rfl,h0⟩ | ⟨q,o,cap,rfl,_,hq,hrep⟩
   ·exact ⟨none,0,by rw[h0],fun i f _ hi=>by omega⟩
   ·refine ⟨_,cap,rfl,fun i f hf _=>?_⟩
    obtain ⟨c,h1,h2⟩:=hrep.get hf
    exact ⟨q,o,c,rfl,hq,h1,h2⟩
  obtain ⟨z,hz,hzc⟩:=xO HL.fld
  rw[show (((10:Nat):Int)==10)=true from rfl,hus]
  (first | refine rM ?_ | refine rA ?_ | refine qY (by assumption) (by assumption) zM ?_ | refine xm zM zM ?_ | refine ww zM zM ?_ | refine jq zM zM ?_ | refine yw zM zM ?_ | refine xG zM zM ?_ | refine gC zM zM ?_ | refine z8 zM zM ?_ | refine yX zM zM ?_ | refine r_mul zM zM ?_ | refine r_shl zM zM (by decide) ?_ | refine r_shr zM zM (by decide) ?_ | refine vu zM zM zS (by rfl) ?_ | refine zG zM ?_ | refine xh (by assumption) zM ?_ | refine jb (by assumption) zM ?_ | refine xe zM ?_ | (refine xf ?_ ?_;(try exact zE)<;>(first | rfl | assumption)) | (refine xE ?_ ?_;(try exact zE)<;>(first | rfl | assumption)))
  refine dn ?_
  refine vS (vC (t:=true) zM (fun _=>?_) (fun h=>by cases h))
  refine vS (vX ?_)
  refine rF (b:=w.heap.size) (o:=0) zA (qn H.fFld (by decide)) ?_
  refine rL (b:=w.heap.size) (o:=0+7) zM H.oFlds (by simpa using f7) ?_
  refine xh (ad:=ad) (n:=sub.len) (c:=cap) H.sFlds zA ?_
  (first | refine rM ?_ | refine rA ?_ | refine qY (by assumption) (by assumption) zM ?_ | refine xm zM zM ?_ | refine ww zM zM ?_ | refine jq zM zM ?_ | refine yw zM zM ?_ | refine xG zM zM ?_ | refine gC zM zM ?_ | refine z8 zM zM ?_ | refine yX zM zM ?_ | refine r_mul zM zM ?_ | refine r_shl zM zM (by decide) ?_ | refine r_shr zM zM (by decide) ?_ | refine vu zM zM zS (by rfl) ?_ | refine zG zM ?_ | refine xh (by assumption) zM ?_ | refine jb (by assumption) zM ?_ | refine xe zM ?_ | (refine xf ?_ ?_;(try exact zE)<;>(first | rfl | assumption)) | (refine xE ?_ ?_;(try exact zE)<;>(first | rfl | assumption)))
  refine dn ?_
  refine vS (qk (xZ (fun m B V=>m<=sub.len/\B.tmps.size=91/\B.defers=[]/\B.eval (.tmp 2)=.pointer (some ⟨w.heap.size,0,none⟩)/\B.eval (.tmp 3)=.pointer (some ⟨W1.heap.size,0,none⟩)/\B.eval (.tmp 57)=sv/\B.eval (.tmp 58)=.int .i64 (sub.len:Int)/\B.eval (.tmp 59)=.int .i64 ((sub.len-m:Nat):Int)/\Below W.heap.size W V/\∀ j g,j<sub.len-m->sub.get j=some g->g.usual ((Tr.mk n s tnl l u).at j)=true) sub.len ?_ ?_ ?_))
  ·refine ⟨Nat.le_refl _,by simp only[zP];exact hs,by simp only[dF];exact hd,zA,zA,zE,zE,?_,Below.refl _ _,fun j g hj=>by omega⟩
   simp (disch:=(try simp only[sP]);omega) only[eV]
   simp
  ·rintro m B V ⟨hm,hsB,hdB,q2,q3,q57,q58,q59,hbV,hall⟩
   have hi:sub.len-(m+1)<sub.len:=by omega
   have him:sub.len-m=(sub.len-(m+1))+1:=by omega
   rw[him]
   generalize hii:sub.len-(m+1)=i at *
   obtain ⟨f,hf⟩:=SFs.get_lt sub i hi
   obtain ⟨q,o,c,rfl,hq,hc,hrc⟩:=hget i f hf hi
   have hVz:=hbV.size
   have hbUV:Below U w V:=hb.trans (hbV.mono hUW)
   have hUV:U<=V.heap.size:=by omega
   refine vX ?_
   refine xm (k:=.i64) (m:=(i:Int)) (n:=(sub.len:Int)) q59 q58 ?_
   refine dn ?_
   refine vS (vC (t:=true) ?_ ?_ (fun h=>by cases h))
   ·simp (disch:=(try simp only[sP]);omega) only[eV]
    simp only[Value.bool.injEq,decide_eq_true_eq]
    omega
   intro _
   refine vK ?_
   refine vS (qk (vX ?_))
   (first | refine rM ?_ | refine rA ?_ | refine qY (by assumption) (by assumption) zM ?_ | refine xm zM zM ?_ | refine ww zM zM ?_ | refine jq zM zM ?_ | refine yw zM zM ?_ | refine xG zM zM ?_ | refine gC zM zM ?_ | refine z8 zM zM ?_ | refine yX zM zM ?_ | refine r_mul zM zM ?_ | refine r_shl zM zM (by decide) ?_ | refine r_shr zM zM (by decide) ?_ | refine vu zM zM zS (by rfl) ?_ | refine zG zM ?_ | refine xh (by assumption) zM ?_ | refine jb (by assumption) zM ?_ | refine xe zM ?_ | (refine xf ?_ ?_;(try exact zE)<;>(first | rfl | assumption)) | (refine xE ?_ ?_;(try exact zE)<;>(first | rfl | assumption)))
   refine qH (k:=.i64) (j:=i) (b:=q) (o:=o) (len:=sub.len) (cap:=cap) H.sFlds (by simp (disch:=(try simp only[sP]);omega) only[eV,q57,hsv]) zA hi ?_
   refine qf (b:=q) (o:=o+i*8) (cs:=c) zE (by rw[hrc.len];exact H.aFld) (hc.below hbUV hq) ?_
   refine qR hz ?_
   (first | refine rM ?_ | refine rA ?_ | refine qY (by assumption) (by assumption) zM ?_ | refine xm zM zM ?_ | refine ww zM zM ?_ | refine jq zM zM ?_ | refine yw zM zM ?_ | refine xG zM zM ?_ | refine gC zM zM ?_ | refine z8 zM zM ?_ | refine yX zM zM ?_ | refine r_mul zM zM ?_ | refine r_shl zM zM (by decide) ?_ | refine r_shr zM zM (by decide) ?_ | refine vu zM zM zS (by rfl) ?_ | refine zG zM ?_ | refine xh (by assumption) zM ?_ | refine jb (by assumption) zM ?_ | refine xe zM ?_ | (refine xf ?_ ?_;(try exact zE)<;>(first | rfl | assumption)) | (refine xE ?_ ?_;(try exact zE)<;>(first | rfl | assumption)))
   refine qy (b:=V.heap.size) (o:=0) (cs:=c) zE zE hrc.one (by rw[hrc.len];exact H.aFld) ?_ ?_
   ·intro j hj
    rw[Nat.zero_add]
    exact qq V _ _ (by rw[hzc];rw[hrc.len] at hj;simpa using hj)
   refine dn ?_
   have hcf:qb (setCells (V.alloc (.cells z.cells E.tFld)) V.heap.size 0 c) V.heap.size 0 c:=by
    intro j v hj
    refine qg V.heap.size c _ 0 (fun j hj=>?_) j v hj
    rw[Nat.zero_add]
    exact (qq V z.cells E.tFld (by rw[hzc];rw[hrc.len] at hj;simpa using hj)).1
   have hb3:Below V.heap.size V (setCells (V.alloc (.cells z.cells E.tFld)) V.heap.size 0 c):=by
    refine ((Below.refl V.heap.size V).alloc (o:=.cells _ _) (Nat.le_refl _)).trans ((qe V.heap.size c _ 0).below zS (by rintro k i hk ⟨rfl,_,_⟩;omega))
   have hz3:V.heap.size<(setCells (V.alloc (.cells z.cells E.tFld)) V.heap.size 0 c).heap.size:=by
    have:=(qe V.heap.size c (V.alloc (.cells z.cells E.tFld)) 0).size
    simp at this
    omega
   generalize setCells (V.alloc (.cells z.cells E.tFld)) V.heap.size 0 c=V2 at hcf hb3 hz3 ⊢
   generalize hA:Act.put _ (some 7) _=B2
   have p2:B2.eval (.tmp 2)=.pointer (some ⟨w.heap.size,0,none⟩):=by rw[← hA];exact zA
   have p3:B2.eval (.tmp 3)=.pointer (some ⟨W1.heap.size,0,none⟩):=by rw[← hA];exact zA
   have p57:B2.eval (.tmp 57)=sv:=by rw[← hA];exact zA
   have p58:B2.eval (.tmp 58)=.int .i64 (sub.len:Int):=by rw[← hA];exact zA
   have p59:B2.eval (.tmp 59)=.int .i64 (i:Int):=by rw[← hA];exact zA
   have p7:B2.eval (.tmp 7)=.int .i64 (i:Int):=by rw[← hA];exact zA
   have p8:B2.eval (.tmp 8)=.pointer (some ⟨V.heap.size,0,none⟩):=by rw[← hA];exact zE
   have hs2:B2.tmps.size=91:=by rw[← hA];simp only[zP];exact hsB
   have hd2:B2.defers=[]:=by rw[← hA];simp only[dF];exact hdB
   clear hA
   have hbd:Below V2.heap.size V2 { V2 with drawn:=V2.drawn+1 }:=⟨rfl,rfl,rfl,Nat.le_refl _,fun _ _=>rfl⟩
   have mkS:∀ w2,Below V2.heap.size V2 w2->qb w2 V.heap.size 0 c/\qb w2 W1.heap.size 0 [Value.int .i64 n,s1,.bool tnl,lv,uv]:=fun w2 h2=>⟨hcf.below h2 zH,((tts.below hbV zH).below hb3 zH).below h2 zH⟩
   have hS:=mkS _ hbd
   have hbU3:Below U w { V2 with drawn:=V2.drawn+1 }:=(hbUV.trans (hb3.mono hUV)).trans (hbd.mono zH)
   have hUV2:U<=V2.heap.size:=by omega
   refine vS (gJ (xq [(0,true),(1,true),(2,true),(3,false),(4,false),(5,true)] (fun W'=>qb W' V.heap.size 0 c/\qb W' W1.heap.size 0 [Value.int .i64 n,s1,.bool tnl,lv,uv]) HT.mixed (by kernel_rfl) rfl (by kernel_rfl) (fun c _ _ _ h=>absurd rfl (h.1 c)) ?_))
   refine dP rfl rfl rfl (wN rfl) (by first | (simp only[zP,hs2];decide) | (rw[hs2];decide)) hS (fun w' hS'=>qf (b:=V.heap.size) (o:=0) (cs:=c) zA (by rw[hrc.len];exact H.aFld) hS'.1 (dn ⟨rfl,rfl,rfl⟩)) ?_
   refine dP rfl rfl rfl (wN rfl) (by simp only[zP,hs2];decide) hS (fun w' hS'=>qf (b:=W1.heap.size) (o:=0) (cs:=[Value.int .i64 n,s1,.bool tnl,lv,uv]) zA H.aTree hS'.2 (dn ⟨rfl,rfl,rfl⟩)) ?_
   refine dP rfl rfl rfl (wN rfl) (by simp only[zP,hs2];decide) hS (fun w' hS'=>rM (dn ⟨rfl,rfl,rfl⟩)) ?_
   refine qw rfl (wN rfl) ?_
   refine q8 (args:=#[.agg [Value.int .i64 n,s1,.bool tnl,lv,uv].toArray,.int .i64 (i:Int)]) ?_ (s_at (U:=V2.heap.size) (i:=i) H HL HT.at' ((hrt0.below hbU3).mono hUV2) (Nat.le_refl _)) ?_
   ·simp only[lM]
    simp (disch:=(try simp only[sP]);omega) only[eV,p7]
   rintro v3 w3 ⟨c2,rfl,hr2,hb4⟩
   have hV3:Below V2.heap.size V2 w3:=hbd.trans hb4
   refine dn (qv (mkS _ hV3) ?_)
   refine qw rfl (wN rfl) ?_
   refine q8 (args:=#[.agg c.toArray,.agg c2.toArray]) ?_ (hsb' i f hf V2.heap.size w3 c c2 _ hV3.size (((hrc.below hbU3).mono hUV2).below hb4) (hr2.below hb4)) ?_
   ·simp only[lM]
    exact zE
   rintro v4 w4 ⟨rfl,hb5⟩
   have hV4:Below V2.heap.size V2 w4:=hV3.trans hb5
   refine dn (qv (mkS _ hV4) ?_)
   refine dP rfl rfl rfl (wN rfl) (by simp only[zP,hs2];decide) (mkS _ hV4) (fun w' hS'=>zG (b:=f.usual ((Tr.mk n s tnl l u).at i)) zE (dn ⟨rfl,rfl,rfl⟩)) ?_
   refine xI ⟨(fun _ h=>by cases h),?_⟩
   have hbW4:Below W.heap.size W w4:=(hbV.trans (hb3.mono hVz)).trans (hV4.mono zH)
   refine vS (vC (t:=!f.usual ((Tr.mk n s tnl l u).at i)) zM ?_ ?_)
   ·intro hno
    have hno':f.usual ((Tr.mk n s tnl l u).at i)=false:=by simpa using hno
    refine vX ?_
    (first | refine rM ?_ | refine rA ?_ | refine qY (by assumption) (by assumption) zM ?_ | refine xm zM zM ?_ | refine ww zM zM ?_ | refine jq zM zM ?_ | refine yw zM zM ?_ | refine xG zM zM ?_ | refine gC zM zM ?_ | refine z8 zM zM ?_ | refine yX zM zM ?_ | refine r_mul zM zM ?_ | refine r_shl zM zM (by decide) ?_ | refine r_shr zM zM (by decide) ?_ | refine vu zM zM zS (by rfl) ?_ | refine zG zM ?_ | refine xh (by assumption) zM ?_ | refine jb (by assumption) zM ?_ | refine xe zM ?_ | (refine xf ?_ ?_;(try exact zE)<;>(first | rfl | assumption)) | (refine xE ?_ ?_;(try exact zE)<;>(first | rfl | assumption)))
    refine dn (vS (vT ?_))
    exact ⟨by simp only[dF];exact hd2,_,rO zM,by rw[SFs.usual_not sub 0 _ i f hf (by rw[Nat.zero_add];exact hno'),Bool.false_and],hb.trans (hbW4.mono hUW)⟩
   ·intro hyes
    have hyes':f.usual ((Tr.mk n s tnl l u).at i)=true:=by simpa using hyes
    refine vK (vN (vX ?_))
    refine z8 (k:=.i64) (m:=(i:Int)) (n:=1) zA rfl ?_
    (first | refine rM ?_ | refine rA ?_ | refine qY (by assumption) (by assumption) zM ?_ | refine xm zM zM ?_ | refine ww zM zM ?_ | refine jq zM zM ?_ | refine yw zM zM ?_ | refine xG zM zM ?_ | refine gC zM zM ?_ | refine z8 zM zM ?_ | refine yX zM zM ?_ | refine r_mul zM zM ?_ | refine r_shl zM zM (by decide) ?_ | refine r_shr zM zM (by decide) ?_ | refine vu zM zM zS (by rfl) ?_ | refine zG zM ?_ | refine xh (by assumption) zM ?_ | refine jb (by assumption) zM ?_ | refine xe zM ?_ | (refine xf ?_ ?_;(try exact zE)<;>(first | rfl | assumption)) | (refine xE ?_ ?_;(try exact zE)<;>(first | rfl | assumption)))
    refine dn (vN ?_)
    refine ⟨by omega,by simp only[zP];exact hs2,by simp only[dF];exact hd2,zA,zA,zA,zA,?_,hbW4,?_⟩
    ·simp (disch:=(try simp only[sP]);omega) only[eV]
     rw[wrap_i64 zH zH]
     rfl
    ·intro j g hj hg
     by_cases hji:j=i
     ·subst hji
      rw[hf] at hg
      cases hg
      exact hyes'
     ·exact hall j g zH hg
  ·rintro B V ⟨hm,hsB,hdB,q2,q3,q57,q58,q59,hbV,hall⟩
   have hVz:=hbV.size
   have hbUV:Below U w V:=hb.trans (hbV.mono hUW)
   have hUV:U<=V.heap.size:=by omega
   refine vX ?_
   refine xm (k:=.i64) (m:=((sub.len-0:Nat):Int)) (n:=(sub.len:Int)) q59 q58 ?_
   refine dn ?_
   refine vS (vC (t:=false) ?_ (fun h=>by cases h) ?_)
   ·simp (disch:=(try simp only[sP]);omega) only[eV]
    simp only[Value.bool.injEq,decide_eq_false_iff_not]
    omega
   intro _
   refine xp ?_
   simp only[Exit.then,Exit.inBlock,if_true]
   refine vN (vX ?_)
   refine rF (b:=w.heap.size) (o:=0) zA (qn H.fFld (by decide)) ?_
   refine rL (b:=w.heap.size) (o:=0+7) (v:=sv) zM H.oFlds (by rw[hbV.cell (p:=⟨w.heap.size,0+7,none⟩) (show w.heap.size<W.heap.size by omega)];simpa using f7) ?_
   refine rF (b:=W1.heap.size) (o:=0) zA (qn H.fTree (by decide)) ?_
   refine rL (b:=W1.heap.size) (o:=0+4) (v:=uv) zM H.oUnks (by rw[hbV.cell (p:=⟨W1.heap.size,0+4,none⟩) (show W1.heap.size<W.heap.size by omega)];exact tts 4 _ rfl) ?_
   refine q8 (args:=#[sv,uv]) ?_ (s_unknown H HL HT U V sv uv sub u hUV (SlF.below hsub hbUV) (SFs.nums_tags sub hnl.2) (by unfold big;omega) (hu.below hbUV)) ?_
   ·simp only[lM]
    exact zE
   rintro rv V5 ⟨hrv,hb6⟩
   obtain ⟨ad2,cap2,rfl⟩:=hrv.form
   refine xh (ad:=ad2) (n:=(unk (known sub.tags) u).length) (c:=cap2) (rB H.rUnks) zE ?_
   refine xG (k:=.i64) (m:=((unk (known sub.tags) u).length:Int)) (n:=0) zE rfl ?_
   (first | refine rM ?_ | refine rA ?_ | refine qY (by assumption) (by assumption) zM ?_ | refine xm zM zM ?_ | refine ww zM zM ?_ | refine jq zM zM ?_ | refine yw zM zM ?_ | refine xG zM zM ?_ | refine gC zM zM ?_ | refine z8 zM zM ?_ | refine yX zM zM ?_ | refine r_mul zM zM ?_ | refine r_shl zM zM (by decide) ?_ | refine r_shr zM zM (by decide) ?_ | refine vu zM zM zS (by rfl) ?_ | refine zG zM ?_ | refine xh (by assumption) zM ?_ | refine jb (by assumption) zM ?_ | refine xe zM ?_ | (refine xf ?_ ?_;(try exact zE)<;>(first | rfl | assumption)) | (refine xE ?_ ?_;(try exact zE)<;>(first | rfl | assumption)))
   refine dn (vS (vT ?_))
   refine ⟨by simp only[dF];exact hdB,_,rO zM,?_,hbUV.trans hb6⟩
   rw[SFs.usual_all sub 0 _ fun i g hg=>by rw[Nat.zero_add];exact hall i g (by have:=SFs.get_len sub i g hg;omega) hg,Bool.true_and]
   cases unk (known sub.tags) u with
   | nil=>rfl
   | cons x r =>
    simp
    omega
 have hk6:(k:Int)<=6:=by omega
 have husual:(SF.mk (k:Int) fr to nul tag df el sub).usual (.mk n s tnl l u)=decide (be (xJ k) n=be (xJ k) df):=by
  simp only[SF.usual,show ¬ (k:Int)=0 by omega,show ¬ (k:Int)=7 by omega,show ¬ (k:Int)=10 by omega,show ¬ (k:Int)=11 by omega,if_false,show ((k:Int)=8)=False from eq_false zH,show ((k:Int)=9)=False from eq_false zH,decide_false,Bool.or_self,Bool.false_eq_true,Int.toNat_natCast]
  by_cases h:be (xJ k) n=be (xJ k) df<;>simp[h]
 rw[husual,show ((k:Int)==10)=false from by simp only[beq_eq_false_iff_ne];omega]
 (first | refine rM ?_ | refine rA ?_ | refine qY (by assumption) (by assumption) zM ?_ | refine xm zM zM ?_ | refine ww zM zM ?_ | refine jq zM zM ?_ | refine yw zM zM ?_ | refine xG zM zM ?_ | refine gC zM zM ?_ | refine z8 zM zM ?_ | refine yX zM zM ?_ | refine r_mul zM zM ?_ | refine r_shl zM zM (by decide) ?_ | refine r_shr zM zM (by decide) ?_ | refine vu zM zM zS (by rfl) ?_ | refine zG zM ?_ | refine xh (by assumption) zM ?_ | refine jb (by assumption) zM ?_ | refine xe zM ?_ | (refine xf ?_ ?_;(try exact zE)<;>(first | rfl | assumption)) | (refine xE ?_ ?_;(try exact zE)<;>(first | rfl | assumption)))
 refine dn ?_
 refine vS (vC (t:=false) zM (fun h=>by cases h) (fun _=>?_))
 refine vK ?_
 generalize hA:Act.put _ (some 54) _=B
 have g2:B.eval (.tmp 2)=.pointer (some ⟨w.heap.size,0,none⟩):=by rw[← hA];exact zA
 have g3:B.eval (.tmp 3)=.pointer (some ⟨W1.heap.size,0,none⟩):=by rw[← hA];exact zA
 have hsB:B.tmps.size=91:=by rw[← hA];simp only[zP];exact hs
 have hdB:B.defers=[]:=by rw[← hA];simp only[dF];exact hd
 clear hA
 simp only[Exit.then,Exit.inBlock]
 repeat (refine vN ?_)
 have hw8:xJ k<=8:=by unfold xJ;repeat' (first | omega | split)
 have hbd:Below W.heap.size W { W with drawn:=W.drawn+1 }:=⟨rfl,rfl,rfl,Nat.le_refl _,fun _ _=>rfl⟩
 have mkS:∀ w',Below W.heap.size W w'->w'.cell? ⟨W1.heap.size,0,none⟩=some (.int .i64 n)/\w'.cell? ⟨w.heap.size,0,none⟩=some (.int .i64 k)/\w'.cell? ⟨w.heap.size,5,none⟩=some (.int .i64 df):=fun w' h =>
  ⟨by rw[h.cell (p:=⟨W1.heap.size,0,none⟩) (show W1.heap.size<W.heap.size by omega)];exact t0,by rw[h.cell (p:=⟨w.heap.size,0,none⟩) (show w.heap.size<W.heap.size by omega)];exact f0,by rw[h.cell (p:=⟨w.heap.size,5,none⟩) (show w.heap.size<W.heap.size by omega)];exact f5⟩
 have hS:=mkS _ hbd
 refine vS (xq [(0,true),(1,true),(2,true),(3,true),(6,true),(7,true),(8,true),(9,true),(4,false),(5,false),(10,false),(11,false),(12,false),(13,true)] (fun w'=>w'.cell? ⟨W1.heap.size,0,none⟩=some (.int .i64 n)/\w'.cell? ⟨w.heap.size,0,none⟩=some (.int .i64 k)/\w'.cell? ⟨w.heap.size,5,none⟩=some (.int .i64 df)) HT.mixed (by kernel_rfl) rfl (by kernel_rfl) (fun _ _ _ _ h=>False.elim h) ?_)
 refine dP rfl rfl rfl (wN rfl) (by first | (simp only[zP,hsB];decide) | (rw[hsB];decide)) hS (fun w' hS'=>rF (b:=W1.heap.size) (o:=0) zA (qn H.fTree (by decide)) (dn ⟨rfl,rfl,rfl⟩)) ?_
 refine dP rfl rfl rfl (wN rfl) (by simp only[zP,hsB];decide) hS (fun w' hS'=>rL (b:=W1.heap.size) (o:=0+0) (v:=.int .i64 n) zM H.oI64 hS'.1 (dn ⟨rfl,rfl,rfl⟩)) ?_
 refine dP rfl rfl rfl (wN rfl) (by simp only[zP,hsB];decide) hS (fun w' hS'=>rF (b:=w.heap.size) (o:=0) zA (qn H.fFld (by decide)) (dn ⟨rfl,rfl,rfl⟩)) ?_
 refine dP rfl rfl rfl (wN rfl) (by simp only[zP,hsB];decide) hS (fun w' hS'=>rL (b:=w.heap.size) (o:=0+0) (v:=.int .i64 k) zM H.oInt hS'.2.1 (dn ⟨rfl,rfl,rfl⟩)) ?_
 refine dP rfl rfl rfl (wN rfl) (by simp only[zP,hsB];decide) hS (fun w' hS'=>rF (b:=w.heap.size) (o:=0) zA (qn H.fFld (by decide)) (dn ⟨rfl,rfl,rfl⟩)) ?_
 refine dP rfl rfl rfl (wN rfl) (by simp only[zP,hsB];decide) hS (fun w' hS'=>rL (b:=w.heap.size) (o:=0+5) (v:=.int .i64 df) zM H.oI64 hS'.2.2 (dn ⟨rfl,rfl,rfl⟩)) ?_
 refine dP rfl rfl rfl (wN rfl) (by simp only[zP,hsB];decide) hS (fun w' hS'=>rF (b:=w.heap.size) (o:=0) zA (qn H.fFld (by decide)) (dn ⟨rfl,rfl,rfl⟩)) ?_
 refine dP rfl rfl rfl (wN rfl) (by simp only[zP,hsB];decide) hS (fun w' hS'=>rL (b:=w.heap.size) (o:=0+0) (v:=.int .i64 k) zM H.oInt hS'.2.1 (dn ⟨rfl,rfl,rfl⟩)) ?_
 refine qw rfl (wN rfl) ?_
 refine q8 (args:=#[.int .i64 k]) ?_ (s_width HT.width zH) ?_
 ·simp only[lM]
  exact zE
 rintro v w2 ⟨rfl,rfl⟩
 refine dn (qv hS ?_)
 refine qw rfl (wN rfl) ?_
 refine q8 (args:=#[.int .i64 n,.int .i64 (xJ k:Nat)]) ?_ (j6 (U:=W.heap.size) HT.fixed H.row H.u8 H.i64 H.int hw8 (Nat.le_refl _)) ?_
 ·simp only[lM]
  exact zE
 rintro v3 w3 ⟨h3,hb3⟩
 have hW3:Below W.heap.size W w3:=hbd.trans hb3
 refine dn (qv (mkS _ hW3) ?_)
 refine qw rfl (wN rfl) ?_
 refine q8 (args:=#[.int .i64 k]) ?_ (s_width HT.width zH) ?_
 ·simp only[lM]
  exact zE
 rintro v w4 ⟨rfl,rfl⟩
 refine dn (qv (mkS _ hW3) ?_)
 refine qw rfl (wN rfl) ?_
 refine q8 (args:=#[.int .i64 df,.int .i64 (xJ k:Nat)]) ?_ (j6 (U:=w4.heap.size) HT.fixed H.row H.u8 H.i64 H.int hw8 (Nat.le_refl _)) ?_
 ·simp only[lM]
  exact zE
 rintro v5 w5 ⟨h5,hb5⟩
 have hW5:Below W.heap.size W w5:=hW3.trans (hb5.mono hW3.size)
 have h35:=xa h3 hb5
 refine dn (qv (mkS _ hW5) ?_)
 refine qw rfl (wN rfl) ?_
 have hl1:(be (xJ k) n).length<=big:=by rw[qO];unfold big;omega
 have hl2:(be (xJ k) df).length<=big:=by rw[qO];unfold big;omega
 refine q8 (args:=#[v3,v5]) ?_ (wK (U:=w5.heap.size) H.row H.oU8 HT.mixed HT.same (xA.of_own h35) (xA.of_own h5) hl1 hl2) ?_
 ·simp only[lM]
  exact zE
 rintro v6 w6 ⟨rfl,hb6⟩
 have hW6:Below W.heap.size W w6:=hW5.trans (hb6.mono hW5.size)
 refine dn (qv (mkS _ hW6) ?_)
 refine dP rfl rfl rfl (wN rfl) (by simp only[zP,hsB];decide) (mkS _ hW6) (fun w' hS'=>rA (dn ⟨rfl,rfl,rfl⟩)) ?_
 refine xI ?_
 refine vS (vT ?_)
 exact ⟨by simp only[dF];exact hdB,_,rO zE,rfl,hb.trans (hW6.mono hUW)⟩
theorem s_usual (H:SEnv P E) (HL:SLay P E) (HT:STexts P E) {f:SF} (hk:f.num=true):UsualC P E f:=by
 refine s_usualX H HL HT f hk fun hp i g hg=>?_
 have hgp:g.plain=true:=by
  cases f with
  | mk kind fr to nul tag df el sub =>
  simp only[SF.ten,decide_eq_true_eq] at hp
  subst hp
  simp only[SF.num,SF.plain,Bool.or_eq_true,Bool.and_eq_true,decide_eq_true_eq] at hk
  rcases hk with (h | h) | h
  ·omega
  ·omega
  ·exact SFs.nums_get sub h.2 i g hg
 refine s_usualX H HL HT g (by cases g;simp only[SF.num,hgp,Bool.true_or]) fun h=>?_
 cases g with
 | mk kind fr to nul tag df el sub =>
 simp only[SF.plain,SF.ten,Bool.and_eq_true,decide_eq_true_eq] at hgp h
 omega
theorem kY {v2:Value} (h:w.ownsRow B e s v n xs) (hg:w.grownBy w' v2.ownBlock) (hne:∀ g,v.ownBlock=some g->v2.ownBlock≠some g):w'.ownsRow B e s v n xs:=by
 refine ⟨h.1,?_⟩
 rcases h.2 with h | ⟨g,cap,cur,h1,h2,h3,h4⟩
 ·exact .inl h
 ·have hl:g<w.heap.size:=(Array.getElem?_eq_some_iff.1 h3).1
  exact .inr ⟨g,cap,cur,h1,h2,by rw[hg.block g hl (fun he=>hne g (by rw[h1];rfl) he.symm)];exact h3,h4⟩
theorem own_low {C:Nat} (h:w.ownsRow B e s v n xs) (hb:Below C w w') (hlt:∀ g,v.ownBlock=some g->g<C):w'.ownsRow B e s v n xs:=by
 refine ⟨h.1,?_⟩
 rcases h.2 with h | ⟨g,cap,cur,h1,h2,h3,h4⟩
 ·exact .inl h
 ·exact .inr ⟨g,cap,cur,h1,h2,by rw[hb.block g (hlt g (by rw[h1];rfl))];exact h3,h4⟩
theorem s_partU2 (H:SEnv P E) (HL:SLay P E) (HT:STexts P E) {fs:SFs} {sv uv v9 v10:Value} {C c0:Nat} {A:Act} {W0:World} {xs ys0:List UInt8} (hs:A.tmps.size=132) (hd:A.defers=[]) (f0:A.eval (.tmp 0)=sv) (f7:A.eval (.tmp 7)=.pointer (some ⟨b,0,none⟩)) (f9:A.eval (.tmp 9)=v9) (f10:A.eval (.tmp 10)=v10) (f11:A.eval (.tmp 11)=.int .i64 (c0:Int)) (hc0:c0<=big) (hUC:U<=C) (hCW:C<=W0.heap.size) (h9:∀ g,v9.ownBlock=some g->g<C) (hsf:SlF w U sv fs) (htg:∀ t ∈ fs.tags,t<65536) (hfl:fs.len<=big) (hc:W0.cell? ⟨b,4,none⟩=some uv) (hu:yh w U uv u) (hU:U<=w.heap.size) (hw:Below U w W0) (hown:W0.ownsRow U E.tU8 1 v9 xs.length (xs.map bv)) (hown10:W0.ownsRow C E.tU8 1 v10 ys0.length (ys0.map bv)) {T:List UInt8} (hT:T=ys0++((unk (known fs.tags) u).map fun x=>kA x.1 (x.2.take 32767)).flatten) (hbig:(xs++Go.Km.uvar (c0+(unk (known fs.tags) u).length)++T).length<=big) (hQ:∀ a' w',Out P #[.tmp 8] (fun v w'=>w'.ownsRow U E.tU8 1 v (xs++Go.Km.uvar (c0+(unk (known fs.tags) u).length)++T).length ((xs++Go.Km.uvar (c0+(unk (known fs.tags) u).length)++T).map bv)/\Below U w w') .ret a' w'->Q .ret a' w'):
  vc P (sq (l_sPartU E)) Q A W0:=by
 unfold l_sPartU
 have hUW0:U<=W0.heap.size:=Nat.le_trans hU hw.size
 have hslU:=rB H.rUnks
 have hslB:=rB H.row
 obtain ⟨z,hz,hzc⟩:=rowB_zero H.rUnks
 have hun32:=unk_len (known fs.tags) u
 unfold big at hc0
 refine vS (vX (rM ?_))
 refine rF (b:=b) (o:=0) zA (qn H.fTree (by decide)) ?_
 refine rL (b:=b) (o:=0+4) zE H.oUnks (by simpa using hc) ?_
 refine q8 (args:=#[sv,uv]) ?_ (s_unknownN H HL HT U W0 sv uv fs u hUW0 (hsf.below hw) htg hfl (hu.below hw)) ?_
 ·simp only[lM]
  simp (disch:=(try simp only[sP]);omega) only[eV,f0]
 rintro rv W2 ⟨⟨es,hrow,hes,hmap⟩,hb2⟩
 generalize hun:unk (known fs.tags) u=un at *
 have hel:es.length=un.length:=by rw[← hmap,List.length_map]
 have hW02:W0.heap.size<=W2.heap.size:=hb2.size
 obtain ⟨ad,cap,hrvf⟩:∃ ad cap,rv=.slice ad un.length cap:=by
  rcases kK hrow with ⟨h,h0⟩ | ⟨g,cap,h,_⟩
  ·exact ⟨none,0,by rw[h,← hel,h0]⟩
  ·exact ⟨_,cap,by rw[h,hel]⟩
 refine xh (ad:=ad) (n:=un.length) (c:=cap) hslU zA ?_
 refine rM (dn ?_)
 have hUW2:U<=W2.heap.size:=Nat.le_trans hUW0 hb2.size
 have hown2:=xa hown hb2
 have hown102:=xa hown10 hb2
 have hrvlt:∀ g,rv.ownBlock=some g->W0.heap.size<=g/\g<W2.heap.size:=fun g hg=>by
  rcases kK hrow with ⟨h,h0⟩ | ⟨g',cap,h,_,h2,h3⟩
  ·rw[h] at hg;cases hg
  ·rw[h] at hg
   simp only[Value.ownBlock,Option.some.injEq] at hg
   omega
 refine vS (qk (xZ (fun m B V=>m<=un.length/\B.tmps.size=132/\B.defers=[]/\B.eval (.tmp 9)=v9/\B.eval (.tmp 100)=rv/\B.eval (.tmp 101)=.int .i64 (un.length:Int)/\B.eval (.tmp 102)=.int .i64 ((un.length-m:Nat):Int)/\B.eval (.tmp 11)=.int .i64 ((c0+(un.length-m):Nat):Int) ∧
  W2.heap.size<=V.heap.size/\Below C W2 V/\V.ownsRow W0.heap.size E.tUnk 2 rv es.length (fl es)/\(∀ g,(B.eval (.tmp 10)).ownBlock=some g->g<W0.heap.size\/W2.heap.size<=g) ∧
  ∃ ys:List UInt8,V.ownsRow C E.tU8 1 (B.eval (.tmp 10)) ys.length (ys.map bv)/\ys=ys0++((un.take (un.length-m)).map fun x=>kA x.1 (x.2.take 32767)).flatten) un.length ?_ ?_ ?_))
 ·refine ⟨Nat.le_refl _,by simp only[zP];exact hs,by simp only[dF];exact hd,zA,zE,zE,?_,?_,Nat.le_refl _,Below.refl _ _,hrow,?_,ys0,?_,by simp⟩
  ·simp (disch:=(try simp only[sP]);omega) only[eV]
   simp
  ·simp (disch:=(try simp only[sP]);omega) only[eV,f11]
   simp
  ·rw[show Act.eval _ (.tmp 10)=v10 by exact zA]
   exact fun g hg=>.inl (zb hown10 hg)
  ·rw[show Act.eval _ (.tmp 10)=v10 by exact zA]
   exact hown102
 ·rintro m B V ⟨hm,hsB,hdB,g9,g100,g101,g102,g11,hWV,hbV,hrowV,hblk,ys,hownY,hys⟩
  have hi:un.length-(m+1)<un.length:=by omega
  have him:un.length-m=(un.length-(m+1))+1:=by omega
  rw[him]
  generalize hii:un.length-(m+1)=i at *
  have hCV:C<=V.heap.size:=by omega
  obtain ⟨q,cap',hrv',hq⟩:∃ q cap,rv=.slice (some ⟨q,0,none⟩) un.length cap/\q<V.heap.size:=by
   rcases kK hrowV with ⟨_,h0⟩ | ⟨q,cap,h1,_,_,h2⟩
   ·omega
   ·exact ⟨q,cap,by rw[h1,hel],h2⟩
  have hie:i<es.length:=by omega
  have hcs:qb V q (0+i*2) [.int .u32 (es[i].1.1:Int),es[i].2]:=by
   rw[Nat.zero_add]
   rw[hrv',← hel] at hrowV
   exact yR hrowV (List.getElem?_eq_getElem hie)
  obtain ⟨hkey,hoc0⟩:=hes es[i] (List.getElem_mem hie)
  have hxi:es[i].1=un[i]:=by
   have:=congrArg (·[i]?) hmap
   simp[hie,hi] at this
   exact this
  have hbU2:Below U W0 V:=(hb2.mono hUW0).trans (hbV.mono hUC)
  have hoc:z9 V U es[i].2 es[i].1.2:=hoc0.below hbU2
  generalize es[i].2=s at *
  rw[hxi] at hkey hcs hoc
  have hsucc:=flat_succ un (fun x=>kA x.1 (x.2.take 32767)) i hi
  have hle:=flat_le un (fun x=>kA x.1 (x.2.take 32767)) (i+1)
  rw[hsucc] at hle
  have hTl:T.length=ys0.length+((un.map fun x=>kA x.1 (x.2.take 32767)).flatten).length:=by rw[hT,List.length_append]
  have hyl:ys.length=ys0.length+((un.take i).map fun x=>kA x.1 (x.2.take 32767)).flatten.length:=by rw[hys,List.length_append]
  rw[hsucc,← List.append_assoc,← hys]
  generalize hx:un[i]=x at *
  obtain ⟨key,oc⟩:=x
  simp only at hkey hcs hoc hle ⊢
  refine vX ?_
  refine xm (k:=.i64) (m:=(i:Int)) (n:=(un.length:Int)) g102 g101 ?_
  refine dn ?_
  refine vS (vC (t:=true) ?_ ?_ (fun h=>by cases h))
  ·simp (disch:=(try simp only[sP]);omega) only[eV]
   simp only[Value.bool.injEq,decide_eq_true_eq]
   omega
  intro _
  refine vK ?_
  refine vS (qk (vX ?_))
  refine qH (k:=.i64) (j:=i) (b:=q) (o:=0) (len:=un.length) (cap:=cap') hslU (by simp (disch:=(try simp only[sP]);omega) only[eV,g100,hrv']) zA hi ?_
  refine qf (b:=q) (o:=0+i*2) (cs:=[.int .u32 key,s]) zE H.aUnk hcs ?_
  refine qR hz ?_
  have hs1:s.oneCell'=true:=hoc.one
  refine qy (b:=V.heap.size) (o:=0) (cs:=[.int .u32 key,s]) zE zE (by intro v hv;simp only[List.mem_cons,List.not_mem_nil,or_false] at hv;rcases hv with rfl | rfl;rfl;exact hs1) H.aUnk ?_ ?_
  ·intro j hj
   rw[Nat.zero_add]
   exact qq V _ _ (by rw[hzc];simpa using hj)
  refine dn ?_
  have hcell:∀ (j:Nat) (v:Value),[Value.int .u32 key,s][j]? = some v->(setCells (V.alloc (.cells z.cells E.tUnk)) V.heap.size 0 [.int .u32 key,s]).cell? ⟨V.heap.size,0+j,none⟩=some v:=fun j v hv=>by
   refine qg V.heap.size [.int .u32 key,s] _ 0 (fun j hj=>?_) j v hv
   rw[Nat.zero_add]
   exact (qq V z.cells E.tUnk (by rw[hzc];simpa using hj)).1
  have k0:=hcell 0 _ rfl
  have k1:=hcell 1 _ rfl
  have hb3:Below V.heap.size V (setCells (V.alloc (.cells z.cells E.tUnk)) V.heap.size 0 [.int .u32 key,s]):=by
   refine ((Below.refl V.heap.size V).alloc (o:=.cells _ _) (Nat.le_refl _)).trans ((qe V.heap.size [.int .u32 key,s] _ 0).below zS (by rintro k i hk ⟨rfl,_,_⟩;omega))
  generalize setCells (V.alloc (.cells z.cells E.tUnk)) V.heap.size 0 [.int .u32 key,s]=V1 at k0 k1 hb3 ⊢
  clear hcell
  obtain ⟨ad2,cap2,rfl,hcap2,htake⟩:=hoc.form
  have hlt:oc.take (min oc.length 32767)=oc.take 32767:=by
   rcases Nat.le_total oc.length 32767 with h | h
   ·rw[Nat.min_eq_left h,List.take_length,List.take_of_length_le h]
   ·rw[Nat.min_eq_right h]
  have hln:min oc.length 32767=(oc.take 32767).length:=by rw[List.length_take,Nat.min_comm]
  have ho2:∀ w2,Below U V w2->z9 w2 U (.slice ad2 (oc.take 32767).length cap2) (oc.take 32767):=by
   intro w2 hw2
   have:=htake (min oc.length 32767) w2 (Nat.min_le_left _ _) hw2
   rwa [hlt,hln] at this
  have hol:(oc.take 32767).length<=32767:=by rw[← hln];exact Nat.min_le_right _ _
  refine vX ?_
  refine rF (b:=V.heap.size) (o:=0) zE (qn H.fUnk (by decide)) ?_
  refine rL (b:=V.heap.size) (o:=0+1) zE H.oBytes k1 ?_
  refine q8 (args:=#[.slice ad2 oc.length cap2]) ?_ (s_first (T:=E.tB) (e:=E.tU8) (c:=.skip) (.inl hslB) H.int hcap2 HT.whole) ?_
  ·simp only[lM]
   exact zE
  rintro v w' ⟨rfl,rfl⟩
  rw[hln]
  generalize oc.take 32767=s8 at *
  clear hlt hln htake
  refine rA (dn (vX (rM ?_)))
  refine rF (b:=V.heap.size) (o:=0) zE (qn H.fUnk (by decide)) ?_
  refine rL (b:=V.heap.size) (o:=0+0) zE H.oU32 k0 ?_
  refine qY (k:=.u32) (k':=.u64) (m:=(key:Int)) H.u32 H.u64 zE ?_
  have hwk:IntKind.u64.wrap (key:Int)=(key:Int):=by rw[jo];omega
  rw[hwk]
  refine q8 (args:=#[.int .u64 (key:Int)]) ?_ (s_uvar (U:=V.heap.size) HT.uvar H.row H.u8 H.u64 zH hb3.size) ?_
  ·simp only[lM]
   exact zE
  rintro v3 w3 ⟨h3,hb4⟩
  have hV3:=hb3.trans hb4
  have hownY3:=xa hownY hV3
  have hrow3:=xa hrowV hV3
  have htot:ys.length+(Go.Km.uvar key).length+(Go.Km.uvar s8.length).length+s8.length<=big:=by
   have hwl:(kA key s8).length=(Go.Km.uvar key).length+(Go.Km.uvar s8.length).length+s8.length:=by simp only[kA,List.length_append]
   rw[List.length_append,hwl] at hle
   simp only[List.length_append] at hbig
   omega
  generalize hv10:B.eval (.tmp 10)=vt at *
  have hne10:∀ (x:Value),(∀ g,x.ownBlock=some g->g<W0.heap.size\/W2.heap.size<=g)->∀ g,rv.ownBlock=some g->x.ownBlock≠some g:=fun x hx g hg he=>by
   have:=hrvlt g hg
   have:=hx g he
   omega
  refine jh (sz:=1) (U:=C) (v:=vt) (m:=(Go.Km.uvar key).length) (news:=(Go.Km.uvar key).map bv) H.row zA zE hownY3 (Nat.le_trans hCV hV3.size) (zI hslB h3 (xH _)) zH ?_
  intro v5 w5 h5 hb5 hg5 hn5
  rw[← List.length_append,← List.map_append] at h5
  have hrow5:=kY hrow3 hg5 (hne10 vt hblk)
  have hblk5:∀ g,v5.ownBlock=some g->g<W0.heap.size\/W2.heap.size<=g:=fun g hg=>by
   rcases hn5 g hg with h | h
   ·exact hblk g h
   ·have:=hV3.size
    omega
  have hV5:Below C V w5:=(hV3.mono hCV).trans hb5
  refine rM ?_
  refine xh (ad:=ad2) (n:=s8.length) (c:=cap2) hslB zE ?_
  refine qY (k:=.i64) (k':=.u64) (m:=(s8.length:Int)) H.int H.u64 zE ?_
  have hwk2:IntKind.u64.wrap (s8.length:Int)=(s8.length:Int):=by rw[jo];omega
  rw[hwk2]
  refine q8 (args:=#[.int .u64 (s8.length:Int)]) ?_ (s_uvar (U:=w5.heap.size) HT.uvar H.row H.u8 H.u64 zH (Nat.le_refl _)) ?_
  ·simp only[lM]
   exact zE
  rintro v6 w6 ⟨h6,hb6⟩
  have hW5:C<=w5.heap.size:=Nat.le_trans hCV hV5.size
  have h56:=xa h5 hb6
  have hrow6:=xa hrow5 hb6
  refine jh (sz:=1) (U:=C) (v:=v5) (m:=(Go.Km.uvar s8.length).length) (news:=(Go.Km.uvar s8.length).map bv) H.row zE zE h56 (Nat.le_trans hW5 hb6.size) (zI hslB h6 (xH _)) (by rw[List.length_append];omega) ?_
  intro v7 w7 h7 hb7 hg7 hn7
  rw[← List.length_append,← List.map_append] at h7
  have hrow7:=kY hrow6 hg7 (hne10 v5 hblk5)
  have hV56:=hV5.size
  have hV66:=hb6.size
  have hblk7:∀ g,v7.ownBlock=some g->g<W0.heap.size\/W2.heap.size<=g:=fun g hg=>by
   rcases hn7 g hg with h | h
   ·exact hblk5 g h
   ·omega
  have hV7:Below C V w7:=(hV5.trans (hb6.mono hW5)).trans hb7
  refine rM ?_
  refine jh (sz:=1) (U:=C) (v:=v7) (m:=s8.length) (news:=s8.map bv) H.row zE zE h7 (Nat.le_trans hCV hV7.size) ((ho2 w7 (hV7.mono hUC)).src hslB) (by rw[List.length_append,List.length_append];omega) ?_
  intro v8 w8 h8 hb8 hg8 hn8
  rw[← List.length_append,← List.map_append] at h8
  have hrow8:=kY hrow7 hg8 (hne10 v7 hblk7)
  have hV77:=hV7.size
  have hblk8:∀ g,v8.ownBlock=some g->g<W0.heap.size\/W2.heap.size<=g:=fun g hg=>by
   rcases hn8 g hg with h | h
   ·exact hblk7 g h
   ·omega
  have hV8:Below C V w8:=hV7.trans hb8
  refine rA (dn (vX (rM ?_)))
  refine z8 (k:=.i64) (m:=((c0+i:Nat):Int)) (n:=1) zA rfl ?_
  refine rA (dn (vN (vX ?_)))
  refine z8 (k:=.i64) (m:=(i:Int)) (n:=1) zA rfl ?_
  refine rM (dn (vN ?_))
  have hwi:IntKind.i64.wrap ((i:Int)+1)=((i+1:Nat):Int):=by rw[wrap_i64 zH zH];rfl
  have hwi2:IntKind.i64.wrap (((c0+i:Nat):Int)+1)=((c0+(i+1):Nat):Int):=by rw[wrap_i64 zH zH];omega
  refine ⟨by omega,by simp only[zP];exact hsB,by simp only[dF];exact hdB,zA,zA,zA,?_,?_,Nat.le_trans hWV hV8.size,hbV.trans hV8,hrow8,?_,ys++kA key s8,?_,rfl⟩
  ·simp (disch:=(try simp only[sP]);omega) only[eV]
   rw[hwi]
  ·simp (disch:=(try simp only[sP]);omega) only[eV]
   rw[hwi2]
  ·rw[show Act.eval _ (.tmp 10)=v8 by exact zE]
   exact hblk8
  ·rw[show Act.eval _ (.tmp 10)=v8 by exact zE]
   unfold kA
   rw[← List.append_assoc,← List.append_assoc]
   exact h8
 ·rintro B V ⟨hm,hsB,hdB,g9,g100,g101,g102,g11,hWV,hbV,hrowV,hblk,ys,hownY,hys⟩
  rw[Nat.sub_zero,List.take_length,← hT] at hys
  subst hys
  rw[Nat.sub_zero] at g102 g11
  refine vX ?_
  refine xm (k:=.i64) (m:=(un.length:Int)) (n:=(un.length:Int)) g102 g101 ?_
  refine dn ?_
  refine vS (vC (t:=false) ?_ (fun h=>by cases h) ?_)
  ·simp (disch:=(try simp only[sP]);omega) only[eV]
   simp only[Value.bool.injEq,decide_eq_false_iff_not]
   omega
  intro _
  refine xp ?_
  simp only[Exit.then,Exit.inBlock,if_true]
  refine vN (vX (rM (rM ?_)))
  refine qY (k:=.i64) (k':=.u64) (m:=((c0+un.length:Nat):Int)) H.int H.u64 zA ?_
  have hwk2:IntKind.u64.wrap ((c0+un.length:Nat):Int)=((c0+un.length:Nat):Int):=by rw[jo];omega
  rw[hwk2]
  refine q8 (args:=#[.int .u64 ((c0+un.length:Nat):Int)]) ?_ (s_uvar (U:=V.heap.size) HT.uvar H.row H.u8 H.u64 zH (Nat.le_refl _)) ?_
  ·simp only[lM]
   exact zE
  rintro v3 w3 ⟨h3,hb3⟩
  have hown3:=xa (own_low hown2 hbV h9) hb3
  have hownY3:=xa hownY hb3
  have hUV:U<=V.heap.size:=Nat.le_trans hUW2 hWV
  refine jh (sz:=1) (U:=U) (v:=v9) (m:=(Go.Km.uvar (c0+un.length)).length) (news:=(Go.Km.uvar (c0+un.length)).map bv) H.row zA zE hown3 (Nat.le_trans hUV hb3.size) (zI hslB h3 (xH _)) (by simp only[List.length_append] at hbig;omega) ?_
  intro v5 w5 h5 hb5 hg5 _
  rw[← List.length_append,← List.map_append] at h5
  have hownY5:=own_grown hownY3 hg5 h9
  refine rM ?_
  refine xD (sz:=1) (U:=U) (m:=ys.length) (news:=ys.map bv) H.row zE zE h5 (Nat.le_trans (Nat.le_trans hUV hb3.size) hb5.size) (zI hslB hownY5 (xH _)) (by rw[← List.length_append];exact hbig) ?_
  intro v7 w7 h7 hb7
  rw[← List.length_append,← List.map_append] at h7
  refine rA (dn (vS (vT ?_)))
  exact hQ _ _ ⟨by simp only[dF];exact hdB,v7,rO zE,h7,((((hw.trans (hb2.mono hUW0)).trans (hbV.mono hUC)).trans (hb3.mono hUV)).trans hb5).trans hb7⟩
end
section
def j8 (k:Nat) (r:Rec):Option (Nat × List UInt8):=if decide (r.1=((k:Nat):Int)) && !r.2.2.1 then some ((k:Nat),r.2.2.2) else none
def vj (k:Nat) (r:Rec):List UInt8:=match j8 k r with | some x=>kA x.1 x.2 | none=>[]
def gn (k:Nat) (r:Rec):Nat:=match j8 k r with | some _=>1 | none=>0
def KeepT (a a':Act):Prop:=∀ j:Nat,(j=0\/j=1\/j=2\/j=7\/j=9\/j=14\/j=51\/j=52\/j=55\/j=56\/j=57)->a'.eval (.tmp j)=a.eval (.tmp j)
attribute [local irreducible] vc rO_ qz qP qJ
theorem s_tagOne (H:SEnv P E) (HL:SLay P E) (HT:STexts P E) {ver:Int} {f:SF} {t:Tr} {zs:List UInt8} {C c0 i q len:Nat} {B:Act} {V:World} (hs:B.tmps.size=132) (hd:B.defers=[]) (g1:B.eval (.tmp 1)=.int .i64 ver) (g2:B.eval (.tmp 2)=.bool fx) (g7:B.eval (.tmp 7)=.pointer (some ⟨b,0,none⟩)) (g14:B.eval (.tmp 14)=.int .i64 (k:Int)) (g55:B.eval (.tmp 55)=.slice (some ⟨q,o,none⟩) len cap) (g57:B.eval (.tmp 57)=.int .i64 (i:Int)) (g11:B.eval (.tmp 11)=.int .i64 (c0:Int)) (hi:i<len) (hq:qb V q (o+i*8) cs) (hrc:f.Rep V U cs) (hts:qb V b 0 ts) (hrt:t.Rep V U ts) (hUC:U<=C) (hCV:C<=V.heap.size) (hbC:b<C) (hk:k<65536) (hc0:c0<=big) (hown:V.ownsRow C E.tU8 1 (B.eval (.tmp 10)) zs.length (zs.map bv)) (hnum:f.tag=(k:Int)->f.num=true) (hfc:FieldC P E ver fx f) (hbig:(zs++vj k (f.tag,f.has ver,f.usual (t.at i),f.wr ver fx (t.at i))).length<=big) (kn:∀ A' V',A'.tmps.size=132->A'.defers=[]->KeepT B A'->A'.eval (.tmp 11)=.int .i64 ((c0+gn k (f.tag,f.has ver,f.usual (t.at i),f.wr ver fx (t.at i)):Nat):Int)->Below C V V' →
   V'.ownsRow C E.tU8 1 (A'.eval (.tmp 10)) (zs++vj k (f.tag,f.has ver,f.usual (t.at i),f.wr ver fx (t.at i))).length ((zs++vj k (f.tag,f.has ver,f.usual (t.at i),f.wr ver fx (t.at i))).map bv)->Q .normal A' V'):
  vc P (k_sPartT E) Q B V:=by
 unfold k_sPartT
 have hslB:=rB H.row
 have hUV:U<=V.heap.size:=Nat.le_trans hUC hCV
 obtain ⟨z,hz,hzc⟩:=xO HL.fld
 refine vX (rM ?_)
 refine qH (k:=.i64) (j:=i) (b:=q) (o:=o) (len:=len) (cap:=cap) H.sFlds zA zA hi ?_
 refine qf (b:=q) (o:=o+i*8) (cs:=cs) zE (by rw[hrc.len];exact H.aFld) hq ?_
 refine qR hz ?_
 refine rA ?_
 refine qy (b:=V.heap.size) (o:=0) (cs:=cs) zE zE hrc.one (by rw[hrc.len];exact H.aFld) ?_ ?_
 ·intro j hj
  rw[Nat.zero_add]
  exact qq V _ _ (by rw[hzc];rw[hrc.len] at hj;simpa using hj)
 refine dn ?_
 have hcell:qb (setCells (V.alloc (.cells z.cells E.tFld)) V.heap.size 0 cs) V.heap.size 0 cs:=by
  intro j v hv
  refine qg V.heap.size cs _ 0 (fun j hj=>?_) j _ hv
  rw[Nat.zero_add]
  exact (qq V z.cells E.tFld (by rw[hzc];rw[hrc.len] at hj;simpa using hj)).1
 have hb2:Below V.heap.size V (setCells (V.alloc (.cells z.cells E.tFld)) V.heap.size 0 cs):=by
  refine ((Below.refl V.heap.size V).alloc (o:=.cells _ _) (Nat.le_refl _)).trans ((qe V.heap.size cs _ 0).below zS (by rintro k i hk ⟨rfl,_,_⟩;omega))
 have hz2:V.heap.size<(setCells (V.alloc (.cells z.cells E.tFld)) V.heap.size 0 cs).heap.size:=by
  have:=(qe V.heap.size cs (V.alloc (.cells z.cells E.tFld)) 0).size
  simp at this
  omega
 have hc4:qb (setCells (V.alloc (.cells z.cells E.tFld)) V.heap.size 0 cs) V.heap.size 4 [.int .i64 f.tag]:=by
  intro j v hv
  cases j with
  | zero =>
   simp only[List.getElem?_cons_zero,Option.some.injEq] at hv
   subst hv
   have:=hcell 4 (.int .i64 f.tag) (by cases f with | mk=>obtain ⟨sv2,rfl,_⟩:=hrc;rfl)
   simpa using this
  | succ j=>simp at hv
 generalize setCells (V.alloc (.cells z.cells E.tFld)) V.heap.size 0 cs=V1 at hcell hb2 hz2 hc4 ⊢
 generalize hG:(((((B.put (some 59) _).put (some 60) _).put (some 61) _).put (some 16) _).put (some 15) _)=G
 have hsG:G.tmps.size=132:=by rw[← hG];simp only[zP];exact hs
 have hdG:G.defers=[]:=by rw[← hG];simp only[dF];exact hd
 have hkG:KeepT B G:=by rw[← hG];rintro j (rfl | rfl | rfl | rfl | rfl | rfl | rfl | rfl | rfl | rfl | rfl)<;>exact zE
 have k11:G.eval (.tmp 11)=.int .i64 (c0:Int):=by rw[← hG];exact zA
 have k10:G.eval (.tmp 10)=B.eval (.tmp 10):=by rw[← hG];exact zE
 have k15:G.eval (.tmp 15)=.int .i64 (i:Int):=by rw[← hG];exact zA
 have k16:G.eval (.tmp 16)=.pointer (some ⟨V.heap.size,0,none⟩):=by rw[← hG];exact zE
 have k1:G.eval (.tmp 1)=.int .i64 ver:=(hkG 1 zS).trans g1
 have k2:G.eval (.tmp 2)=.bool fx:=(hkG 2 zS).trans g2
 have k7:G.eval (.tmp 7)=.pointer (some ⟨b,0,none⟩):=(hkG 7 zS).trans g7
 have k14:G.eval (.tmp 14)=.int .i64 (k:Int):=(hkG 14 zS).trans g14
 rw[← k10] at hown
 clear hG
 have hbd:Below V1.heap.size V1 { V1 with drawn:=V1.drawn+1 }:=⟨rfl,rfl,rfl,Nat.le_refl _,fun _ _=>rfl⟩
 have mkS:∀ w2,Below V1.heap.size V1 w2->qb w2 V.heap.size 0 cs/\qb w2 V.heap.size 4 [.int .i64 f.tag]/\qb w2 b 0 ts:=fun w2 h2=>⟨hcell.below h2 hz2,hc4.below h2 hz2,(hts.below hb2 zH).below h2 zH⟩
 have hS:=mkS _ hbd
 have hS0:({ V1 with drawn:=V1.drawn+1 }:World).heap.size=V1.heap.size:=rfl
 by_cases htag:f.tag=(k:Int)
 ·have hb:(f.tag==(k:Int))=true:=by simpa using htag
  have hV1d:Below U V { V1 with drawn:=V1.drawn+1 }:=(hb2.mono hUV).trans (hbd.mono zH)
  have hUV1:U<=V1.heap.size:=by omega
  have hrc1:f.Rep { V1 with drawn:=V1.drawn+1 } V1.heap.size cs:=(hrc.below hV1d).mono hUV1
  have hrt1:t.Rep { V1 with drawn:=V1.drawn+1 } V1.heap.size ts:=(hrt.below hV1d).mono hUV1
  refine vS (gJ (xq [(0,true),(1,true),(2,true),(3,true),(4,true),(5,true),(6,true),(7,true),(8,false),(9,false),(10,true),(11,true)] (fun W'=>qb W' V.heap.size 0 cs/\qb W' V.heap.size 4 [.int .i64 f.tag]/\qb W' b 0 ts) HT.mixed (by kernel_rfl) rfl (by kernel_rfl) (fun c _ _ _ h=>absurd rfl (h.1 c)) ?_))
  refine dP rfl rfl rfl (wN rfl) (by simp only[zP,hsG];decide) hS (fun w' hS'=>rF (b:=V.heap.size) (o:=0) zA (qn H.fFld (by decide)) (dn ⟨rfl,rfl,rfl⟩)) ?_
  refine dP rfl rfl rfl (wN rfl) (by simp only[zP,hsG];decide) hS (fun w' hS'=>rL (b:=V.heap.size) (o:=0+4) (v:=.int .i64 f.tag) zM H.oInt (by simpa using hS'.2.1 0 _ rfl) (dn ⟨rfl,rfl,rfl⟩)) ?_
  refine dP rfl rfl rfl (wN rfl) (by simp only[zP,hsG];decide) hS (fun w' hS'=>rM (dn ⟨rfl,rfl,rfl⟩)) ?_
  refine dP rfl rfl rfl (wN rfl) (by simp only[zP,hsG];decide) hS (fun w' hS'=>xG (k:=.i64) (m:=f.tag) (n:=(k:Int)) zE zA (dn ⟨rfl,rfl,rfl⟩)) ?_
  rw[hb]
  refine dP rfl rfl rfl (wN rfl) (by simp only[zP,hsG];decide) hS (fun w' hS'=>rM (dn ⟨rfl,rfl,rfl⟩)) ?_
  refine dP rfl rfl rfl (by rw[wS (b:=true) rfl rfl zM];rfl) (by simp only[zP,hsG];decide) hS (fun w' hS'=>qf (b:=V.heap.size) (o:=0) (cs:=cs) zA (by rw[hrc.len];exact H.aFld) hS'.1 (dn ⟨rfl,rfl,rfl⟩)) ?_
  refine dP rfl rfl rfl (by rw[wS (b:=true) rfl rfl zM];rfl) (by simp only[zP,hsG];decide) hS (fun w' hS'=>qf (b:=b) (o:=0) (cs:=ts) zA (by rw[hrt.len];exact H.aTree) hS'.2.2 (dn ⟨rfl,rfl,rfl⟩)) ?_
  refine dP rfl rfl rfl (by rw[wS (b:=true) rfl rfl zM];rfl) (by simp only[zP,hsG];decide) hS (fun w' hS'=>rM (dn ⟨rfl,rfl,rfl⟩)) ?_
  refine qw rfl (by rw[wS (b:=true) rfl rfl zM];rfl) ?_
  refine q8 (args:=#[.agg ts.toArray,.int .i64 (i:Int)]) ?_ (s_at (U:=V1.heap.size) (i:=i) H HL HT.at' hrt1 (Nat.le_refl _)) ?_
  ·simp only[lM]
   simp (disch:=(try simp only[sP]);omega) only[eV,k15]
  rintro v3 w3 ⟨c2,rfl,hr2,hb4⟩
  have hV3:Below V1.heap.size V1 w3:=hbd.trans hb4
  refine dn (qv (mkS _ hV3) ?_)
  refine qw rfl (by rw[wS (b:=true) rfl rfl zM];rfl) ?_
  refine q8 (args:=#[.agg cs.toArray,.agg c2.toArray]) ?_ (s_usual H HL HT (hnum htag) V1.heap.size w3 cs c2 (t.at i) hV3.size (hrc1.below hb4) (hr2.below hb4)) ?_
  ·simp only[lM]
   exact zE
  rintro v4 w4 ⟨rfl,hb5⟩
  have hV4:Below V1.heap.size V1 w4:=hV3.trans hb5
  refine dn (qv (mkS _ hV4) ?_)
  refine dP rfl rfl rfl (by rw[wS (b:=true) rfl rfl zM];rfl) (by simp only[zP,hsG];decide) (mkS _ hV4) (fun w' hS'=>zG (b:=f.usual (t.at i)) zE (dn ⟨rfl,rfl,rfl⟩)) ?_
  refine dP rfl rfl rfl (wN rfl) (by simp only[zP,hsG];decide) (mkS _ hV4) (fun w' hS'=>xf zE (dn ⟨rfl,rfl,rfl⟩)) ?_
  refine xI ⟨(fun _ h=>by cases h),?_⟩
  generalize hA:Act.put _ (some 73) _=A
  have hsA:A.tmps.size=132:=by rw[← hA];simp only[zP];exact hsG
  have hdA:A.defers=[]:=by rw[← hA];simp only[dF];exact hdG
  have hkA:KeepT B A:=by
   intro j hj
   rw[← hkG j hj,← hA]
   rcases hj with rfl | rfl | rfl | rfl | rfl | rfl | rfl | rfl | rfl | rfl | rfl<;>exact zE
  have a11:A.eval (.tmp 11)=.int .i64 (c0:Int):=by rw[← hA];exact zA
  have a10:A.eval (.tmp 10)=G.eval (.tmp 10):=by rw[← hA];exact zE
  have a15:A.eval (.tmp 15)=.int .i64 (i:Int):=by rw[← hA];exact zA
  have a16:A.eval (.tmp 16)=.pointer (some ⟨V.heap.size,0,none⟩):=by rw[← hA];exact zA
  have a73:A.eval (.tmp 73)=.bool (!f.usual (t.at i)):=by rw[← hA];exact zE
  rw[← a10] at hown
  clear hA
  have hVV4:Below V.heap.size V w4:=hb2.trans (hV4.mono zH)
  have hown4:=xa hown hVV4
  refine vS (vC a73 ?_ ?_)
  ·intro hus
   have hus':f.usual (t.at i)=false:=by simpa using hus
   have hone:j8 k (f.tag,f.has ver,f.usual (t.at i),f.wr ver fx (t.at i))=some (k,f.wr ver fx (t.at i)):=by
    unfold j8
    simp[htag,hus']
   have hput:vj k (f.tag,f.has ver,f.usual (t.at i),f.wr ver fx (t.at i))=kA k (f.wr ver fx (t.at i)):=by unfold vj;rw[hone]
   have hcnt:gn k (f.tag,f.has ver,f.usual (t.at i),f.wr ver fx (t.at i))=1:=by unfold gn;rw[hone]
   rw[hput] at hbig
   rw[hput,hcnt] at kn
   have a1:A.eval (.tmp 1)=.int .i64 ver:=(hkA 1 zS).trans g1
   have a2:A.eval (.tmp 2)=.bool fx:=(hkA 2 zS).trans g2
   have a7:A.eval (.tmp 7)=.pointer (some ⟨b,0,none⟩):=(hkA 7 zS).trans g7
   have a14:A.eval (.tmp 14)=.int .i64 (k:Int):=(hkA 14 zS).trans g14
   have hwl:(kA k (f.wr ver fx (t.at i))).length=(Go.Km.uvar k).length+(Go.Km.uvar (f.wr ver fx (t.at i)).length).length+(f.wr ver fx (t.at i)).length:=by simp only[kA,List.length_append]
   rw[List.length_append,hwl] at hbig
   generalize hfw:f.wr ver fx (t.at i)=fw at *
   have hbd4:Below w4.heap.size w4 { w4 with drawn:=w4.drawn+1 }:=⟨rfl,rfl,rfl,Nat.le_refl _,fun _ _=>rfl⟩
   have hV4z:=hV4.size
   have mkS4:∀ w2,Below w4.heap.size w4 w2->qb w2 V.heap.size 0 cs/\qb w2 V.heap.size 4 [.int .i64 f.tag]/\qb w2 b 0 ts:=fun w2 h2=>mkS w2 (hV4.trans (h2.mono hV4z))
   have hV4d:Below U V { w4 with drawn:=w4.drawn+1 }:=(hVV4.mono hUV).trans (hbd4.mono zH)
   have hUw4:U<=w4.heap.size:=by omega
   have hrc4:f.Rep { w4 with drawn:=w4.drawn+1 } w4.heap.size cs:=(hrc.below hV4d).mono hUw4
   have hrt4:t.Rep { w4 with drawn:=w4.drawn+1 } w4.heap.size ts:=(hrt.below hV4d).mono hUw4
   refine vS (gJ (xq [(0,true),(1,true),(2,true),(3,true),(4,true),(5,false),(6,false),(7,true)] (fun W'=>qb W' V.heap.size 0 cs/\qb W' V.heap.size 4 [.int .i64 f.tag]/\qb W' b 0 ts) HT.mixed (by kernel_rfl) rfl (by kernel_rfl) (fun c _ _ _ h=>absurd rfl (h.1 c)) ?_))
   have hS4:=mkS4 _ hbd4
   refine dP rfl rfl rfl (wN rfl) (by simp only[zP,hsA];decide) hS4 (fun w' hS'=>qf (b:=V.heap.size) (o:=0) (cs:=cs) zA (by rw[hrc.len];exact H.aFld) hS'.1 (dn ⟨rfl,rfl,rfl⟩)) ?_
   refine dP rfl rfl rfl (wN rfl) (by simp only[zP,hsA];decide) hS4 (fun w' hS'=>rM (dn ⟨rfl,rfl,rfl⟩)) ?_
   refine dP rfl rfl rfl (wN rfl) (by simp only[zP,hsA];decide) hS4 (fun w' hS'=>rM (dn ⟨rfl,rfl,rfl⟩)) ?_
   refine dP rfl rfl rfl (wN rfl) (by simp only[zP,hsA];decide) hS4 (fun w' hS'=>qf (b:=b) (o:=0) (cs:=ts) zA (by rw[hrt.len];exact H.aTree) hS'.2.2 (dn ⟨rfl,rfl,rfl⟩)) ?_
   refine dP rfl rfl rfl (wN rfl) (by simp only[zP,hsA];decide) hS4 (fun w' hS'=>rM (dn ⟨rfl,rfl,rfl⟩)) ?_
   refine qw rfl (wN rfl) ?_
   refine q8 (args:=#[.agg ts.toArray,.int .i64 (i:Int)]) ?_ (s_at (U:=w4.heap.size) (i:=i) H HL HT.at' hrt4 (Nat.le_refl _)) ?_
   ·simp only[lM]
    simp (disch:=(try simp only[sP]);omega) only[eV,a15]
   rintro v5 w5 ⟨c3,rfl,hr5,hb6⟩
   refine dn (qv (mkS4 _ (hbd4.trans hb6)) ?_)
   refine qw rfl (wN rfl) ?_
   refine q8 (args:=#[.agg cs.toArray,.int .i64 ver,.bool fx,.agg c3.toArray]) ?_ (hfc w4.heap.size w5 cs (t.at i) c3 hb6.size (hrc4.below hb6) (hr5.below hb6) (by rw[hfw];omega)) ?_
   ·simp only[lM]
    simp (disch:=(try simp only[sP]);omega) only[eV,a1,a2]
   rintro v6 w6 ⟨h6,hb7⟩
   rw[hfw] at h6
   have hW6:Below w4.heap.size w4 w6:=(hbd4.trans hb6).trans hb7
   refine dn (qv (mkS4 _ hW6) ?_)
   refine dP rfl rfl rfl (wN rfl) (by simp only[zP,hsA];decide) (mkS4 _ hW6) (fun w' hS'=>rA (dn ⟨rfl,rfl,rfl⟩)) ?_
   refine xI ⟨(fun _ h=>by cases h),?_⟩
   generalize hA:Act.put _ (some 17) _=A3
   have hsA3:A3.tmps.size=132:=by rw[← hA];simp only[zP];exact hsA
   have hdA3:A3.defers=[]:=by rw[← hA];simp only[dF];exact hdA
   have hkA3:KeepT B A3:=by
    intro j hj
    rw[← hkA j hj,← hA]
    rcases hj with rfl | rfl | rfl | rfl | rfl | rfl | rfl | rfl | rfl | rfl | rfl<;>exact zE
   have b11:A3.eval (.tmp 11)=.int .i64 (c0:Int):=by rw[← hA];exact zA
   have b10:A3.eval (.tmp 10)=A.eval (.tmp 10):=by rw[← hA];exact zE
   have b14:A3.eval (.tmp 14)=.int .i64 (k:Int):=(hkA3 14 zS).trans g14
   have b17:A3.eval (.tmp 17)=v6:=by rw[← hA];exact zE
   clear hA
   rw[← b10] at hown4
   have hown6:=xa hown4 hW6
   generalize hvt:A3.eval (.tmp 10)=vt at *
   have hvtlt:∀ g,vt.ownBlock=some g->g<w4.heap.size:=fun g hg=>zb hown4 hg
   have hCw4:C<=w4.heap.size:=by omega
   have hW6z:=hW6.size
   have hv6:∀ g,v6.ownBlock=some g->w4.heap.size<=g/\g<w6.heap.size:=fun g hg=>⟨by
    rcases h6.2 with ⟨h,_⟩ | ⟨g',cap,cur,h1,h2,_⟩
    ·rw[h] at hg;cases hg
    ·rw[h1] at hg
     simp only[Value.ownBlock,Option.some.injEq] at hg
     omega,zb h6 hg⟩
   refine vX (rM (rM ?_))
   refine qY (k:=.i64) (k':=.u64) (m:=(k:Int)) H.int H.u64 zA ?_
   have hwk:IntKind.u64.wrap (k:Int)=(k:Int):=by rw[jo];omega
   rw[hwk]
   refine q8 (args:=#[.int .u64 (k:Int)]) ?_ (s_uvar (U:=w6.heap.size) HT.uvar H.row H.u8 H.u64 zH (Nat.le_refl _)) ?_
   ·simp only[lM]
    exact zE
   rintro v7 w7 ⟨h7,hb8⟩
   have hown7:=xa hown6 hb8
   have h67:=xa h6 hb8
   have hW7z:=hb8.size
   refine jh (sz:=1) (U:=C) (v:=vt) (m:=(Go.Km.uvar k).length) (news:=(Go.Km.uvar k).map bv) H.row zA zE hown7 zH (zI hslB h7 (xH _)) zH ?_
   intro v8 w8 h8 hb9 hg9 hn9
   rw[← List.length_append,← List.map_append] at h8
   have h68:=kY h67 hg9 (fun g hg he=>by have:=hv6 g hg;have:=hvtlt g he;omega)
   have hv8:∀ g,v8.ownBlock=some g->g<w4.heap.size\/w6.heap.size<=g:=fun g hg=>by
    rcases hn9 g hg with h | h
    ·exact .inl (hvtlt g h)
    ·omega
   have hW8z:=hb9.size
   refine rM ?_
   obtain ⟨ad6,cap6,hf6⟩:=(xA.of_own h68).form
   refine xh (ad:=ad6) (n:=fw.length) (c:=cap6) hslB (by simp (disch:=(try simp only[sP]);omega) only[eV,b17,hf6]) ?_
   refine qY (k:=.i64) (k':=.u64) (m:=(fw.length:Int)) H.int H.u64 zE ?_
   have hwk2:IntKind.u64.wrap (fw.length:Int)=(fw.length:Int):=by rw[jo];unfold big at hbig;omega
   rw[hwk2]
   refine q8 (args:=#[.int .u64 (fw.length:Int)]) ?_ (s_uvar (U:=w8.heap.size) HT.uvar H.row H.u8 H.u64 (by unfold big at hbig;omega) (Nat.le_refl _)) ?_
   ·simp only[lM]
    exact zE
   rintro v9 w9 ⟨h9,hb10⟩
   have h89:=xa h8 hb10
   have h69:=xa h68 hb10
   have hW9z:=hb10.size
   refine jh (sz:=1) (U:=C) (v:=v8) (m:=(Go.Km.uvar fw.length).length) (news:=(Go.Km.uvar fw.length).map bv) H.row zE zE h89 zH (zI hslB h9 (xH _)) (by rw[List.length_append];omega) ?_
   intro v10 w10 h10 hb11 hg11 hn11
   rw[← List.length_append,← List.map_append] at h10
   have h610:=kY h69 hg11 (fun g hg he=>by have:=hv6 g hg;have:=hv8 g he;omega)
   have hW10z:=hb11.size
   refine rM ?_
   refine xD (sz:=1) (U:=C) (m:=fw.length) (news:=fw.map bv) H.row zE zA h10 zH (zI hslB h610 (xH _)) (by rw[List.length_append,List.length_append];omega) ?_
   intro v11 w11 h11 hb12
   rw[← List.length_append,← List.map_append] at h11
   refine rA (dn (vX (rM ?_)))
   refine z8 (k:=.i64) (m:=(c0:Int)) (n:=1) zA rfl ?_
   refine rA (dn ?_)
   repeat (refine vN ?_)
   have hwi:IntKind.i64.wrap ((c0:Int)+1)=((c0+1:Nat):Int):=by unfold big at hc0;rw[wrap_i64 zH zH];rfl
   refine kn _ w11 (by simp only[zP];exact hsA3) (by simp only[dF];exact hdA3) ?_ ?_ ?_ ?_
   ·intro j hj
    rw[← hkA3 j hj]
    rcases hj with rfl | rfl | rfl | rfl | rfl | rfl | rfl | rfl | rfl | rfl | rfl<;>exact zE
   ·simp (disch:=(try simp only[sP]);omega) only[eV]
    rw[hwi]
   ·exact ((((((hVV4.mono hCV).trans (hW6.mono hCw4)).trans (hb8.mono zH)).trans hb9).trans (hb10.mono zH)).trans hb11).trans hb12
   ·rw[show Act.eval _ (.tmp 10)=v11 by exact zE]
    unfold kA
    rw[← List.append_assoc,← List.append_assoc]
    exact h11
  ·intro hus
   have hus':f.usual (t.at i)=true:=by simpa using hus
   have hone:j8 k (f.tag,f.has ver,f.usual (t.at i),f.wr ver fx (t.at i))=none:=by
    unfold j8
    simp[hus']
   have hput:vj k (f.tag,f.has ver,f.usual (t.at i),f.wr ver fx (t.at i))=[]:=by unfold vj;rw[hone]
   have hcnt:gn k (f.tag,f.has ver,f.usual (t.at i),f.wr ver fx (t.at i))=0:=by unfold gn;rw[hone]
   rw[hput,hcnt,List.append_nil,Nat.add_zero] at kn
   exact vK (vN (kn A w4 hsA hdA hkA a11 (hVV4.mono hCV) hown4))
 ·have hb:(f.tag==(k:Int))=false:=by simpa using htag
  have hone:j8 k (f.tag,f.has ver,f.usual (t.at i),f.wr ver fx (t.at i))=none:=by
   unfold j8
   simp[htag]
  have hput:vj k (f.tag,f.has ver,f.usual (t.at i),f.wr ver fx (t.at i))=[]:=by unfold vj;rw[hone]
  have hcnt:gn k (f.tag,f.has ver,f.usual (t.at i),f.wr ver fx (t.at i))=0:=by unfold gn;rw[hone]
  rw[hput,hcnt,List.append_nil,Nat.add_zero] at kn
  refine vS (gJ (xq [(0,true),(1,true),(2,true),(3,true),(4,true),(5,true),(6,true),(7,true),(8,true),(9,true),(10,true),(11,true)] (fun W'=>qb W' V.heap.size 0 cs/\qb W' V.heap.size 4 [.int .i64 f.tag]/\qb W' b 0 ts) HT.mixed (by kernel_rfl) rfl (by kernel_rfl) (fun c _ _ _ h=>absurd rfl (h.1 c)) ?_))
  refine dP rfl rfl rfl (wN rfl) (by simp only[zP,hsG];decide) hS (fun w' hS'=>rF (b:=V.heap.size) (o:=0) zA (qn H.fFld (by decide)) (dn ⟨rfl,rfl,rfl⟩)) ?_
  refine dP rfl rfl rfl (wN rfl) (by simp only[zP,hsG];decide) hS (fun w' hS'=>rL (b:=V.heap.size) (o:=0+4) (v:=.int .i64 f.tag) zM H.oInt (by simpa using hS'.2.1 0 _ rfl) (dn ⟨rfl,rfl,rfl⟩)) ?_
  refine dP rfl rfl rfl (wN rfl) (by simp only[zP,hsG];decide) hS (fun w' hS'=>rM (dn ⟨rfl,rfl,rfl⟩)) ?_
  refine dP rfl rfl rfl (wN rfl) (by simp only[zP,hsG];decide) hS (fun w' hS'=>xG (k:=.i64) (m:=f.tag) (n:=(k:Int)) zE zA (dn ⟨rfl,rfl,rfl⟩)) ?_
  rw[hb]
  refine dP rfl rfl rfl (wN rfl) (by simp only[zP,hsG];decide) hS (fun w' hS'=>rM (dn ⟨rfl,rfl,rfl⟩)) ?_
  refine d_no rfl rfl (by rw[wS (b:=false) rfl rfl zM];rfl) hS ?_
  refine d_no rfl rfl (by rw[wS (b:=false) rfl rfl zM];rfl) hS ?_
  refine d_no rfl rfl (by rw[wS (b:=false) rfl rfl zM];rfl) hS ?_
  refine d_no rfl rfl (by rw[wS (b:=false) rfl rfl zM];rfl) hS ?_
  refine d_no rfl rfl (by rw[wS (b:=false) rfl rfl zM];rfl) hS ?_
  refine d_no rfl rfl (by rw[wS (b:=false) rfl rfl zM];rfl) hS ?_
  refine dP rfl rfl rfl (wN rfl) (by simp only[zP,hsG];decide) hS (fun w' hS'=>xE zE (dn ⟨rfl,rfl,rfl⟩)) ?_
  refine xI ⟨(fun _ h=>by cases h),?_⟩
  refine vS (vC (t:=false) zM (fun h=>by cases h) (fun _=>?_))
  have hVV1:Below V.heap.size V { V1 with drawn:=V1.drawn+1 }:=hb2.trans (hbd.mono zH)
  refine vK (vN (kn _ _ (by simp only[zP];exact hsG) (by simp only[dF];exact hdG) ?_ zA (hVV1.mono hCV) ?_))
  ·intro j hj
   rw[← hkG j hj]
   rcases hj with rfl | rfl | rfl | rfl | rfl | rfl | rfl | rfl | rfl | rfl | rfl<;>exact zE
  ·rw[show Act.eval _ (.tmp 10)=G.eval (.tmp 10) by exact zE]
   exact xa hown hVV1
def tgB (l:List (Nat × List UInt8)):List UInt8:=(l.map fun x=>kA x.1 x.2).flatten
def j9 (rs:List Rec) (kn:Nat):List (Nat × List UInt8):=(List.range kn).flatMap fun k=>rs.filterMap (j8 k)
theorem vV (a b:List (Nat × List UInt8)):tgB (a++b)=tgB a++tgB b:=by unfold tgB;rw[List.map_append,List.flatten_append]
theorem uvarS_pos (n:Nat):1<=(Go.Km.uvar n).length:=by
 unfold Go.Km.uvar
 show 1<=(uvF 9 n).length
 simp only[uvF]
 split<;>simp
theorem tgB_len:∀ l,l.length<=(tgB l).length
 | []=>by simp
 | x::l=>by
  have:=tgB_len l
  have h2:=uvarS_pos x.1
  have h3:tgB (x::l)=kA x.1 x.2++tgB l:=by simp[tgB]
  have h4:(kA x.1 x.2).length=(Go.Km.uvar x.1).length+(Go.Km.uvar x.2.length).length+x.2.length:=by simp only[kA,List.length_append]
  rw[h3,List.length_append,h4,List.length_cons]
  omega
theorem yH (rs:List Rec) (k:Nat):j9 rs (k+1)=j9 rs k++rs.filterMap (j8 k):=by
 unfold j9
 rw[List.range_succ,List.flatMap_append]
 simp
theorem tgAll_le (rs:List Rec) (h:k<=n):(tgB (j9 rs k)).length<=(tgB (j9 rs n)).length:=by
 induction n with
 | zero =>
  have:k=0:=by omega
  subst this
  exact Nat.le_refl _
 | succ n ih =>
  rcases Nat.eq_or_lt_of_le h with rfl | h
  ·exact Nat.le_refl _
  ·rw[yH,vV,List.length_append]
   have:=ih zH
   omega
theorem tgTake (rs:List Rec) (k i:Nat) (hi:i<rs.length):tgB ((rs.take (i+1)).filterMap (j8 k))=tgB ((rs.take i).filterMap (j8 k))++vj k rs[i]/\((rs.take (i+1)).filterMap (j8 k)).length=((rs.take i).filterMap (j8 k)).length+gn k rs[i]:=by
 rw[List.take_succ_eq_append_getElem hi,List.filterMap_append]
 unfold vj gn
 cases h:j8 k rs[i] with
 | none=>simp[h]
 | some x =>
  rw[vV]
  simp[h,tgB]
theorem tgTake_le (rs:List Rec) (k i:Nat):(tgB ((rs.take i).filterMap (j8 k))).length<=(tgB (rs.filterMap (j8 k))).length:=by
 have:rs=rs.take i++rs.drop i:=(List.take_append_drop i rs).symm
 conv=>rhs;rw[this]
 rw[List.filterMap_append,vV,List.length_append]
 omega
theorem s_partM2 (H:SEnv P E) (HL:SLay P E) (HT:STexts P E) {fs:SFs} {sv uv v9:Value} {t:Tr} {ver:Int} {A:Act} {W0:World} {xs:List UInt8} (hs:A.tmps.size=132) (hd:A.defers=[]) (f0:A.eval (.tmp 0)=sv) (f1:A.eval (.tmp 1)=.int .i64 ver) (f2:A.eval (.tmp 2)=.bool fx) (f7:A.eval (.tmp 7)=.pointer (some ⟨b,0,none⟩)) (f9:A.eval (.tmp 9)=v9) (f10:A.eval (.tmp 10)=.slice none 0 0) (f11:A.eval (.tmp 11)=.int .i64 0) (hsf:SlF w U sv fs) (htg:∀ t ∈ fs.tags,t<65536) (hfl:fs.len<=big) (hbW:b<W0.heap.size) (hc:W0.cell? ⟨b,4,none⟩=some uv) (hts:qb W0 b 0 ts) (hrt:t.Rep w U ts) (hu:yh w U uv t.tags) (hU:U<=w.heap.size) (hw:Below U w W0) (hown:W0.ownsRow U E.tU8 1 v9 xs.length (xs.map bv)) (hnum:∀ i f,fs.get i=some f->0<=f.tag->f.num=true) (hfc:∀ i f,fs.get i=some f->FieldC P E ver fx f) {R:List UInt8} (hR:R=if fx then xs++Go.Km.uvar ((j9 (fs.recs ver fx 0 t) (known fs.tags)).length+(unk (known fs.tags) t.tags).length)++(tgB (j9 (fs.recs ver fx 0 t) (known fs.tags))++((unk (known fs.tags) t.tags).map fun x=>kA x.1 (x.2.take 32767)).flatten) else xs) (hbig:R.length<=big) (hQ:∀ a' w',Out P #[.tmp 8] (fun v w'=>w'.ownsRow U E.tU8 1 v R.length (R.map bv)/\Below U w w') .ret a' w'->Q .ret a' w'):
  vc P (sq (l_sPartM E)) Q A W0:=by
 unfold l_sPartM
 have hUW0:U<=W0.heap.size:=Nat.le_trans hU hw.size
 refine vS (vX (rM ?_))
 refine zG (b:=fx) zA ?_
 refine dn ?_
 cases fx with
 | false =>
  simp only[Bool.false_eq_true,if_false] at hR
  subst hR
  refine vS (vC (t:=true) zM ?_ (fun h=>by cases h))
  intro _
  refine vX (rM (rA (dn (vS (vT ?_)))))
  exact hQ _ _ ⟨by simp only[dF];exact hd,v9,rO zA,hown,hw⟩
 | true =>
  simp only[if_true] at hR
  have hkn:known fs.tags<=65536:=known_lt (B:=65536) _ htg
  have hrl:(fs.recs ver true 0 t).length=fs.len:=SFs.recs_len ver true fs 0 t
  have hrg:∀ i f,fs.get i=some f->(fs.recs ver true 0 t)[i]? = some (f.tag,f.has ver,f.usual (t.at i),f.wr ver true (t.at i)):=by
   intro i f hf
   have:=SFs.recs_get ver true fs 0 i t f hf
   rwa [Nat.zero_add] at this
  generalize hrs:fs.recs ver true 0 t=rs at *
  generalize hknn:known fs.tags=kn at *
  have hTle:xs.length+(tgB (j9 rs kn)).length<=big:=by
   rw[hR] at hbig
   simp only[List.length_append] at hbig
   omega
  refine vS (vC (t:=false) zM (fun h=>by cases h) ?_)
  intro _
  refine vK (vN (vS (vX (rM ?_))))
  refine q8 (args:=#[sv]) ?_ (s_known (U:=W0.heap.size) H HL HT ((hsf.below hw).mono hUW0) (Nat.le_refl _) htg hfl) ?_
  ·simp only[lM]
   simp (disch:=(try simp only[sP]);omega) only[eV,f0]
  rintro v W1 ⟨rfl,hb1⟩
  rw[hknn]
  refine qY (k:=.u32) (k':=.i64) (m:=((kn:Nat):Int)) H.u32 H.int zE ?_
  have hw0:IntKind.i64.wrap ((kn:Nat):Int)=(kn:Int):=by rw[wrap_i64 zH zH]
  rw[hw0]
  refine rM (dn ?_)
  have hC9:∀ g,v9.ownBlock=some g->g<W0.heap.size:=fun g hg=>zb hown hg
  obtain ⟨ad,cap,hsv⟩:∃ ad cap,sv=.slice ad fs.len cap:=by
   rcases hsf with ⟨rfl,h0⟩ | ⟨q,o,cap,rfl,_⟩
   ·exact ⟨none,0,by rw[h0]⟩
   ·exact ⟨_,cap,rfl⟩
  have hget:∀ V,Below U w V->∀ i f,fs.get i=some f->i<fs.len->∃ q o c,sv=.slice (some ⟨q,o,none⟩) fs.len cap/\q<U/\qb V q (o+i*8) c/\f.Rep V U c:=by
   intro V hV i f hf hi
   rcases hsf with ⟨rfl,h0⟩ | ⟨q,o,cap',h1,_,hq,hrep⟩
   ·omega
   ·obtain ⟨c,h2,h3⟩:=hrep.get hf
    rw[h1] at hsv
    simp only[Value.slice.injEq] at hsv
    obtain ⟨_,_,rfl⟩:=hsv
    exact ⟨q,o,c,h1,hq,h2.below hV hq,h3.below hV⟩
  refine vS (qk (xZ (fun m B V=>m<=kn/\B.tmps.size=132/\B.defers=[]/\B.eval (.tmp 0)=sv/\B.eval (.tmp 1)=.int .i64 ver/\B.eval (.tmp 2)=.bool true/\B.eval (.tmp 7)=.pointer (some ⟨b,0,none⟩)/\B.eval (.tmp 9)=v9/\B.eval (.tmp 51)=.int .i64 (kn:Int)/\B.eval (.tmp 52)=.int .i64 ((kn-m:Nat):Int) ∧
   B.eval (.tmp 11)=.int .i64 (((j9 rs (kn-m)).length:Nat):Int)/\W0.heap.size<=V.heap.size/\Below W0.heap.size W0 V/\V.ownsRow W0.heap.size E.tU8 1 (B.eval (.tmp 10)) (tgB (j9 rs (kn-m))).length ((tgB (j9 rs (kn-m))).map bv)) kn ?_ ?_ ?_))
  ·refine ⟨Nat.le_refl _,by simp only[zP];exact hs,by simp only[dF];exact hd,zA,zA,zA,zA,zA,zE,?_,?_,hb1.size,hb1,?_⟩
   ·simp (disch:=(try simp only[sP]);omega) only[eV]
    simp
   ·simp (disch:=(try simp only[sP]);omega) only[eV,f11]
    simp[j9]
   ·rw[show Act.eval _ (.tmp 10)=Value.slice none 0 0 by exact zA]
    simp only[Nat.sub_self]
    exact World.ownsRow_nil _ _ _ _
  ·rintro m B V ⟨hm,hsB,hdB,g0,g1,g2,g7,g9,g51,g52,g11,hWV,hbV,hownT⟩
   have hk:kn-(m+1)<kn:=by omega
   have hkm:kn-m=(kn-(m+1))+1:=by omega
   rw[hkm]
   generalize hkk:kn-(m+1)=k at *
   refine vX ?_
   refine xm (k:=.i64) (m:=(k:Int)) (n:=(kn:Int)) g52 g51 ?_
   refine dn ?_
   refine vS (vC (t:=true) ?_ ?_ (fun h=>by cases h))
   ·simp (disch:=(try simp only[sP]);omega) only[eV]
    simp only[Value.bool.injEq,decide_eq_true_eq]
    omega
   intro _
   refine vK ?_
   refine vS (qk (vX ?_))
   refine rM (rA (dn (vX (rM ?_))))
   refine xh (ad:=ad) (n:=fs.len) (c:=cap) H.sFlds (by simp (disch:=(try simp only[sP]);omega) only[eV,g0,hsv]) ?_
   refine rM (dn ?_)
   refine vS (qk (xZ (fun m2 B2 V2=>m2<=fs.len/\B2.tmps.size=132/\B2.defers=[]/\B2.eval (.tmp 0)=sv/\B2.eval (.tmp 1)=.int .i64 ver/\B2.eval (.tmp 2)=.bool true/\B2.eval (.tmp 7)=.pointer (some ⟨b,0,none⟩)/\B2.eval (.tmp 9)=v9/\B2.eval (.tmp 51)=.int .i64 (kn:Int)/\B2.eval (.tmp 52)=.int .i64 (k:Int)/\B2.eval (.tmp 14)=.int .i64 (k:Int) ∧
    B2.eval (.tmp 55)=sv/\B2.eval (.tmp 56)=.int .i64 (fs.len:Int)/\B2.eval (.tmp 57)=.int .i64 ((fs.len-m2:Nat):Int) ∧
    B2.eval (.tmp 11)=.int .i64 (((j9 rs k).length+((rs.take (fs.len-m2)).filterMap (j8 k)).length:Nat):Int)/\W0.heap.size<=V2.heap.size/\Below W0.heap.size W0 V2/\V2.ownsRow W0.heap.size E.tU8 1 (B2.eval (.tmp 10)) (tgB (j9 rs k)++tgB ((rs.take (fs.len-m2)).filterMap (j8 k))).length ((tgB (j9 rs k)++tgB ((rs.take (fs.len-m2)).filterMap (j8 k))).map bv)) fs.len ?_ ?_ ?_))
   ·refine ⟨Nat.le_refl _,by simp only[zP];exact hsB,by simp only[dF];exact hdB,zA,zA,zA,zA,zA,zA,zA,zA,zA,zE,?_,?_,hWV,hbV,?_⟩
    ·simp (disch:=(try simp only[sP]);omega) only[eV]
     simp
    ·simp (disch:=(try simp only[sP]);omega) only[eV,g11]
     simp
    ·rw[show Act.eval _ (.tmp 10)=B.eval (.tmp 10) by exact zE]
     simp only[Nat.sub_self,List.take_zero,List.filterMap_nil]
     rw[show tgB []=[] from rfl,List.append_nil]
     exact hownT
   ·rintro m2 B2 V2 ⟨hm2,hs2,hd2,q0,q1,q2,q7,q9,q51,q52,q14,q55,q56,q57,q11,hWV2,hbV2,hown2⟩
    have hi:fs.len-(m2+1)<fs.len:=by omega
    have him:fs.len-m2=(fs.len-(m2+1))+1:=by omega
    rw[him]
    generalize hii:fs.len-(m2+1)=i at *
    obtain ⟨f,hf⟩:=SFs.get_lt fs i hi
    have hbU:Below U w V2:=hw.trans (hbV2.mono hUW0)
    obtain ⟨q,o,c,hsv',hq,hcq,hrc⟩:=hget V2 hbU i f hf hi
    have hir:i<rs.length:=by omega
    have hri:rs[i]=(f.tag,f.has ver,f.usual (t.at i),f.wr ver true (t.at i)):=by
     have:=hrg i f hf
     rw[List.getElem?_eq_getElem hir] at this
     exact Option.some.inj this
    obtain ⟨htk,htl⟩:=tgTake rs k i hir
    have hle1:=tgTake_le rs k (i+1)
    have hle2:=tgAll_le rs (show k+1<=kn by omega)
    rw[yH,vV,List.length_append] at hle2
    rw[htk] at hle1
    rw[htk,htl,← List.append_assoc]
    rw[hri] at hle1 ⊢
    have hcnt:=tgB_len (j9 rs k++(rs.take i).filterMap (j8 k))
    rw[vV,List.length_append,List.length_append] at hcnt
    rw[List.length_append] at hle1
    refine vX ?_
    refine xm (k:=.i64) (m:=(i:Int)) (n:=(fs.len:Int)) q57 q56 ?_
    refine dn ?_
    refine vS (vC (t:=true) ?_ ?_ (fun h=>by cases h))
    ·simp (disch:=(try simp only[sP]);omega) only[eV]
     simp only[Value.bool.injEq,decide_eq_true_eq]
     omega
    intro _
    refine vK ?_
    refine vS (qk ?_)
    refine s_tagOne (ts:=ts) (t:=t) (f:=f) (cs:=c) (b:=b) (C:=W0.heap.size) (k:=k) (i:=i) (q:=q) (o:=o) (len:=fs.len) (cap:=cap) (U:=U) (ver:=ver) (fx:=true) (zs:=tgB (j9 rs k)++tgB ((rs.take i).filterMap (j8 k))) (c0:=(j9 rs k).length+((rs.take i).filterMap (j8 k)).length) H HL HT (by simp only[zP];exact hs2) (by simp only[dF];exact hd2) zA zA zA zA (by simp (disch:=(try simp only[sP]);omega) only[eV,q55,hsv']) zA zA hi hcq hrc (hts.below hbV2 hbW) (hrt.below hbU) hUW0 hWV2 hbW zH zH ?_ (fun h=>hnum i f hf zH) (hfc i f hf) ?_ ?_
    ·rw[show Act.eval _ (.tmp 10)=B2.eval (.tmp 10) by exact zE]
     exact hown2
    ·rw[List.length_append,List.length_append]
     omega
    ·intro A' V' b1' b2' b3 b4 b5 b6
     have hsz':=b5.size
     show vc P (sq [rg _]) _ A' V'
     refine vX ?_
     have h57:A'.eval (.tmp 57)=.int .i64 (i:Int):=by rw[b3 57 zS];exact zA
     refine z8 (k:=.i64) (m:=(i:Int)) (n:=1) zA rfl ?_
     refine rM (dn (vN ?_))
     have hwi:IntKind.i64.wrap ((i:Int)+1)=((i+1:Nat):Int):=by unfold big at hfl;rw[wrap_i64 zH zH];rfl
     have keep:∀ j:Nat,j≠53->j≠58->(j=0\/j=1\/j=2\/j=7\/j=9\/j=14\/j=51\/j=52\/j=55\/j=56\/j=57)->A'.eval (.tmp j)=B2.eval (.tmp j):=fun j h1 h2 hj=>by
      rw[b3 j hj]
      rw[qj _ _ _ _ zH]
     refine ⟨by omega,by simp only[zP];exact b1',by simp only[dF];exact b2',(by simp (disch:=(try simp only[sP]);omega) only[eV,keep 0 (by decide) (by decide) zS,q0]),(by simp (disch:=(try simp only[sP]);omega) only[eV,keep 1 (by decide) (by decide) zS,q1]),(by simp (disch:=(try simp only[sP]);omega) only[eV,keep 2 (by decide) (by decide) zS,q2]),(by simp (disch:=(try simp only[sP]);omega) only[eV,keep 7 (by decide) (by decide) zS,q7]),(by simp (disch:=(try simp only[sP]);omega) only[eV,keep 9 (by decide) (by decide) zS,q9]),(by simp (disch:=(try simp only[sP]);omega) only[eV,keep 51 (by decide) (by decide) zS,q51]),(by simp (disch:=(try simp only[sP]);omega) only[eV,keep 52 (by decide) (by decide) zS,q52]),(by simp (disch:=(try simp only[sP]);omega) only[eV,keep 14 (by decide) (by decide) zS,q14]),(by simp (disch:=(try simp only[sP]);omega) only[eV,keep 55 (by decide) (by decide) zS,q55]),(by simp (disch:=(try simp only[sP]);omega) only[eV,keep 56 (by decide) (by decide) zS,q56]),?_,?_,Nat.le_trans hWV2 hsz',hbV2.trans b5,?_⟩
     ·simp (disch:=(try simp only[sP]);omega) only[eV]
      rw[hwi]
     ·simp (disch:=(try simp only[sP]);omega) only[eV,b4]
      rw[Nat.add_assoc]
     ·rw[show Act.eval _ (.tmp 10)=A'.eval (.tmp 10) by exact zE]
      exact b6
   ·rintro B2 V2 ⟨hm2,hs2,hd2,q0,q1,q2,q7,q9,q51,q52,q14,q55,q56,q57,q11,hWV2,hbV2,hown2⟩
    rw[Nat.sub_zero] at q57 q11 hown2
    rw[← hrl,List.take_length] at q11 hown2
    refine vX ?_
    refine xm (k:=.i64) (m:=(fs.len:Int)) (n:=(fs.len:Int)) q57 q56 ?_
    refine dn ?_
    refine vS (vC (t:=false) ?_ (fun h=>by cases h) ?_)
    ·simp (disch:=(try simp only[sP]);omega) only[eV]
     simp only[Value.bool.injEq,decide_eq_false_iff_not]
     omega
    intro _
    refine xp ?_
    simp only[Exit.then,Exit.inBlock,if_true]
    repeat (refine vN ?_)
    refine vX ?_
    refine z8 (k:=.i64) (m:=(k:Int)) (n:=1) zA rfl ?_
    refine rM (dn (vN ?_))
    have hwi:IntKind.i64.wrap ((k:Int)+1)=((k+1:Nat):Int):=by rw[wrap_i64 zH zH];rfl
    refine ⟨by omega,by simp only[zP];exact hs2,by simp only[dF];exact hd2,zA,zA,zA,zA,zA,zA,?_,?_,hWV2,hbV2,?_⟩
    ·simp (disch:=(try simp only[sP]);omega) only[eV]
     rw[hwi]
    ·simp (disch:=(try simp only[sP]);omega) only[eV,q11]
     rw[yH,List.length_append]
    ·rw[show Act.eval _ (.tmp 10)=B2.eval (.tmp 10) by exact zE]
     rw[yH,vV]
     exact hown2
  ·rintro B V ⟨hm,hsB,hdB,g0,g1,g2,g7,g9,g51,g52,g11,hWV,hbV,hownT⟩
   rw[Nat.sub_zero] at g52 g11 hownT
   refine vX ?_
   refine xm (k:=.i64) (m:=(kn:Int)) (n:=(kn:Int)) g52 g51 ?_
   refine dn ?_
   refine vS (vC (t:=false) ?_ (fun h=>by cases h) ?_)
   ·simp (disch:=(try simp only[sP]);omega) only[eV]
    simp only[Value.bool.injEq,decide_eq_false_iff_not]
    omega
   intro _
   refine xp ?_
   simp only[Exit.then,Exit.inBlock,if_true]
   refine vN ?_
   have hcnt:=tgB_len (j9 rs kn)
   have hcV:V.cell? ⟨b,4,none⟩=some uv:=by rw[hbV.cell (p:=⟨b,4,none⟩) hbW];exact hc
   refine s_partU2 (fs:=fs) (sv:=sv) (uv:=uv) (v9:=v9) (u:=t.tags) (b:=b) (C:=W0.heap.size) (c0:=(j9 rs kn).length) (xs:=xs) (ys0:=tgB (j9 rs kn)) (U:=U) (w:=w) H HL HT (by simp only[zP];exact hsB) (by simp only[dF];exact hdB) zA zA zA rfl zA zH hUW0 hWV hC9 hsf htg hfl hcV hu hU (hw.trans (hbV.mono hUW0)) (xa hown hbV) ?_ rfl ?_ ?_
   ·rw[show Act.eval _ (.tmp 10)=B.eval (.tmp 10) by exact zE]
    exact hownT
   ·rw[hknn,← hR];exact hbig
   ·rw[hknn,← hR];exact hQ
theorem SFs.part_eq2 {v:Int} {fs:SFs} {t:Tr}:
  fs.part v fx t=if fx then ((fs.recs v fx 0 t).map Rec.out).flatten++Go.Km.uvar ((j9 (fs.recs v fx 0 t) (known fs.tags)).length+(unk (known fs.tags) t.tags).length)++(tgB (j9 (fs.recs v fx 0 t) (known fs.tags))++((unk (known fs.tags) t.tags).map fun x=>kA x.1 (x.2.take 32767)).flatten) else ((fs.recs v fx 0 t).map Rec.out).flatten:=by
 cases t with
 | mk n s nl l u =>
 unfold SFs.part y5
 simp only[SFs.recs_tags,List.length_map,List.map_append,List.flatten_append,List.map_map,Tr.tags]
 rfl
theorem s_part2 (H:SEnv P E) (HL:SLay P E) (HT:STexts P E) {ver:Int} {fs:SFs} (htg:∀ t ∈ fs.tags,t<65536) (hnum:∀ i f,fs.get i=some f->0<=f.tag->f.num=true) (hfl:fs.len<=big) (hfc:∀ i f,fs.get i=some f->FieldC P E ver fx f):pg P E ver fx fs:=by
 intro U w sv t ts hU hsf hrt hbig
 have hfl':fs.len<=big:=hfl
 unfold big at hfl
 refine qa.enter HT.part zS ?_
 intro a hsz hdf harg
 have e0:=harg 0 sv zS
 have e1:=harg 1 (.int .i64 ver) zS
 have e2:=harg 2 (.bool fx) zS
 have e3:=harg 3 (.agg ts.toArray) zS
 obtain ⟨z,hz,hzc⟩:=xO HL.fld
 unfold c_sPart
 refine vX ?_
 refine xN (v:=.agg ts.toArray) zA ?_
 refine rA (dn ?_)
 generalize hw1:w.alloc (.cells (Value.agg ts.toArray).cells E.tT)=W1
 have hb1:Below U w W1:=by rw[← hw1];exact (Below.refl U w).alloc (o:=.cells _ _) hU
 have hz1:W1.heap.size=w.heap.size+1:=by rw[← hw1];simp
 have c1:qb W1 w.heap.size 0 ts:=by
  intro i v hv
  rw[← hw1,Nat.zero_add]
  exact qm w _ E.tT (by simpa [Value.cells] using hv)
 clear hw1
 generalize hbb:w.heap.size=b at *
 have hUW1:U<=W1.heap.size:=by omega
 refine vX (rA (rA (dn (vX (rA (dn ?_))))))
 have hpe:=SFs.part_eq2 (v:=ver) (fx:=fx) (fs:=fs) (t:=t)
 have hrs0:fs.recs ver fx 0 t=fs.recs ver fx 0 t:=rfl
 generalize hrs:fs.recs ver fx 0 t=rs at hpe
 have hrl:rs.length=fs.len:=by rw[← hrs];exact SFs.recs_len ver fx fs 0 t
 have hrg:∀ i f,fs.get i=some f->rs[i]? = some (f.tag,f.has ver,f.usual (t.at i),f.wr ver fx (t.at i)):=by
  intro i f hf
  have:=SFs.recs_get ver fx fs 0 i t f hf
  rw[hrs,Nat.zero_add] at this
  exact this
 have hob:((rs.map Rec.out).flatten).length<=big:=by
  rw[hpe] at hbig
  split at hbig
  ·simp only[List.length_append] at hbig;omega
  ·exact hbig
 obtain ⟨ad,cap,hsv⟩:∃ ad cap,sv=.slice ad fs.len cap:=by
  rcases hsf with ⟨rfl,h0⟩ | ⟨q,o,cap,rfl,_⟩
  ·exact ⟨none,0,by rw[h0]⟩
  ·exact ⟨_,cap,rfl⟩
 have hget:∀ V,Below U w V->∀ i f,fs.get i=some f->i<fs.len->∃ q o c,sv=.slice (some ⟨q,o,none⟩) fs.len cap/\q<U/\qb V q (o+i*8) c/\f.Rep V U c:=by
  intro V hV i f hf hi
  rcases hsf with ⟨rfl,h0⟩ | ⟨q,o,cap',h1,_,hq,hrep⟩
  ·omega
  ·obtain ⟨c,h2,h3⟩:=hrep.get hf
   rw[h1] at hsv
   simp only[Value.slice.injEq] at hsv
   obtain ⟨_,_,rfl⟩:=hsv
   exact ⟨q,o,c,h1,hq,h2.below hV hq,h3.below hV⟩
 refine vS (vX (rM ?_))
 refine xh (ad:=ad) (n:=fs.len) (c:=cap) H.sFlds (by simp (disch:=(try simp only[sP]);omega) only[eV,e0,hsv]) ?_
 refine rM (dn ?_)
 refine vS (qk (xZ (fun m B V=>m<=fs.len/\B.tmps.size=132/\B.defers=[]/\B.eval (.tmp 0)=sv/\B.eval (.tmp 1)=.int .i64 ver/\B.eval (.tmp 2)=.bool fx/\B.eval (.tmp 7)=.pointer (some ⟨b,0,none⟩)/\B.eval (.tmp 10)=.slice none 0 0/\B.eval (.tmp 11)=.int .i64 0 ∧
  B.eval (.tmp 21)=sv/\B.eval (.tmp 22)=.int .i64 (fs.len:Int)/\B.eval (.tmp 23)=.int .i64 ((fs.len-m:Nat):Int)/\W1.heap.size<=V.heap.size/\Below W1.heap.size W1 V ∧
  ∃ xs:List UInt8,V.ownsRow W1.heap.size E.tU8 1 (B.eval (.tmp 9)) xs.length (xs.map bv)/\xs=((rs.take (fs.len-m)).map Rec.out).flatten) fs.len ?_ ?_ ?_))
 ·refine ⟨Nat.le_refl _,by simp only[zP];exact hsz,by simp only[dF];exact hdf,zA,zA,zA,zE,zE,zE,zA,zE,?_,Nat.le_refl _,Below.refl _ _,[],?_,by simp⟩
  ·simp (disch:=(try simp only[sP]);omega) only[eV]
   simp
  ·rw[show Act.eval _ (.tmp 9)=Value.slice none 0 0 by exact zE]
   exact World.ownsRow_nil _ _ _ _
 ·rintro m B V ⟨hm,hsB,hdB,g0,g1,g2,g7,g10,g11,g21,g22,g23,hWV,hbV,xs,hown,hxs⟩
  have hi:fs.len-(m+1)<fs.len:=by omega
  have him:fs.len-m=(fs.len-(m+1))+1:=by omega
  rw[him]
  generalize hii:fs.len-(m+1)=i at *
  obtain ⟨f,hf⟩:=SFs.get_lt fs i hi
  have hbVU:Below U w V:=hb1.trans (hbV.mono hUW1)
  obtain ⟨q,o,c,hsv',hq,hc,hrc⟩:=hget V hbVU i f hf hi
  have hir:i<rs.length:=by omega
  have hri:rs[i]=(f.tag,f.has ver,f.usual (t.at i),f.wr ver fx (t.at i)):=by
   have:=hrg i f hf
   rw[List.getElem?_eq_getElem hir] at this
   exact Option.some.inj this
  have hsucc:=flat_succ rs Rec.out i hir
  have hle:=flat_le rs Rec.out (i+1)
  rw[hsucc,← hxs,hri] at hle
  rw[hsucc,← hxs,hri]
  generalize hadd:Rec.out (f.tag,f.has ver,f.usual (t.at i),f.wr ver fx (t.at i))=add at *
  have ht5:qb V b 0 ts:=c1.below hbV zH
  have hUV:U<=V.heap.size:=Nat.le_trans hUW1 hWV
  refine vX ?_
  refine xm (k:=.i64) (m:=(i:Int)) (n:=(fs.len:Int)) g23 g22 ?_
  refine dn ?_
  refine vS (vC (t:=true) ?_ ?_ (fun h=>by cases h))
  ·simp (disch:=(try simp only[sP]);omega) only[eV]
   simp only[Value.bool.injEq,decide_eq_true_eq]
   omega
  intro _
  refine vK ?_
  refine vS (qk (vX ?_))
  refine rM ?_
  refine qH (k:=.i64) (j:=i) (b:=q) (o:=o) (len:=fs.len) (cap:=cap) H.sFlds (by simp (disch:=(try simp only[sP]);omega) only[eV,g21,hsv']) zA hi ?_
  refine qf (b:=q) (o:=o+i*8) (cs:=c) zE (by rw[hrc.len];exact H.aFld) hc ?_
  refine qR hz ?_
  refine rA ?_
  refine qy (b:=V.heap.size) (o:=0) (cs:=c) zE zE hrc.one (by rw[hrc.len];exact H.aFld) ?_ ?_
  ·intro j hj
   rw[Nat.zero_add]
   exact qq V _ _ (by rw[hzc];rw[hrc.len] at hj;simpa using hj)
  refine dn ?_
  have hcell:qb (setCells (V.alloc (.cells z.cells E.tFld)) V.heap.size 0 c) V.heap.size 0 c:=by
   intro j v hv
   refine qg V.heap.size c _ 0 (fun j hj=>?_) j _ hv
   rw[Nat.zero_add]
   exact (qq V z.cells E.tFld (by rw[hzc];rw[hrc.len] at hj;simpa using hj)).1
  have hb2:Below V.heap.size V (setCells (V.alloc (.cells z.cells E.tFld)) V.heap.size 0 c):=by
   refine ((Below.refl V.heap.size V).alloc (o:=.cells _ _) (Nat.le_refl _)).trans ((qe V.heap.size c _ 0).below zS (by rintro k i hk ⟨rfl,_,_⟩;omega))
  have hz2:V.heap.size<(setCells (V.alloc (.cells z.cells E.tFld)) V.heap.size 0 c).heap.size:=by
   have:=(qe V.heap.size c (V.alloc (.cells z.cells E.tFld)) 0).size
   simp at this
   omega
  have hc4:(setCells (V.alloc (.cells z.cells E.tFld)) V.heap.size 0 c).cell? ⟨V.heap.size,0+4,none⟩=some (.int .i64 f.tag):=by
   refine hcell 4 _ ?_
   cases f with
   | mk=>obtain ⟨sv2,rfl,_⟩:=hrc;rfl
  generalize setCells (V.alloc (.cells z.cells E.tFld)) V.heap.size 0 c=V1 at hcell hb2 hz2 hc4 ⊢
  have hrc1:=(hrc.below (hb2.mono hUV)).mono (U':=V1.heap.size) zH
  generalize hG:(((((B.put (some 24) _).put (some 25) _).put (some 26) _).put (some 27) _).put (some 13) _).put (some 12) _=G
  have hsG:G.tmps.size=132:=by rw[← hG];simp only[zP];exact hsB
  have hdG:G.defers=[]:=by rw[← hG];simp only[dF];exact hdB
  have k0:G.eval (.tmp 0)=sv:=by rw[← hG];exact zA
  have k1:G.eval (.tmp 1)=.int .i64 ver:=by rw[← hG];exact zA
  have k2:G.eval (.tmp 2)=.bool fx:=by rw[← hG];exact zA
  have k7:G.eval (.tmp 7)=.pointer (some ⟨b,0,none⟩):=by rw[← hG];exact zA
  have k9:G.eval (.tmp 9)=B.eval (.tmp 9):=by rw[← hG];exact zE
  have k10:G.eval (.tmp 10)=.slice none 0 0:=by rw[← hG];exact zA
  have k11:G.eval (.tmp 11)=.int .i64 0:=by rw[← hG];exact zA
  have k12:G.eval (.tmp 12)=.int .i64 (i:Int):=by rw[← hG];exact zA
  have k13:G.eval (.tmp 13)=.pointer (some ⟨V.heap.size,0,none⟩):=by rw[← hG];exact zE
  have k21:G.eval (.tmp 21)=sv:=by rw[← hG];exact zA
  have k22:G.eval (.tmp 22)=.int .i64 (fs.len:Int):=by rw[← hG];exact zA
  have k23:G.eval (.tmp 23)=.int .i64 (i:Int):=by rw[← hG];exact zA
  rw[← k9] at hown
  clear hG
  generalize hv9:G.eval (.tmp 9)=v9 at *
  have hwi:IntKind.i64.wrap ((i:Int)+1)=((i+1:Nat):Int):=by rw[wrap_i64 zH zH];rfl
  have fin:∀ (B':Act) (V':World) (ys:List UInt8) (x9:Value),B'.tmps.size=132->B'.defers=[]->B'.eval (.tmp 0)=sv->B'.eval (.tmp 1)=.int .i64 ver->B'.eval (.tmp 2)=.bool fx->B'.eval (.tmp 7)=.pointer (some ⟨b,0,none⟩)->B'.eval (.tmp 10)=.slice none 0 0->B'.eval (.tmp 11)=.int .i64 0 →
    B'.eval (.tmp 21)=sv->B'.eval (.tmp 22)=.int .i64 (fs.len:Int)->B'.eval (.tmp 23)=.int .i64 (i:Int)->B'.eval (.tmp 9)=x9->W1.heap.size<=V'.heap.size->Below W1.heap.size W1 V'->V'.ownsRow W1.heap.size E.tU8 1 x9 ys.length (ys.map bv)->ys=xs++add->∀ Q:Exit->Act->World->Prop,
    (∀ A',(m<=fs.len/\A'.tmps.size=132/\A'.defers=[]/\A'.eval (.tmp 0)=sv/\A'.eval (.tmp 1)=.int .i64 ver/\A'.eval (.tmp 2)=.bool fx/\A'.eval (.tmp 7)=.pointer (some ⟨b,0,none⟩)/\A'.eval (.tmp 10)=.slice none 0 0/\A'.eval (.tmp 11)=.int .i64 0 ∧
  A'.eval (.tmp 21)=sv/\A'.eval (.tmp 22)=.int .i64 (fs.len:Int)/\A'.eval (.tmp 23)=.int .i64 ((i+1:Nat):Int)/\W1.heap.size<=V'.heap.size/\Below W1.heap.size W1 V' ∧
  ∃ zs:List UInt8,V'.ownsRow W1.heap.size E.tU8 1 (A'.eval (.tmp 9)) zs.length (zs.map bv)/\zs=xs++add)->Q .normal A' V') →
    vc P (sq [(rg [(qK 45 .add E.tI 23 1 E.tI),(qM 23 45 E.tI)])]) Q B' V':=by
   intro B' V' ys x9 b0 b1 b2 b3 b4 b5 b6 b7 b8 b9 b10 b11 b12 b13 b14 b15 Q hQ
   refine vX ?_
   refine z8 (k:=.i64) (m:=(i:Int)) (n:=1) zA rfl ?_
   refine rM (dn (vN ?_))
   refine hQ _ ⟨by omega,by simp only[zP];exact b0,by simp only[dF];exact b1,zA,zA,zA,zA,zA,zA,zA,zA,?_,b12,b13,ys,?_,b15⟩
   ·simp (disch:=(try simp only[sP]);omega) only[eV]
    rw[hwi]
   ·rw[show Act.eval _ (.tmp 9)=x9 by exact zA]
    exact b14
  refine vS (yF [0,1,2,3,4,5,6,7] rfl ?_)
  refine rD rfl (wN rfl) (rF (b:=V.heap.size) (o:=0) zA (qn H.fFld (by decide)) (dn (rT ?_)))
  refine rD rfl (wN rfl) (rL (b:=V.heap.size) (o:=0+4) zE H.oInt hc4 (dn (rT ?_)))
  refine rD rfl (wN rfl) (xm (k:=.i64) (m:=f.tag) (n:=0) zE rfl (dn (rT ?_)))
  by_cases hneg:f.tag<0
  rotate_left
  ·have hadd0:add=[]:=by rw[← hadd];simp[Rec.out,hneg]
   rw[show decide (f.tag<0)=false by simpa using hneg]
   (refine rD rfl (wN rfl) ?_;refine rM ?_;refine dn (rT ?_))
   (refine x7 rfl (by rw[wS (b:=false) rfl rfl zM];rfl) ?_)
   (refine x7 rfl (by rw[wS (b:=false) rfl rfl zM];rfl) ?_)
   (refine x7 rfl (by rw[wS (b:=false) rfl rfl zM];rfl) ?_)
   refine rD rfl (wN rfl) (xE zE (dn (rT ?_)))
   refine qx ?_
   refine vS (vC (t:=false) zM (fun h=>by cases h) (fun _=>?_))
   refine vK (vN ?_)
   have hown1:=xa hown hb2
   exact fin _ V1 xs v9 (by simp only[zP];exact hsG) (by simp only[dF];exact hdG) zA zA zA zA zA zA zA zA zA zA (Nat.le_trans hWV hb2.size) (hbV.trans (hb2.mono hWV)) hown1 (by rw[hadd0,List.append_nil]) _ (fun A' h=>h)
  rw[show decide (f.tag<0)=true by simpa using hneg]
  (refine rD rfl (wN rfl) ?_;refine rM ?_;refine dn (rT ?_))
  refine rD rfl (by rw[wS (b:=true) rfl rfl zM];rfl) (qf (b:=V.heap.size) (o:=0) (cs:=c) zA (by rw[hrc.len];exact H.aFld) hcell (dn (rT ?_)))
  (refine rD rfl (by rw[wS (b:=true) rfl rfl zM];rfl) ?_;refine rM ?_;refine dn (rT ?_))
  refine rD rfl (by rw[wS (b:=true) rfl rfl zM];rfl) ?_
  refine q8 (args:=#[.agg c.toArray,.int .i64 ver]) ?_ (s_has (U:=V1.heap.size) (v:=ver) H HT.has hrc1 (Nat.le_refl _)) ?_
  ·simp only[lM]
   simp (disch:=(try simp only[sP]);omega) only[eV,k1]
  rintro v V2 ⟨rfl,hb3⟩
  refine dn (rT ?_)
  refine rD rfl (wN rfl) (xf zE (dn (rT ?_)))
  refine qx ?_
  have hV2:Below V.heap.size V V2:=hb2.trans (hb3.mono zH)
  have hown2:=xa hown hV2
  have hcell2:qb V2 V.heap.size 0 c:=hcell.below hb3 zH
  have ht52:qb V2 b 0 ts:=ht5.below hV2 zH
  have hadd1:add=if f.has ver then f.wr ver fx (t.at i) else []:=by rw[← hadd];simp[Rec.out,hneg]
  clear hadd
  subst hadd1
  generalize hh:f.has ver=hb at *
  refine vS (vC (t:=hb) zM ?_ ?_)
  ·intro hb'
   subst hb'
   simp only[if_true] at hle fin ⊢
   rw[List.length_append] at hle
   have hbd:Below V2.heap.size V2 { V2 with drawn:=V2.drawn+1 }:=⟨rfl,rfl,rfl,Nat.le_refl _,fun _ _=>rfl⟩
   have hVV2:V.heap.size<V2.heap.size:=Nat.lt_of_lt_of_le hz2 hb3.size
   have mkS:∀ w2,Below V2.heap.size V2 w2->qb w2 V.heap.size 0 c/\qb w2 b 0 ts:=fun w2 h2=>⟨hcell2.below h2 hVV2,ht52.below h2 zH⟩
   have hS:=mkS _ hbd
   have hUV2:U<=V2.heap.size:=by omega
   have hV2d:Below U w { V2 with drawn:=V2.drawn+1 }:=(hbVU.trans (hV2.mono hUV)).trans (hbd.mono hUV2)
   have hrc2:f.Rep { V2 with drawn:=V2.drawn+1 } V2.heap.size c:=(hrc.below ((hV2.mono hUV).trans (hbd.mono hUV2))).mono hUV2
   have hrt2:t.Rep { V2 with drawn:=V2.drawn+1 } V2.heap.size ts:=(hrt.below hV2d).mono hUV2
   refine xq [(0,true),(1,true),(2,true),(3,true),(4,true),(5,true),(6,false),(7,false),(8,false),(9,true)] (fun W'=>qb W' V.heap.size 0 c/\qb W' b 0 ts) HT.mixed (by kernel_rfl) rfl (by kernel_rfl) (fun _ _ _ _ h=>False.elim h) ?_
   refine dP rfl rfl rfl (wN rfl) (by simp only[zP,hsG];decide) hS (fun w' hS'=>rM (dn ⟨rfl,rfl,rfl⟩)) ?_
   refine dP rfl rfl rfl (wN rfl) (by simp only[zP,hsG];decide) hS (fun w' hS'=>qf (b:=V.heap.size) (o:=0) (cs:=c) zA (by rw[hrc.len];exact H.aFld) hS'.1 (dn ⟨rfl,rfl,rfl⟩)) ?_
   refine dP rfl rfl rfl (wN rfl) (by simp only[zP,hsG];decide) hS (fun w' hS'=>rM (dn ⟨rfl,rfl,rfl⟩)) ?_
   refine dP rfl rfl rfl (wN rfl) (by simp only[zP,hsG];decide) hS (fun w' hS'=>rM (dn ⟨rfl,rfl,rfl⟩)) ?_
   refine dP rfl rfl rfl (wN rfl) (by simp only[zP,hsG];decide) hS (fun w' hS'=>qf (b:=b) (o:=0) (cs:=ts) zA (by rw[hrt.len];exact H.aTree) hS'.2 (dn ⟨rfl,rfl,rfl⟩)) ?_
   refine dP rfl rfl rfl (wN rfl) (by simp only[zP,hsG];decide) hS (fun w' hS'=>rM (dn ⟨rfl,rfl,rfl⟩)) ?_
   refine qw rfl (wN rfl) ?_
   refine q8 (args:=#[.agg ts.toArray,.int .i64 (i:Int)]) ?_ (s_at (U:=V2.heap.size) (i:=i) H HL HT.at' hrt2 (Nat.le_refl _)) ?_
   ·simp only[lM]
    simp (disch:=(try simp only[sP]);omega) only[eV,k12]
   rintro v3 w3 ⟨c2,rfl,hr2,hb4⟩
   refine dn (qv (mkS _ (hbd.trans hb4)) ?_)
   refine qw rfl (wN rfl) ?_
   refine q8 (args:=#[.agg c.toArray,.int .i64 ver,.bool fx,.agg c2.toArray]) ?_ (hfc i f hf V2.heap.size w3 c (t.at i) c2 hb4.size (hrc2.below hb4) (hr2.below hb4) zH) ?_
   ·simp only[lM]
    simp (disch:=(try simp only[sP]);omega) only[eV,k1,k2]
   rintro v4 w4 ⟨h4,hb5⟩
   have hV4:Below V2.heap.size V2 w4:=(hbd.trans hb4).trans hb5
   refine dn (qv (mkS _ hV4) ?_)
   refine qw rfl (wN rfl) ?_
   have hown4:=xa hown2 hV4
   have hWV2:W1.heap.size<=V2.heap.size:=by omega
   refine jh (sz:=1) (U:=W1.heap.size) (v:=v9) (m:=(f.wr ver fx (t.at i)).length) (news:=(f.wr ver fx (t.at i)).map bv) H.row zA zE hown4 (Nat.le_trans hWV2 hV4.size) (zI (rB H.row) h4 (xH _)) zH ?_
   intro v6 w6 h6 hb6 hg6 _
   rw[← List.length_append,← List.map_append] at h6
   have hS4:=mkS _ hV4
   have hVw4:V.heap.size<w4.heap.size:=Nat.lt_of_lt_of_le hVV2 hV4.size
   have hS6:qb w6 V.heap.size 0 c/\qb w6 b 0 ts:=⟨hS4.1.grown hg6 hVw4 (fun he=>by have:=zb hown he.symm;omega),hS4.2.below hb6 zH⟩
   refine dn (qv hS6 ?_)
   refine dP rfl rfl rfl (wN rfl) (by simp only[zP,hsG];decide) hS6 (fun w' hS'=>rA (dn ⟨rfl,rfl,rfl⟩)) ?_
   refine xI ?_
   refine vN ?_
   have hV6:Below W1.heap.size V w6:=((hV2.mono hWV).trans (hV4.mono hWV2)).trans hb6
   exact fin _ w6 (xs++f.wr ver fx (t.at i)) v6 (by simp only[zP];exact hsG) (by simp only[dF];exact hdG) zA zA zA zA zA zA zA zA zA zE (Nat.le_trans hWV hV6.size) (hbV.trans hV6) h6 rfl _ (fun A' h=>h)
  ·intro hb'
   subst hb'
   simp only[Bool.false_eq_true,if_false,List.append_nil] at fin ⊢
   refine vK (vN ?_)
   exact fin _ V2 xs v9 (by simp only[zP];exact hsG) (by simp only[dF];exact hdG) zA zA zA zA zA zA zA zA zA zA (Nat.le_trans hWV hV2.size) (hbV.trans (hV2.mono hWV)) hown2 rfl _ (fun A' h=>h)
 ·rintro B V ⟨hm,hsB,hdB,g0,g1,g2,g7,g10,g11,g21,g22,g23,hWV,hbV,xs,hown,hxs⟩
  rw[Nat.sub_zero,← hrl,List.take_length] at hxs
  rw[Nat.sub_zero] at g23
  refine vX ?_
  refine xm (k:=.i64) (m:=(fs.len:Int)) (n:=(fs.len:Int)) g23 g22 ?_
  refine dn ?_
  refine vS (vC (t:=false) ?_ (fun h=>by cases h) ?_)
  ·simp (disch:=(try simp only[sP]);omega) only[eV]
   simp only[Value.bool.injEq,decide_eq_false_iff_not]
   omega
  intro _
  refine xp ?_
  simp only[Exit.then,Exit.inBlock,if_true]
  refine vN ?_
  cases t with
  | mk n s nl l u =>
  obtain ⟨s1,lv,uv,hts,_,hub,_⟩:=id hrt
  have d4:V.cell? ⟨b,4,none⟩=some uv:=by
   have:=c1.below hbV zH 4 uv (by rw[hts];rfl)
   simpa using this
  refine s_partM2 (w:=w) (U:=U) (fs:=fs) (sv:=sv) (uv:=uv) (t:=.mk n s nl l u) (ts:=ts) (ver:=ver) (b:=b) (fx:=fx) H HL HT (by simp only[zP];exact hsB) (by simp only[dF];exact hdB) zA zA zA zA rfl zA zA hsf htg hfl' zH d4 (c1.below hbV zH) hrt hub (by rw[hbb];exact hU) (hb1.trans (hbV.mono hUW1)) (xs:=xs) ?_ hnum hfc (R:=fs.part ver fx (.mk n s nl l u)) ?_ hbig (fun a' w' h=>h)
  ·rw[show Act.eval _ (.tmp 9)=B.eval (.tmp 9) by exact zE]
   exact kX hown hUW1
  ·rw[hpe,← hxs,hrs]
end
mutual
def SF.good:SF->Bool
 | .mk kind fr to nul tag df el sub=>(SF.mk kind fr to nul tag df el sub).kindOk&&(decide (tag<0)||(decide (tag<65536)&&(SF.mk kind fr to nul tag df el sub).num))&&decide (sub.len<=65536)&&sub.good
def SFs.good:SFs->Bool
 | .nil=>true
 | .cons f r=>f.good&&r.good
end
theorem SFs.good_tags:∀ fs:SFs,fs.good=true->∀ t ∈ fs.tags,t<65536
 | .nil,_,t,h=>by simp[SFs.tags] at h
 | .cons (.mk kind fr to nul tag df el sub) r,hg,t,h=>by
  simp only[SFs.good,SF.good,Bool.and_eq_true,Bool.or_eq_true,decide_eq_true_eq] at hg
  simp only[SFs.tags,List.mem_cons] at h
  rcases h with rfl | h
  ·rcases hg.1.1.1.2 with h | h
   ·omega
   ·exact h.1
  ·exact SFs.good_tags r hg.2 t h
theorem SFs.good_num:∀ fs:SFs,fs.good=true->∀ i f,fs.get i=some f->0<=f.tag->f.num=true
 | .nil,_,i,f,h,_=>by cases h
 | .cons (.mk kind fr to nul tag df el sub) r,hg,0,f,h,h0=>by
  simp only[SFs.good,SF.good,Bool.and_eq_true,Bool.or_eq_true,decide_eq_true_eq] at hg
  simp only[SFs.get,Option.some.injEq] at h
  subst h
  have h0:0<=tag:=h0
  rcases hg.1.1.1.2 with h | h
  ·omega
  ·exact h.2
 | .cons (.mk kind fr to nul tag df el sub) r,hg,i+1,f,h,h0=>by
  simp only[SFs.good,Bool.and_eq_true] at hg
  exact SFs.good_num r hg.2 i f h h0
mutual
theorem fieldsC (H:SEnv P E) (HL:SLay P E) (HT:STexts P E) (hz8:qQ P E.tU8=some (.int .u8 0)) (ver:Int) (fx:Bool):∀ (fs:SFs),fs.good=true->∀ i f,fs.get i=some f->FieldC P E ver fx f
 | .nil,_,i,f,h=>by cases h
 | .cons g r,hg,0,f,h=>by
  simp only[SFs.good,Bool.and_eq_true] at hg
  simp only[SFs.get,Option.some.injEq] at h
  subst h
  exact fieldC H HL HT hz8 ver fx g hg.1
 | .cons g r,hg,i+1,f,h=>by
  simp only[SFs.good,Bool.and_eq_true] at hg
  exact fieldsC H HL HT hz8 ver fx r hg.2 i f h
theorem fieldC (H:SEnv P E) (HL:SLay P E) (HT:STexts P E) (hz8:qQ P E.tU8=some (.int .u8 0)) (ver:Int) (fx:Bool):∀ (f:SF),f.good=true->FieldC P E ver fx f
 | .mk kind fr to nul tag df el sub,hg=>by
  simp only[SF.good,Bool.and_eq_true,decide_eq_true_eq] at hg
  exact s_field H HT hz8 hg.1.1.1 (s_part2 H HL HT (SFs.good_tags sub hg.2) (SFs.good_num sub hg.2) (by show sub.len<=big;unfold big;omega) (fieldsC H HL HT hz8 ver fx sub hg.2))
end
theorem partC (H:SEnv P E) (HL:SLay P E) (HT:STexts P E) (hz8:qQ P E.tU8=some (.int .u8 0)) {ver:Int} {fs:SFs} (hg:fs.good=true) (hl:fs.len<=65536):pg P E ver fx fs :=
 s_part2 H HL HT (SFs.good_tags fs hg) (SFs.good_num fs hg) (by unfold big;omega) (fieldsC H HL HT hz8 ver fx fs hg)
section
attribute [local irreducible] vc rO_ qz qP qJ
mutual
def Tr.RepD (w:World) (S:Nat->Prop):Tr->List Value->Prop
 | .mk n s nl l u,cs=>s=[]/\u=[]/\∃ lv,cs=[.int .i64 n,.slice none 0 0,.bool nl,lv,.slice none 0 0] ∧
   ((lv=.slice none 0 0/\l.len=0)\/∃ q cap,lv=.slice (some ⟨q,0,none⟩) l.len cap/\l.len<=cap/\S q/\l.RepD w S q 0)
def Trs.RepD (w:World) (S:Nat->Prop) (q:Nat):Trs->Nat->Prop
 | .nil,_=>True
 | .cons t r,o=>(∃ c,qb w q o c/\t.RepD w S c)/\r.RepD w S q (o+5)
end
theorem qb.same {q:Nat} (h:qb w q o cs) (he:w'.heap[q]? = w.heap[q]?):qb w' q o cs:=by
 intro i v hv
 have:=h i v hv
 simp only[World.cell?] at this ⊢
 rw[he]
 exact this
mutual
theorem Tr.RepD.keep {w w':World} {S S':Nat->Prop} (hk:∀ q,S q->w'.heap[q]? = w.heap[q]?) (hS:∀ q,S q->S' q):∀ {t:Tr} {cs:List Value},t.RepD w S cs->t.RepD w' S' cs
 | .mk n s nl l u,cs,⟨h1,h2,lv,h3,h4⟩=>by
  refine ⟨h1,h2,lv,h3,?_⟩
  rcases h4 with h4 | ⟨q,cap,h5,h6,h7,h8⟩
  ·exact .inl h4
  ·exact .inr ⟨q,cap,h5,h6,hS q h7,Trs.RepD.keep hk hS h7 h8⟩
theorem Trs.RepD.keep {w w':World} {S S':Nat->Prop} (hk:∀ q,S q->w'.heap[q]? = w.heap[q]?) (hS:∀ q,S q->S' q) {q:Nat} (hq:S q):∀ {l:Trs} {o:Nat},l.RepD w S q o->l.RepD w' S' q o
 | .nil,_,_=>trivial
 | .cons t r,o,⟨⟨c,h1,h2⟩,h3⟩=>⟨⟨c,h1.same (hk q hq),Tr.RepD.keep hk hS h2⟩,Trs.RepD.keep hk hS hq h3⟩
end
mutual
theorem Tr.RepD.rep {w:World} {S:Nat->Prop} {U:Nat} (hS:∀ q,S q->q<U):∀ {t:Tr} {cs:List Value},t.RepD w S cs->t.Rep w U cs
 | .mk n s nl l u,cs,⟨h1,h2,lv,h3,h4⟩=>by
  refine ⟨.slice none 0 0,lv,.slice none 0 0,h3,.inl ⟨nilS,h1⟩,.inl ⟨nilS,h2⟩,?_⟩
  rcases h4 with ⟨rfl,h4⟩ | ⟨q,cap,h5,h6,h7,h8⟩
  ·exact .inl ⟨nilS,h4⟩
  ·exact .inr ⟨q,0,cap,h5,h6,hS q h7,Trs.RepD.rep hS h8⟩
theorem Trs.RepD.rep {w:World} {S:Nat->Prop} {U q:Nat} (hS:∀ q,S q->q<U):∀ {l:Trs} {o:Nat},l.RepD w S q o->l.Rep w U q o
 | .nil,_,_=>trivial
 | .cons t r,o,⟨⟨c,h1,h2⟩,h3⟩=>⟨⟨c,h1,Tr.RepD.rep hS h2⟩,Trs.RepD.rep hS h3⟩
end
theorem Tr.RepD.len {S:Nat->Prop} {t:Tr} (h:t.RepD w S cs):cs.length=5:=by
 cases t with
 | mk n s nl l u=>obtain ⟨_,_,_,rfl,_⟩:=h;rfl
theorem Tr.RepD.one {S:Nat->Prop} {t:Tr} (h:t.RepD w S cs):∀ v ∈ cs,v.oneCell'=true:=by
 cases t with
 | mk n s nl l u =>
  obtain ⟨_,_,lv,rfl,h3⟩:=h
  have e3:lv.oneCell'=true:=by rcases h3 with ⟨rfl,_⟩ | ⟨q,cap,rfl,_⟩<;>rfl
  intro v hv
  simp only[List.mem_cons,List.not_mem_nil,or_false] at hv
  rcases hv with rfl | rfl | rfl | rfl | rfl<;>first | rfl | assumption
theorem qr.below (h:qr w b o) (hb:Below B w w') (hB:b<B):qr w' b o :=
 ⟨by rw[hb.cell (p:=⟨b,o,none⟩) hB];exact h.1,by rw[hb.frozen (p:=⟨b,o,none⟩) hB];exact h.2⟩
def SF.kind:SF->Int
 | .mk kind _ _ _ _ _ _ _=>kind
def SF.df:SF->Int
 | .mk _ _ _ _ _ df _ _=>df
def SF.nul:SF->Int
 | .mk _ _ _ nul _ _ _ _=>nul
end
section
attribute [local irreducible] vc rO_ qz qP qJ
abbrev FE:=SF × Option FuncId
def SF.parts:SF->Option Operand->List (Nat × Operand)
 | .mk kind fr to nul tag df el _,x=>[(0,.const (.int .i64 kind))]++(if fr=0 then [] else [(1,.const (.int .i64 fr))])++[(2,.const (.int .i64 to)),(3,.const (.int .i64 nul)),(4,.const (.int .i64 tag))] ++
   (if df=0 then [] else [(5,.const (.int .i64 df))])++(if el=0 then [] else [(6,.const (.int .i64 el))])++(match x with | none=>[] | some x=>[(7,x)])
def yA (E:Env):List FE->Nat->List Oper
 | [],_=>[]
 | (f,none)::r,t=>wQ t E.tFld (f.parts none).toArray::yA E r (t+1)
 | (f,some g)::r,t=>xj (some t) g #[] #[] E.tFlds::wQ (t+1) E.tFld (f.parts (some (.tmp t))).toArray::yA E r (t+2)
def jv:List FE->Nat->List Nat
 | [],_=>[]
 | (_,none)::r,t=>t::jv r (t+1)
 | (_,some _)::r,t=>(t+1)::jv r (t+2)
def feT:List FE->Nat->Nat
 | [],t=>t
 | (_,none)::r,t=>feT r (t+1)
 | (_,some _)::r,t=>feT r (t+2)
def gI (E:Env) (d:Nat) (ss:List Nat):Oper:=zB d E.tFlds ss.length (ss.zipIdx.map fun x=>(x.2,Operand.tmp x.1)).toArray
def c_lit (E:Env) (l:List FE):Code :=
 sq [rg [qc 0 (.const (.slice none 0 0)) E.tFlds],rg (yA E l 1++[gI E (feT l 1) (jv l 1),qc 0 (.tmp (feT l 1)) E.tFlds]),.ret]
def c_spec (E:Env) (l:List FE) (flex:Int):Code :=
 let T:=feT l 1
 sq [rg [yg 0 E.tMsg],rg (yA E l 1++[gI E T (jv l 1),wQ (T+1) E.tMsg #[(1,.const (.int .i64 flex)),(0,.tmp T)],zq E.tMsg (.tmp 0) (.tmp (T+1))]),.ret]
def toSFs:List FE->SFs
 | []=>.nil
 | f::r=>.cons f.1 (toSFs r)
theorem toSFs_len:∀ l,(toSFs l).len=l.length
 | []=>rfl
 | f::r=>by simp[toSFs,SFs.len,toSFs_len r]
def LitC (P:Program) (g:FuncId) (fs:SFs):Prop:=∀ w,qa P g #[] w fun v w'=>SlF w' w'.heap.size v fs/\Below w.heap.size w w'
def vJ (P:Program) (l:List FE):Prop:=∀ f ∈ l,match f.2 with | none=>f.1.sub=.nil | some g=>LitC P g f.1.sub
def wE (A:Act) (W:World):List Nat->List FE->Prop
 | [],[]=>True
 | s::ss,f::fs=>(∃ cells:List Value,A.eval (.tmp s)=.agg cells.toArray/\f.1.Rep W W.heap.size cells)/\wE A W ss fs
 | _,_=>False
theorem fill_fld (kind fr to nul tag df el:Int) (sub:SFs) (ρ:Operand->Value) (hρ:∀ v,ρ (.const v)=v) (x:Option Operand) (sv:Value) (hx:match x with | none=>sv=.slice none 0 0 | some x=>ρ x=sv) (h1:sv.cells=#[sv]):
  Instr.fill (([(0,1),(1,1),(2,1),(3,1),(4,1),(5,1),(6,1),(7,1)]:List (Nat × Nat)).toArray[·]?) #[.int .i64 0,.int .i64 0,.int .i64 0,.int .i64 0,.int .i64 0,.int .i64 0,.int .i64 0,.slice none 0 0]
   ((((SF.mk kind fr to nul tag df el sub).parts x).toArray.map fun (y:Nat × Operand)=>(y.1,ρ y.2))).toList=some #[.int .i64 kind,.int .i64 fr,.int .i64 to,.int .i64 nul,.int .i64 tag,.int .i64 df,.int .i64 el,sv]:=by
 have hc:∀ n:Int,(Value.int .i64 n).cells=#[.int .i64 n]:=fun _=>rfl
 cases x with
 | none =>
  simp only at hx
  subst hx
  by_cases h1:fr=0<;>by_cases h2:df=0<;>by_cases h3:el=0<;>simp[SF.parts,h1,h2,h3,Instr.fill,hρ,hc]
 | some x =>
  simp only at hx
  by_cases h4:fr=0<;>by_cases h2:df=0<;>by_cases h3:el=0<;>simp[SF.parts,h4,h2,h3,Instr.fill,hρ,hc,hx,h1]
theorem wE.keep {A A':Act} {W W':World} (hW:Below W.heap.size W W'):∀ {ss:List Nat} {l:List FE},(∀ s ∈ ss,A'.eval (.tmp s)=A.eval (.tmp s))->wE A W ss l->wE A' W' ss l
 | [],[],_,_=>trivial
 | s::ss,f::l,hs,⟨⟨c,h1,h2⟩,h3⟩=>⟨⟨c,by rw[hs s zS];exact h1,(h2.below hW).mono hW.size⟩,wE.keep hW (fun s h=>hs s (by simp[h])) h3⟩
 | [],_::_,_,h=>h.elim
 | _::_,[],_,h=>h.elim
theorem feT_ge (l:List FE) (t:Nat):t<=feT l t:=by
 induction l generalizing t with
 | nil=>exact Nat.le_refl _
 | cons x r ih=>rcases x with ⟨f,_ | g⟩<;>simp only[feT]<;>first | (have:=ih (t+1);omega) | (have:=ih (t+2);omega)
theorem fe_run (HL:SLay P E):∀ (l:List FE) {t:Nat} {rest:List Oper} {Q:Exit->Act->World->Prop} {A:Act} {W:World},vJ P l->feT l t<=A.tmps.size →
  (∀ A' W',A'.tmps.size=A.tmps.size->A'.defers=A.defers->(∀ k:Nat,k<t->A'.eval (.tmp k)=A.eval (.tmp k))->Below W.heap.size W W'->wE A' W' (jv l t) l->rO_ P Q rest A' W')->rO_ P Q (yA E l t++rest) A W
 | [],t,rest,Q,A,W,_,_,h=>h A W rfl rfl (fun _ _=>rfl) (Below.refl _ _) trivial
 | (.mk kind fr to nul tag df el sub,none)::r,t,rest,Q,A,W,hS,ht,h=>by
  have hs:=hS _ (List.mem_cons_self ..)
  simp only[SF.sub] at hs
  have hTr:=feT_ge r (t+1)
  simp only[feT] at ht
  refine zp (cells:=#[.int .i64 kind,.int .i64 fr,.int .i64 to,.int .i64 nul,.int .i64 tag,.int .i64 df,.int .i64 el,.slice none 0 0]) HL.fld (fill_fld kind fr to nul tag df el sub A.eval (fun _=>rfl) none _ rfl rfl) ?_
  refine fe_run HL r (fun f hf=>hS f (List.mem_cons_of_mem _ hf)) (by simp only[zP];exact ht) ?_
  intro A' W' a1 a2 a3 a4 a5
  refine h A' W' (by rw[a1];simp only[zP]) (by rw[a2];simp only[dF]) (fun k hk=>?_) a4 ⟨⟨[.int .i64 kind,.int .i64 fr,.int .i64 to,.int .i64 nul,.int .i64 tag,.int .i64 df,.int .i64 el,.slice none 0 0],?_,?_⟩,a5⟩
  ·rw[a3 k zH]
   exact zE
  ·rw[a3 t zH]
   exact zE
  ·refine ⟨_,rfl,.inl ⟨rfl,?_⟩⟩
   rw[hs]
   rfl
 | (.mk kind fr to nul tag df el sub,some g)::r,t,rest,Q,A,W,hS,ht,h=>by
  have hs:=hS _ (List.mem_cons_self ..)
  simp only[SF.sub] at hs
  have hTr:=feT_ge r (t+2)
  simp only[feT] at ht
  refine q8 (args:=#[]) zS (hs W) ?_
  rintro v W1 ⟨hsl,hb1⟩
  have hv1:v.cells=#[v]:=by rcases hsl with ⟨rfl,_⟩ | ⟨q,o,cap,rfl,_⟩<;>rfl
  refine zp (cells:=#[.int .i64 kind,.int .i64 fr,.int .i64 to,.int .i64 nul,.int .i64 tag,.int .i64 df,.int .i64 el,v]) HL.fld (fill_fld kind fr to nul tag df el sub (A.put (some t) v).eval (fun _=>rfl) (some (.tmp t)) v zE hv1) ?_
  refine fe_run HL r (fun f hf=>hS f (List.mem_cons_of_mem _ hf)) (by simp only[zP];exact ht) ?_
  intro A' W' a1 a2 a3 a4 a5
  refine h A' W' (by rw[a1];simp only[zP]) (by rw[a2];simp only[dF]) (fun k hk=>?_) (hb1.trans (a4.mono hb1.size)) ⟨⟨[.int .i64 kind,.int .i64 fr,.int .i64 to,.int .i64 nul,.int .i64 tag,.int .i64 df,.int .i64 el,v],?_,?_⟩,a5⟩
  ·rw[a3 k zH]
   exact zE
  ·rw[a3 (t+1) zH]
   exact zE
  ·refine ⟨v,rfl,?_⟩
   exact (hsl.below a4).mono a4.size
def Reps (W:World) (U:Nat):List (List Value)->List FE->Prop
 | [],[]=>True
 | c::cs,f::l=>f.1.Rep W U c/\Reps W U cs l
 | _,_=>False
theorem Reps.len {W:World} {U:Nat}:∀ {cs:List (List Value)} {l:List FE},Reps W U cs l->cs.length=l.length/\∀ c ∈ cs,c.length=8
 | [],[],_=>⟨rfl,by simp⟩
 | c::cs,f::l,⟨h1,h2⟩=>by
  obtain ⟨h3,h4⟩:=Reps.len h2
  refine ⟨by simp[h3],fun x hx=>?_⟩
  rcases List.mem_cons.1 hx with rfl | hx
  ·exact h1.len
  ·exact h4 x hx
 | [],_::_,h=>h.elim
 | _::_,[],h=>h.elim
theorem Reps.below {W W':World} {U U':Nat} (hW:Below U W W') (hU:U<=U'):∀ {cs:List (List Value)} {l:List FE},Reps W U cs l->Reps W' U' cs l
 | [],[],_=>trivial
 | c::cs,f::l,⟨h1,h2⟩=>⟨(h1.below hW).mono hU,Reps.below hW hU h2⟩
 | [],_::_,h=>h.elim
 | _::_,[],h=>h.elim
theorem wE.cells {A:Act} {W:World}:∀ {ss:List Nat} {l:List FE},wE A W ss l->∃ cs:List (List Value),(ss.map fun s=>A.eval (.tmp s))=cs.map (fun c=>Value.agg c.toArray)/\Reps W W.heap.size cs l
 | [],[],_=>⟨[],rfl,trivial⟩
 | s::ss,f::l,⟨⟨c,h1,h2⟩,h3⟩=>by
  obtain ⟨cs,h4,h5⟩:=wE.cells h3
  exact ⟨c::cs,by simp only[List.map_cons,h1,h4],h2,h5⟩
 | [],_::_,h=>h.elim
 | _::_,[],h=>h.elim
theorem sfs_rep {w:World} {U q:Nat}:∀ {cs:List (List Value)} {l:List FE} {o:Nat},Reps w U cs l->qb w q o cs.flatten->(toSFs l).Rep w U q o
 | [],[],o,_,_=>trivial
 | c::cs,f::l,o,⟨h1,h2⟩,hc=>by
  have h8:=h1.len
  simp only[List.flatten_cons] at hc
  refine ⟨⟨c,?_,h1⟩,sfs_rep h2 ?_⟩
  ·have:=hc.tk (n:=c.length)
   rwa [List.take_left] at this
  ·have:=hc.dp (n:=c.length)
   rwa [List.drop_left,h8] at this
 | [],_::_,_,h,_=>h.elim
 | _::_,[],_,h,_=>h.elim
mutual
theorem SF.Rep.other {w w':World} {U b:Nat} (hk:∀ k,k≠b->w'.heap[k]? = w.heap[k]?) (hb:∀ i,7<=i->w.cell? ⟨b,i,none⟩=none):∀ {f:SF} {cs:List Value},f.Rep w U cs->f.Rep w' U cs
 | .mk kind fr to nul tag df el sub,cs,⟨sv,h1,h2⟩=>by
  refine ⟨sv,h1,?_⟩
  rcases h2 with h2 | ⟨q,o,cap,h3,h4,h5,h6⟩
  ·exact .inl h2
  ·exact .inr ⟨q,o,cap,h3,h4,h5,SFs.Rep.other hk hb h6⟩
theorem SFs.Rep.other {w w':World} {U b q:Nat} (hk:∀ k,k≠b->w'.heap[k]? = w.heap[k]?) (hb:∀ i,7<=i->w.cell? ⟨b,i,none⟩=none):∀ {l:SFs} {o:Nat},l.Rep w U q o->l.Rep w' U q o
 | .nil,_,_=>trivial
 | .cons f r,o,⟨⟨c,h1,h2⟩,h3⟩=>by
  have h8:=h2.len
  have hq:q≠b:=by
   rintro rfl
   have:=h1.get (i:=7) zH
   rw[hb (o+7) zH] at this
   cases this
  exact ⟨⟨c,h1.same (hk q hq),SF.Rep.other hk hb h2⟩,SFs.Rep.other hk hb h3⟩
end
theorem r_sliceOf (hB:xo P E.tFlds E.tFld 8=true) {d:Nat} {ss:List Nat} {l:List FE} {A:Act} (hv:wE A W ss l) (hn0:0<l.length) (hn:l.length<=65536) (h:∀ W',Below W.heap.size W W'->SlF W' W'.heap.size (.slice (some ⟨W.heap.size,0,none⟩) l.length l.length) (toSFs l)->rO_ P Q r (A.put (some d) (.slice (some ⟨W.heap.size,0,none⟩) l.length l.length)) W'):
  rO_ P Q (gI E d ss::r) A W:=by
 obtain ⟨cs,h1,h2⟩:=hv.cells
 obtain ⟨h3,h4⟩:=h2.len
 have hsl:ss.length=l.length:=by
  have:=congrArg List.length h1
  simp only[List.length_map] at this
  omega
 unfold gI
 rw[hsl]
 refine xM (vs:=cs.map (fun c=>Value.agg c.toArray)) (s:=8) hB ?_ (by rw[List.length_map];exact h3) ?_ zH hn0 ?_
 ·rw[← h1]
  simp[List.zipIdx_map,List.map_map,Function.comp_def]
 ·intro v hv
  obtain ⟨c,hc,rfl⟩:=List.mem_map.1 hv
  simpa [Value.cells] using h4 c hc
 have hfl:((cs.map (fun c=>Value.agg c.toArray)).flatMap fun v=>v.cells.toList)=cs.flatten:=by
  rw[List.flatMap_map]
  simp[Value.cells,List.flatMap]
 rw[hfl]
 have hb:Below W.heap.size W (W.alloc (.cells cs.flatten.toArray E.tFld)):=(Below.refl W.heap.size W).alloc (o:=.cells _ _) (Nat.le_refl _)
 refine h _ hb (.inr ⟨W.heap.size,0,l.length,by rw[toSFs_len],by rw[toSFs_len];exact Nat.le_refl _,by simp,?_⟩)
 refine sfs_rep (h2.below hb zS) ?_
 intro i v hv
 rw[Nat.zero_add]
 exact qm W _ E.tFld (by simpa using hv)
theorem c_lit_ok (HL:SLay P E) (hB:xo P E.tFlds E.tFld 8=true) {g:FuncId} {np nt:Nat} {l:List FE} (ht:Text P g np nt #[.tmp 0] (c_lit E l)) (hnt:feT l 1+1<=nt) (hn0:0<l.length) (hn:l.length<=65536) (hS:vJ P l):LitC P g (toSFs l):=by
 intro w
 refine qa.enter ht zS ?_
 intro a hsz hdf harg
 have hT:=feT_ge l 1
 unfold c_lit
 refine vX (rA (dn ?_))
 refine vS (vR ?_ ?_)
 ·intro o ho
  rcases List.mem_append.1 ho with h | h
  ·have:∀ (l:List FE) (t:Nat),∀ o ∈ yA E l t,o.guard=none:=by
    intro l
    induction l with
    | nil=>intro t o h;simp[yA] at h
    | cons x r ih =>
     intro t o h
     rcases x with ⟨f,_ | g⟩
     ·simp only[yA,List.mem_cons] at h
      rcases h with rfl | h
      ·rfl
      ·exact ih _ o h
     ·simp only[yA,List.mem_cons] at h
      rcases h with rfl | rfl | h
      ·rfl
      ·rfl
      ·exact ih _ o h
   exact this l 1 o h
  ·simp only[List.mem_cons,List.not_mem_nil,or_false] at h
   rcases h with rfl | rfl<;>rfl
 refine fe_run HL l hS (by simp only[zP];omega) ?_
 intro A' W' a1 a2 a3 a4 a5
 simp only[zP,dF] at a1 a2
 refine r_sliceOf hB a5 hn0 hn ?_
 intro W2 hb2 hs2
 refine rA (dn (vS (vT ?_)))
 refine ⟨by simp only[dF];rw[a2];exact hdf,.slice (some ⟨W'.heap.size,0,none⟩) l.length l.length,rO ?_,hs2,a4.trans (hb2.mono a4.size)⟩
 exact zE
def SpecC (P:Program) (f:FuncId) (fs:SFs) (flex:Int):Prop:=∀ w,qa P f #[] w fun v w'=>∃ sv,v=.agg #[sv,.int .i64 flex]/\SlF w' w'.heap.size sv fs/\Below w.heap.size w w'
theorem c_spec_ok (HL:SLay P E) (hB:xo P E.tFlds E.tFld 8=true) (hM:zd P E.tMsg=some 2) {f:FuncId} {np nt:Nat} {l:List FE} {flex:Int} (ht:Text P f np nt #[.cell 0 E.tMsg] (c_spec E l flex)) (hnt:feT l 1+2<=nt) (hn0:0<l.length) (hn:l.length<=65536) (hS:vJ P l):SpecC P f (toSFs l) flex:=by
 intro w
 refine qa.enter ht zS ?_
 intro a hsz hdf harg
 have hT:=feT_ge l 1
 obtain ⟨z,hz,hzc⟩:=xO HL.msg
 unfold c_spec
 refine vX ?_
 refine qR hz ?_
 refine dn ?_
 rw[hzc]
 have hb0:Below w.heap.size w (w.alloc (.cells #[.slice none 0 0,.int .i64 0] E.tMsg)):=(Below.refl w.heap.size w).alloc (o:=.cells _ _) (Nat.le_refl _)
 have hfr:∀ i,i<2->qr (w.alloc (.cells #[.slice none 0 0,.int .i64 0] E.tMsg)) w.heap.size i:=fun i hi=>qq w _ E.tMsg (by simpa using hi)
 have hz0:w.heap.size<(w.alloc (.cells #[.slice none 0 0,.int .i64 0] E.tMsg)).heap.size:=by simp
 have h2c:∀ i,7<=i->(w.alloc (.cells #[.slice none 0 0,.int .i64 0] E.tMsg)).cell? ⟨w.heap.size,i,none⟩=none:=fun i hi=>by
  rw[World.cell?_alloc_new]
  exact Array.getElem?_eq_none (by simp;omega)
 generalize w.alloc (.cells #[.slice none 0 0,.int .i64 0] E.tMsg)=W at *
 generalize hwb:w.heap.size=wb at *
 refine vS (vR ?_ ?_)
 ·intro o ho
  rcases List.mem_append.1 ho with h | h
  ·have:∀ (l:List FE) (t:Nat),∀ o ∈ yA E l t,o.guard=none:=by
    intro l
    induction l with
    | nil=>intro t o h;simp[yA] at h
    | cons x r ih =>
     intro t o h
     rcases x with ⟨f,_ | g⟩
     ·simp only[yA,List.mem_cons] at h
      rcases h with rfl | h
      ·rfl
      ·exact ih _ o h
     ·simp only[yA,List.mem_cons] at h
      rcases h with rfl | rfl | h
      ·rfl
      ·rfl
      ·exact ih _ o h
   exact this l 1 o h
  ·simp only[List.mem_cons,List.not_mem_nil,or_false] at h
   rcases h with rfl | rfl | rfl<;>rfl
 refine fe_run HL l hS (by simp only[zP];omega) ?_
 intro A' W' a1 a2 a3 a4 a5
 simp only[zP,dF] at a1 a2
 refine r_sliceOf hB a5 hn0 hn ?_
 intro W2 hb2 hs2
 have h0:A'.eval (.tmp 0)=.pointer (some ⟨wb,0,none⟩):=by
  rw[a3 0 zH]
  exact zE
 generalize hsv:Value.slice (some ⟨W'.heap.size,0,none⟩) l.length l.length=sv at *
 have hsv1:sv.cells=#[sv]:=by rw[← hsv];rfl
 have hsvo:sv.oneCell'=true:=by rw[← hsv];rfl
 refine zp (cells:=#[sv,.int .i64 flex]) HL.msg ?_ ?_
 ·have e1:(A'.put (some (feT l 1)) sv).eval (.tmp (feT l 1))=sv:=by exact zE
  have hc:∀ n:Int,(Value.int .i64 n).cells=#[.int .i64 n]:=fun _=>rfl
  simp[Instr.fill,e1,hsv1,xr,hc]
 have hbW2:Below W.heap.size W W2:=a4.trans (hb2.mono a4.size)
 refine qy (b:=wb) (o:=0) (cs:=[sv,.int .i64 flex]) zA zE (by intro v hv;simp only[List.mem_cons,List.not_mem_nil,or_false] at hv;rcases hv with rfl | rfl;exact hsvo;rfl) hM ?_ ?_
 ·intro j hj
  rw[Nat.zero_add]
  exact (hfr j hj).below hbW2 hz0
 refine dn (vS (vT ?_))
 have hE:=qe wb [sv,.int .i64 flex] W2 0
 have hzz:=hE.size
 refine ⟨by simp only[dF];rw[a2];exact hdf,.agg #[sv,.int .i64 flex],za (b:=wb) (o:=0) (cs:=[sv,.int .i64 flex]) zA hM ?_,sv,rfl,?_,?_⟩
 ·intro j v hv
  refine qg wb _ W2 0 (fun j hj=>?_) j v hv
  rw[Nat.zero_add]
  exact ((hfr j hj).below hbW2 hz0).1
 ·rcases hs2 with ⟨h,_⟩ | ⟨q,o,cap,h1,h2,h3,h4⟩
  ·rw[← hsv] at h;cases h
  ·refine .inr ⟨q,o,cap,h1,h2,by omega,SFs.Rep.mono hzz (SFs.Rep.other (b:=wb) (fun k hk=>?_) (fun i hi=>?_) h4)⟩
   ·rcases Nat.lt_or_ge k W2.heap.size with h | h
    ·exact hE.blockEq h (fun i hh=>hk hh.1)
    ·have e:(setCells W2 wb 0 [sv,.int .i64 flex]).heap.size=W2.heap.size:=by simp[setCells]
     rw[Array.getElem?_eq_none h,Array.getElem?_eq_none (by rw[e];exact h)]
   ·rw[hbW2.cell (p:=⟨wb,i,none⟩) hz0]
    exact h2c i hi
 ·exact (hb0.trans (hbW2.mono zH)).trans (hE.below (by have:=hbW2.size;omega) (by rintro k i hk ⟨h,_⟩;omega))
structure ML where
 implMax:FuncId
 spec:FuncId
 again:FuncId
 law:FuncId
 fits2:FuncId
 fits3:FuncId
 fits4:FuncId
 tTup:TypeId
def c_fits2 (E:Env) (A:ML):Code :=
 (sq [(rg [(oQ 1 (.box E.tT (.tmp 0)) 0),
   (oQ 2 (.assign (.const (.bool false))) E.tO)]),
  (sq [(rg [(qF 3 E.tT 1 1),
    (qL 4 3 E.tB),
    (qN 5 4 E.tB E.tI),
    (qK 6 .gtr E.tI 5 2147483647 E.tO)]),
   (.cond (.tmp 6)
    (sq [(rg [(oQ 2 (.assign (.const (.bool false))) E.tO)]),
     .ret])
    .skip)]),
  (sq [(rg [(qF 7 E.tT 1 3),
    (qL 8 7 E.tS),
    (qN 9 8 E.tS E.tI),
    (qK 10 .gtr E.tI 9 2147483647 E.tO)]),
   (.cond (.tmp 10)
    (sq [(rg [(oQ 2 (.assign (.const (.bool false))) E.tO)]),
     .ret])
    .skip)]),
  (sq [(rg [(qF 11 E.tT 1 4),
    (qL 12 11 E.tK),
    (oQ 13 (.call { callee:=.value (.func A.fits3),args:=#[(.tmp 12)],argTypes:=#[E.tK] }) E.tO),
    (oQ 14 (.unOp .not E.tO (.tmp 13)) E.tO)]),
   (.cond (.tmp 14)
    (sq [(rg [(oQ 2 (.assign (.const (.bool false))) E.tO)]),
     .ret])
    .skip)]),
  (rg [(oQ 2 (.assign (.const (.bool true))) E.tO)]),
  .ret])
def pc (E:Env) (A:ML):Code :=
 (sq [(rg [(oQ 2 (.assign (.const (.bool false))) E.tO)]),
  (sq [(rg [(qM 5 0 E.tK),
    (qN 6 5 E.tK E.tI),
    (qK 7 .gtr E.tI 6 2147483647 E.tO)]),
   (.cond (.tmp 7)
    (sq [(rg [(oQ 2 (.assign (.const (.bool false))) E.tO)]),
     .ret])
    .skip)]),
  (sq [(rg [(qM 8 0 E.tK),
    (qN 9 8 E.tK E.tI),
    (oQ 10 (.move (.const (.int .i64 0))) E.tI)]),
   (.block 0 (.loop (sq [(rg [(qB 11 .lss E.tI 10 9 0)]),
      (.cond (.tmp 11)
       .skip
       (.exit 0)),
      (.block 1 (sq [(rg [(oQ 12 (.indexAddr E.tK (.tmp 8) (.tmp 10)) 0),
         (qL 13 12 E.tUnk),
         (oQ 4 (.alloc E.tUnk) 0),
         (qS E.tUnk 4 13)]),
        (rg [(qL 14 4 E.tUnk),
         (oQ 15 (.call { callee:=.value (.func A.fits4),args:=#[(.tmp 14)],argTypes:=#[E.tUnk] }) E.tO),
         (oQ 16 (.unOp .not E.tO (.tmp 15)) E.tO)]),
        (.cond (.tmp 16)
         (sq [(rg [(oQ 2 (.assign (.const (.bool false))) E.tO)]),
          .ret])
         .skip)])),
      (rg [(qK 17 .add E.tI 10 1 E.tI),
       (qM 10 17 E.tI)])])))]),
  (rg [(oQ 2 (.assign (.const (.bool true))) E.tO)]),
  .ret])
def wm (E:Env) (A:ML):Code :=
 (sq [(rg [(oQ 1 (.box E.tUnk (.tmp 0)) 0),
   (oQ 2 (.assign (.const (.bool false))) E.tO)]),
  (sq [(rg [(qF 3 E.tUnk 1 1),
    (qL 4 3 E.tB),
    (qN 5 4 E.tB E.tI),
    (qK 6 .gtr E.tI 5 2147483647 E.tO)]),
   (.cond (.tmp 6)
    (sq [(rg [(oQ 2 (.assign (.const (.bool false))) E.tO)]),
     .ret])
    .skip)]),
  (rg [(oQ 2 (.assign (.const (.bool true))) E.tO)]),
  .ret])
def c_againL (E:Env) (A:ML):Code :=
 (sq [(rg [(oQ 3 (.box E.tT (.tmp 1)) 0),
   (oQ 4 (.assign (.const (.bool false))) E.tO)]),
  (sq [(rg [(qL 9 3 E.tT),
    (oQ 10 (.call { callee:=.value (.func A.fits2),args:=#[(.tmp 9)],argTypes:=#[E.tT] }) E.tO),
    (oQ 11 (.unOp .not E.tO (.tmp 10)) E.tO)]),
   (.cond (.tmp 11)
    (sq [(rg [(oQ 4 (.assign (.const (.bool true))) E.tO)]),
     .ret])
    .skip)]),
  (rg [(oQ 12 (.call { callee:=.value (.func A.implMax),args:=#[],argTypes:=#[] }) E.tI),
   (qA 5 12 E.tI)]),
  (sq [(rg [(qM 13 5 E.tI),
    (qK 14 .lss E.tI 13 0 E.tO)]),
   (.cond (.tmp 14)
    (sq [(rg [(oQ 4 (.assign (.const (.bool false))) E.tO)]),
     .ret])
    .skip)]),
  (rgd [(oQ 15 (.call { callee:=.value (.func A.spec),args:=#[],argTypes:=#[] }) E.tMsg),
   (qM 16 0 E.tU8),
   (qM 17 5 E.tI),
   (qD 18 (qC E.lVersion #[(.tmp 16),(.tmp 17)] #[E.tU8,E.tI]) E.tI #[jD 1,jD 2,jC 0] none),
   (qL 19 3 E.tT),
   (qD 20 (qC E.sWrite #[(.tmp 15),(.tmp 18),(.tmp 19)] #[E.tMsg,E.tI,E.tT]) E.tB #[jD 0,jD 3,jD 4,jC 3] none),
   (qD 6 (.assign (.tmp 20)) E.tB #[jD 5,jC 5,jP 0,jP 1,jP 2,jP 3,jP 4,jP 5] none)]),
  (rg [(qM 22 0 E.tU8),
   (qM 23 5 E.tI),
   (oQ 24 (qC E.lVersion #[(.tmp 22),(.tmp 23)] #[E.tU8,E.tI]) E.tI),
   (qM 25 6 E.tB),
   (oQ 26 (.call { callee:=.value (.func A.again),args:=#[(.tmp 24),(.tmp 25)],argTypes:=#[E.tI,E.tB] }) A.tTup),
   (qM 21 26 A.tTup),
   (oQ 27 (.extract (.tmp 21) 0) E.tB),
   (oQ 28 (.extract (.tmp 21) 1) E.tO),
   (qA 7 27 E.tB),
   (qA 8 28 E.tO)]),
  (rg [(qM 29 8 E.tO),
   (qM 30 29 E.tO),
   (qD 31 (.move (.tmp 7)) E.tB #[] (some (1,true))),
   (qD 32 (.move (.tmp 6)) E.tB #[] (some (1,true))),
   (qD 33 (qC E.sSame #[(.tmp 31),(.tmp 32)] #[E.tB,E.tB]) E.tO #[] (some (1,true))),
   (oQ 34 (.pick (.tmp 30) (.tmp 33) (.const (.bool false))) E.tO),
   (qA 4 34 E.tO)]),
  .ret])
abbrev AnyB (P:Program) (f:FuncId) (args:Array Value) (w:World):Prop:=qa P f args w fun v w'=>(∃ b,v=.bool b)/\Below w.heap.size w w'
theorem fits4_ok (H:SEnv P E) {A:ML} (ht:Text P A.fits4 1 7 #[.tmp 2] (wm E A)) {k:Int} {sv:Value} (ho:z9 w U sv l):AnyB P A.fits4 #[.agg [.int .u32 k,sv].toArray] w:=by
 obtain ⟨ad,cap,rfl,_,_⟩:=ho.form
 refine qa.enter ht zS ?_
 intro a hsz hdf harg
 have e0:=harg 0 (.agg [.int .u32 k,.slice ad l.length cap].toArray) zS
 unfold wm
 refine vX ?_
 refine xN (v:=.agg [.int .u32 k,.slice ad l.length cap].toArray) zA ?_
 refine rA (dn ?_)
 have hb1:Below w.heap.size w (w.alloc (.cells (Value.agg [.int .u32 k,.slice ad l.length cap].toArray).cells E.tUnk)):=(Below.refl _ w).alloc (o:=.cells _ _) (Nat.le_refl _)
 have c1:(w.alloc (.cells (Value.agg [.int .u32 k,.slice ad l.length cap].toArray).cells E.tUnk)).cell? ⟨w.heap.size,0+1,none⟩=some (.slice ad l.length cap):=qm w _ E.tUnk (by simp[Value.cells])
 generalize w.alloc (.cells (Value.agg [.int .u32 k,.slice ad l.length cap].toArray).cells E.tUnk)=w1 at *
 refine vS (vX ?_)
 refine rF (b:=w.heap.size) (o:=0) zE (qn H.fUnk (by decide)) ?_
 refine rL (b:=w.heap.size) (o:=0+1) zE H.oBytes c1 ?_
 refine xh (ad:=ad) (n:=l.length) (c:=cap) (rB H.row) zE ?_
 refine jq (k:=.i64) (m:=(l.length:Int)) (n:=2147483647) zE rfl ?_
 refine dn ?_
 refine vS (vC (t:=decide ((l.length:Int)>2147483647)) zE ?_ ?_)
 ·intro h
  refine vX (rA (dn (vS (vT ?_))))
  exact ⟨by simp only[dF];exact hdf,.bool false,rO zE,⟨_,rfl⟩,hb1⟩
 intro h
 refine vK (vN (vX (rA (dn (vS (vT ?_))))))
 exact ⟨by simp only[dF];exact hdf,.bool true,rO zE,⟨_,rfl⟩,hb1⟩
theorem fits3_ok (H:SEnv P E) {A:ML} (ht4:Text P A.fits4 1 7 #[.tmp 2] (wm E A)) (ht:Text P A.fits3 1 18 #[.tmp 2] (pc E A)) {uv:Value} (hu:yh w U uv u) (hU:U<=w.heap.size) (hbig:u.length<=9223372036854775807):AnyB P A.fits3 #[uv] w:=by
 obtain ⟨ad,cap,rfl,_,hit⟩:=hu.items
 obtain ⟨z,hz,hzc⟩:=rowB_zero H.rUnks
 refine qa.enter ht zS ?_
 intro a hsz hdf harg
 have e0:=harg 0 (.slice ad u.length cap) zS
 unfold pc
 refine vX (rA (dn (vS (vX (rM ?_)))))
 refine xh (ad:=ad) (n:=u.length) (c:=cap) (rB H.rUnks) zA ?_
 refine jq (k:=.i64) (m:=(u.length:Int)) (n:=2147483647) zE rfl ?_
 refine dn ?_
 refine vS (vC (t:=decide ((u.length:Int)>2147483647)) zE ?_ ?_)
 ·intro h
  refine vX (rA (dn (vS (vT ?_))))
  exact ⟨by simp only[dF];exact hdf,.bool false,rO zE,⟨_,rfl⟩,Below.refl _ _⟩
 intro h
 have hlen:u.length<=2147483647:=by
  have:¬ ((u.length:Int)>2147483647):=by simpa using h
  omega
 refine vK (vN (vS (vX (rM ?_))))
 refine xh (ad:=ad) (n:=u.length) (c:=cap) (rB H.rUnks) zA ?_
 refine rM (dn ?_)
 generalize hG:Act.put _ (some 10) _=G
 have hsG:G.tmps.size=18:=by rw[← hG];simp only[zP];exact hsz
 have hdG:G.defers=[]:=by rw[← hG];simp only[dF];exact hdf
 have k8:G.eval (.tmp 8)=.slice ad u.length cap:=by rw[← hG];exact zA
 have k9:G.eval (.tmp 9)=.int .i64 (u.length:Nat):=by rw[← hG];exact zE
 have k10:G.eval (.tmp 10)=.int .i64 ((0:Nat):Int):=by rw[← hG];simp (disch:=(try simp only[sP]);omega) only[eV];rfl
 clear hG
 refine vS (qk (zU (fun B V=>∃ i:Nat,i<=u.length/\B.tmps.size=18/\B.defers=[]/\B.eval (.tmp 8)=.slice ad u.length cap/\B.eval (.tmp 9)=.int .i64 (u.length:Nat)/\B.eval (.tmp 10)=.int .i64 (i:Int)/\Below w.heap.size w V)
  (fun B _=>u.length-(intOf (B.eval (.tmp 10))).toNat) ?_ ?_))
 ·exact ⟨0,Nat.zero_le _,hsG,hdG,k8,k9,k10,Below.refl _ _⟩
 rintro B V ⟨i,hi,hsB,hdB,g8,g9,g10,hbV⟩
 refine vX ?_
 refine xm (k:=.i64) (m:=(i:Int)) (n:=(u.length:Int)) g10 g9 ?_
 refine dn ?_
 refine vS (vC (t:=decide ((i:Int)<(u.length:Int))) zE ?_ ?_)
 ·intro hlt
  have hlt':i<u.length:=by simpa using hlt
  refine vK ?_
  obtain ⟨q,o,s,rfl,hq,hk,hcs,hoc⟩:=hit i u[i] (List.getElem?_eq_getElem hlt')
  have hcsV:qb V q (o+i*2) [.int .u32 (u[i].1:Int),s]:=hcs.below (hbV.mono hU) hq
  have hocV:z9 V U s u[i].2:=hoc.below (hbV.mono hU)
  refine vS (qk (vX ?_))
  refine qH (k:=.i64) (j:=i) (b:=q) (o:=o) (len:=u.length) (cap:=cap) (rB H.rUnks) zA zA hlt' ?_
  refine qf (b:=q) (o:=o+i*2) (cs:=[.int .u32 (u[i].1:Int),s]) zE H.aUnk hcsV ?_
  refine qR hz ?_
  refine qy (b:=V.heap.size) (o:=0) (cs:=[.int .u32 (u[i].1:Int),s]) zE zE (by intro v hv;simp only[List.mem_cons,List.not_mem_nil,or_false] at hv;rcases hv with rfl | rfl;rfl;exact hoc.one) H.aUnk ?_ ?_
  ·intro j hj
   rw[Nat.zero_add]
   exact qq V _ _ (by rw[hzc];simpa using hj)
  refine dn ?_
  have hcell:qb (setCells (V.alloc (.cells z.cells E.tUnk)) V.heap.size 0 [.int .u32 (u[i].1:Int),s]) V.heap.size 0 [.int .u32 (u[i].1:Int),s]:=by
   intro j v hv
   refine qg V.heap.size _ _ 0 (fun j hj=>?_) j _ hv
   rw[Nat.zero_add]
   exact (qq V z.cells E.tUnk (by rw[hzc];simpa using hj)).1
  have hb3:Below V.heap.size V (setCells (V.alloc (.cells z.cells E.tUnk)) V.heap.size 0 [.int .u32 (u[i].1:Int),s]):=by
   refine ((Below.refl V.heap.size V).alloc (o:=.cells _ _) (Nat.le_refl _)).trans ((qe V.heap.size _ _ 0).below zS (by rintro k i hk ⟨rfl,_,_⟩;omega))
  generalize setCells (V.alloc (.cells z.cells E.tUnk)) V.heap.size 0 [.int .u32 (u[i].1:Int),s]=V1 at hcell hb3 ⊢
  have hbV1:Below w.heap.size w V1:=hbV.trans (hb3.mono hbV.size)
  refine vX ?_
  refine qf (b:=V.heap.size) (o:=0) (cs:=[.int .u32 (u[i].1:Int),s]) zE H.aUnk hcell ?_
  refine q8 (args:=#[.agg [.int .u32 (u[i].1:Int),s].toArray]) ?_ (fits4_ok (k:=(u[i].1:Int)) H ht4 (hocV.below (hb3.mono (Nat.le_trans hU hbV.size)))) ?_
  ·simp only[lM]
   exact zE
  rintro v V2 ⟨⟨b,rfl⟩,hb4⟩
  have hbV2:Below w.heap.size w V2:=hbV1.trans (hb4.mono hbV1.size)
  refine zG (b:=b) zE ?_
  refine dn ?_
  refine vS (vC (t:=!b) zE ?_ ?_)
  ·intro _
   refine vX (rA (dn (vS (vT ?_))))
   exact ⟨by simp only[dF];exact hdB,.bool false,rO zE,⟨_,rfl⟩,hbV2⟩
  intro _
  refine vK (vN (vX ?_))
  refine z8 (k:=.i64) (m:=(i:Int)) (n:=1) zA rfl ?_
  rw[wrap_i64 zH zH]
  refine rM (dn (vN ?_))
  generalize hG:Act.put _ (some 10) _=G
  have hsG:G.tmps.size=18:=by rw[← hG];simp only[zP];exact hsB
  have hdG:G.defers=[]:=by rw[← hG];simp only[dF];exact hdB
  have k8:G.eval (.tmp 8)=.slice (some ⟨q,o,none⟩) u.length cap:=by rw[← hG];exact zA
  have k9:G.eval (.tmp 9)=.int .i64 (u.length:Nat):=by rw[← hG];exact zA
  have k10:G.eval (.tmp 10)=.int .i64 ((i+1:Nat):Int):=by rw[← hG];simp (disch:=(try simp only[sP]);omega) only[eV];rfl
  clear hG
  refine ⟨⟨i+1,hlt',hsG,hdG,k8,k9,k10,hbV2⟩,?_⟩
  show u.length-(intOf _).toNat<u.length-(intOf _).toNat
  rw[k10,g10]
  simp only[intOf,Int.toNat_natCast]
  omega
 ·intro hge
  refine xp ?_
  simp only[Exit.then,Exit.inBlock,if_true]
  refine vN (vX (rA (dn (vS (vT ?_)))))
  exact ⟨by simp only[dF];exact hdB,.bool true,rO zE,⟨_,rfl⟩,hbV⟩
theorem gP (H:SEnv P E) {A:ML} (ht4:Text P A.fits4 1 7 #[.tmp 2] (wm E A)) (ht3:Text P A.fits3 1 18 #[.tmp 2] (pc E A)) (ht:Text P A.fits2 1 15 #[.tmp 2] (c_fits2 E A)) {t:Tr} (hr:t.Rep w U ts) (hU:U<=w.heap.size) (hul:∀ n s nl l u,t=.mk n s nl l u->u.length<=9223372036854775807):AnyB P A.fits2 #[.agg ts.toArray] w:=by
 cases t with
 | mk n s nl l u =>
 have hul:=hul n s nl l u rfl
 obtain ⟨sv,lv,uv,rfl,hs,hun,hl⟩:=hr
 obtain ⟨ad,cap,rfl,_,_⟩:=hs.form
 obtain ⟨lad,lcap,rfl⟩:∃ ad cap,lv=.slice ad l.len cap:=by
  rcases hl with ⟨⟨ad,cap,rfl⟩,h0⟩ | ⟨q,o,cap,rfl,_⟩
  ·exact ⟨_,_,by rw[h0]⟩
  ·exact ⟨_,_,rfl⟩
 refine qa.enter ht zS ?_
 intro a hsz hdf harg
 have e0:=harg 0 (.agg [.int .i64 n,.slice ad s.length cap,.bool nl,.slice lad l.len lcap,uv].toArray) zS
 unfold c_fits2
 refine vX ?_
 refine xN (v:=.agg [.int .i64 n,.slice ad s.length cap,.bool nl,.slice lad l.len lcap,uv].toArray) zA ?_
 refine rA (dn ?_)
 have hb1:Below w.heap.size w (w.alloc (.cells (Value.agg [.int .i64 n,.slice ad s.length cap,.bool nl,.slice lad l.len lcap,uv].toArray).cells E.tT)):=(Below.refl _ w).alloc (o:=.cells _ _) (Nat.le_refl _)
 have hcs:qb (w.alloc (.cells (Value.agg [.int .i64 n,.slice ad s.length cap,.bool nl,.slice lad l.len lcap,uv].toArray).cells E.tT)) w.heap.size 0 [.int .i64 n,.slice ad s.length cap,.bool nl,.slice lad l.len lcap,uv]:=by
  intro j v hv
  rw[Nat.zero_add]
  exact qm w _ E.tT (by simpa [Value.cells] using hv)
 generalize w.alloc (.cells (Value.agg [.int .i64 n,.slice ad s.length cap,.bool nl,.slice lad l.len lcap,uv].toArray).cells E.tT)=w1 at *
 refine vS (vX ?_)
 refine rF (b:=w.heap.size) (o:=0) zE (qn H.fTree (by decide)) ?_
 refine rL (b:=w.heap.size) (o:=0+1) zE H.oBytes (hcs 1 _ rfl) ?_
 refine xh (ad:=ad) (n:=s.length) (c:=cap) (rB H.row) zE ?_
 refine jq (k:=.i64) (m:=(s.length:Int)) (n:=2147483647) zE rfl ?_
 refine dn ?_
 refine vS (vC (t:=decide ((s.length:Int)>2147483647)) zE ?_ ?_)
 ·intro h
  refine vX (rA (dn (vS (vT ?_))))
  exact ⟨by simp only[dF];exact hdf,.bool false,rO zE,⟨_,rfl⟩,hb1⟩
 intro _
 refine vK (vN (vS (vX ?_)))
 refine rF (b:=w.heap.size) (o:=0) zE (qn H.fTree (by decide)) ?_
 refine rL (b:=w.heap.size) (o:=0+3) zE H.oTrees (hcs 3 _ rfl) ?_
 refine xh (ad:=lad) (n:=l.len) (c:=lcap) (rB H.rTrees) zE ?_
 refine jq (k:=.i64) (m:=(l.len:Int)) (n:=2147483647) zE rfl ?_
 refine dn ?_
 refine vS (vC (t:=decide ((l.len:Int)>2147483647)) zE ?_ ?_)
 ·intro h
  refine vX (rA (dn (vS (vT ?_))))
  exact ⟨by simp only[dF];exact hdf,.bool false,rO zE,⟨_,rfl⟩,hb1⟩
 intro _
 refine vK (vN (vS (vX ?_)))
 refine rF (b:=w.heap.size) (o:=0) zE (qn H.fTree (by decide)) ?_
 refine rL (b:=w.heap.size) (o:=0+4) zE H.oUnks (hcs 4 _ rfl) ?_
 refine q8 (args:=#[uv]) ?_ (fits3_ok H ht4 ht3 (hun.below (hb1.mono hU)) (Nat.le_trans hU hb1.size) hul) ?_
 ·simp only[lM]
  exact zE
 rintro v w2 ⟨⟨b,rfl⟩,hb2⟩
 have hb12:Below w.heap.size w w2:=hb1.trans (hb2.mono hb1.size)
 refine zG (b:=b) zE ?_
 refine dn ?_
 refine vS (vC (t:=!b) zE ?_ ?_)
 ·intro h
  refine vX (rA (dn (vS (vT ?_))))
  exact ⟨by simp only[dF];exact hdf,.bool false,rO zE,⟨_,rfl⟩,hb12⟩
 intro _
 refine vK (vN (vX (rA (dn (vS (vT ?_))))))
 exact ⟨by simp only[dF];exact hdf,.bool true,rO zE,⟨_,rfl⟩,hb12⟩
structure Spd (m:Msg) (fs:SFs) (flex:Int) (mx:Nat):Prop where
 good:fs.good=true
 len:fs.len<=65536
 agr:m.fs.agr fs=true
 fx:∀ ver:Nat,ver<=mx->m.isFlex ver=(decide (flex ≥ 0)&&decide ((ver:Int) ≥ flex))
 lp:lpB m mx=true
 kept:m.kept=false
 mx:mx<32768
theorem isFlex_eq {m:Msg} {flex:Int} (h:(match m.flex with | none=>decide (flex<0) | some f=>decide (flex=(f:Int)))=true) (ver:Nat):m.isFlex ver=(decide (flex ≥ 0)&&decide ((ver:Int) ≥ flex)):=by
 unfold Msg.isFlex
 cases hm:m.flex with
 | none =>
  rw[hm] at h
  have h0:flex<0:=by simpa using h
  have h1:¬ (flex ≥ 0):=by omega
  simp[h1]
 | some f =>
  rw[hm] at h
  have h1:flex=(f:Int):=by simpa using h
  subst h1
  have h2:((f:Int) ≥ 0):=by omega
  simp only[h2,decide_true,Bool.true_and]
  by_cases h3:f<=ver
  ·have:((ver:Int) ≥ (f:Int)):=by omega
   simp[h3,this]
  ·have:¬ ((ver:Int) ≥ (f:Int)):=by omega
   simp[h3,this]
structure LawT (P:Program) (E:Env) (A:ML) (m:Msg) (fs:SFs) (flex:Int) (mx:Nat):Prop where
 se:SEnv P E
 sl:SLay P E
 st:STexts P E
 hz8:qQ P E.tU8=some (.int .u8 0)
 hoM:offs P E.tMsg 2=true
 hM:zd P E.tMsg=some 2
 ver:Text P E.lVersion 2 10 #[.tmp 4] (y3 E)
 f4:Text P A.fits4 1 7 #[.tmp 2] (wm E A)
 f3:Text P A.fits3 1 18 #[.tmp 2] (pc E A)
 f2:Text P A.fits2 1 15 #[.tmp 2] (c_fits2 E A)
 max:∀ w,qa P A.implMax #[] w fun v w'=>v=.int .i64 mx/\Below w.heap.size w w'
 spec:SpecC P A.spec fs flex
 again:AgainC P E m A.again mx
def Tr.small (t:Tr):Prop:=∀ n s nl l u,t=.mk n s nl l u->u.length<=9223372036854775807
end
section
open Go.ChangeShapes Go.WideShapes Go.ChangeAt
def vW (P:Program) (t:TypeId) (l:List (TypeId × Nat)):Bool :=
 match P.underlying t with
 | some (.struct fs)=>fs.toList.map (fun f=>(f.type,f.offset))==l
 | _=>false
theorem jy {t:TypeId} {l:List (TypeId × Nat)} (h:vW P t l=true):
  ∃ fs:Array Field,P.underlying t=some (.struct fs)/\fs.size=l.length/\∀ (i:Nat) (p:TypeId × Nat),l[i]? = some p->∃ f:Field,fs[i]? = some f/\f.type=p.1/\f.offset=p.2:=by
 unfold vW at h
 split at h
 ·rename_i fs hu
  simp only[beq_iff_eq] at h
  refine ⟨fs,hu,by rw[← h];simp,fun i p hp=>?_⟩
  rw[← h,List.getElem?_map,Option.map_eq_some_iff] at hp
  obtain ⟨f,hf,rfl⟩:=hp
  exact ⟨f,by simpa using hf,rfl,rfl⟩
 ·cases h
structure TreeT (P:Program) (E:Env):Prop where
 tree:vW P E.tT [(E.tI64,0),(E.tB,1),(E.tO,2),(E.tS,3),(E.tK,4)]=true
 unk:vW P E.tUnk [(E.tW,0),(E.tB,1)]=true
 trees:P.underlying E.tS=some (.slice E.tT)
 unks:P.underlying E.tK=some (.slice E.tUnk)
 bytes:P.underlying E.tB=some (.slice E.tU8)
 u8:P.underlying E.tU8=some (.int .u8)
 i64:P.underlying E.tI64=some (.int .i64)
 u32:P.underlying E.tW=some (.int .u32)
 bool:P.underlying E.tO=some .bool
 cTree:P.cellsOf E.tT=5
 cUnk:P.cellsOf E.tUnk=2
 c8:P.cellsOf E.tU8=1
 c64:P.cellsOf E.tI64=1
 c32:P.cellsOf E.tW=1
 cBool:P.cellsOf E.tO=1
 cBytes:P.cellsOf E.tB=1
 cTrees:P.cellsOf E.tS=1
 cUnks:P.cellsOf E.tK=1
mutual
def Tr.wt:Tr->Nat
 | .mk _ s _ l u=>1+s.length+l.wt+(u.map fun x=>1+x.2.length).sum
def Trs.wt:Trs->Nat
 | .nil=>0
 | .cons t r=>t.wt+r.wt
end
structure Bulk {H:Type} (B:DataW H->Nat) (BA:List (DataW H)->Nat):Prop where
 agg:∀ l,B (.agg l)=BA l+1
 slice:∀ l r,B (.slice l r)=BA l+BA r+1
 nil:BA []=0
 cons:∀ d r,BA (d::r)=B d+BA r
 pos:∀ d,1<=B d
theorem Bulk.len {H:Type} {B:DataW H->Nat} {BA:List (DataW H)->Nat} (b:Bulk B BA):∀ l:List (DataW H),l.length<=BA l
 | []=>by simp
 | d::r=>by
  have h1:=b.len r
  have h2:=b.pos d
  rw[b.cons,List.length_cons]
  omega
theorem Bulk.sum {H α:Type} {B:DataW H->Nat} {BA:List (DataW H)->Nat} (b:Bulk B BA) {f:α->Nat}:∀ (l:List α) (es:List (DataW H × List MemPlace)),l.length=es.length->(∀ (i:Nat) (x:α) (y:DataW H × List MemPlace),l[i]? = some x->es[i]? = some y->f x<=B y.1)->(l.map f).sum<=BA (es.map (·.1))
 | [],es,_,_=>by simp
 | x::l,[],h,_=>by simp at h
 | x::l,y::es,h,hp=>by
  have h1:=b.sum l es (by simpa using h) (fun i x y hx hy=>hp (i+1) x y (by simpa using hx) (by simpa using hy))
  have h2:=hp 0 x y rfl rfl
  simp only[List.map_cons,List.sum_cons,b.cons]
  omega
section
variable {H : Type} {enc : TypeId × Value → H} {sp : Nat → Bool} {held : Bool} {B : DataW H → Nat} {BA : List (DataW H) → Nat}
theorem cells_get {a:Addr} {c:List Value} (h:W.cells? 0 a n=some c):c.length=n/\∀ j,j<n->W.cell? (a.add j)=c[j]?:=by
 unfold World.cells? at h
 rw[if_pos (Nat.zero_le _)] at h
 have h1:=mapM_some_length h
 refine ⟨by simpa using h1,fun j hj=>?_⟩
 exact mapM_some_get h j j (by simp[hj])
theorem spot_none {a:Addr} (h:W.cell? a=some v):a.spot=none:=by
 unfold World.cell? at h
 split at h
 ·split at h
  ·cases h
  ·rename_i h2;simpa using h2
 ·cases h
theorem cells_lit {q:Nat} {c:List Value} (h:∀ j,j<n->W.cell? ((⟨q,o,none⟩:Addr).add j)=c[j]?) (hc:c.length=n):qb W q o c:=by
 intro j v hv
 have hj:=(List.getElem?_eq_some_iff.1 hv).1
 have:=h j zH
 rw[Addr.add_lit] at this
 rw[this]
 exact hv
theorem trod_octs (T:TreeT P E) (b:Bulk B BA) {fuel:Nat} {c:List Value} {x:DataW H × List MemPlace} (h:DataW.trod enc P W 0 sp held fuel E.tB c=some x):∃ v l,c=[v]/\z9 W W.heap.size v l/\l.length<=B x.1:=by
 rcases open_ints T.bytes T.u8 T.c8 h with ⟨rfl,_⟩ | ⟨a,len,cap,zs,rfl,_,hl,hm,hz,hx,hcell,hwz⟩
 ·exact ⟨_,[],rfl,.inl ⟨nilS,rfl⟩,Nat.zero_le _⟩
 have hzl:len<=zs.length:=by rw[hz];split<;>omega
 rcases Nat.eq_zero_or_pos len with rfl | hpos
 ·exact ⟨_,[],rfl,.inl ⟨⟨_,_,rfl⟩,rfl⟩,Nat.zero_le _⟩
 have h0:=hcell 0 zH
 rw[Addr.add_zero'] at h0
 obtain ⟨q,o,s⟩:=a
 have hsn:=spot_none h0
 simp only at hsn
 subst hsn
 have hlen:((zs.take len).map fun n=>UInt8.ofNat n.toNat).length=len:=by simp;omega
 have hbk:len<=B x.1:=by
  rw[hx]
  show len<=B (.slice _ _)
  rw[b.slice]
  have:=b.len (lits (H:=H) .u8 (zs.take len))
  have e:(lits (H:=H) .u8 (zs.take len)).length=len:=by simp[lits];omega
  omega
 refine ⟨_,(zs.take len).map fun n=>UInt8.ofNat n.toNat,rfl,.inr ⟨q,o,cap,by rw[hlen],by rw[hlen];exact hl,World.block_lt_of_cell? W _ h0,fun j u hu=>?_⟩,by rw[hlen];exact hbk⟩
 have hj:j<len:=by
  rcases Nat.lt_or_ge j len with h | h
  ·exact h
  ·rw[List.getElem?_eq_none (by simp;omega)] at hu;cases hu
 have hcj:=hcell j zH
 rw[Addr.add_lit] at hcj
 rw[hcj]
 have hb2:=range_u8 hwz j
 simp only[List.getElem?_map,List.getElem?_take,if_pos hj,List.getElem?_eq_getElem (show j<zs.length by omega),Option.map_some,Option.some.injEq] at hu
 subst hu
 have e:zs.getD j 0=zs[j]'zH:=by simp[List.getD,List.getElem?_eq_getElem (show j<zs.length by omega)]
 rw[e]
 rw[List.getD_eq_getElem?_getD] at e
 rw[e] at hb2
 simp only[bv,UInt8.toNat_ofNat']
 congr 2
 omega
theorem u32_nat' {a:Int} (h:(Lit.int .u32 a).wf=true):∃ n:Nat,a=(n:Int)/\n<4294967296:=by
 have h2:IntKind.u32.min<=a/\a<=IntKind.u32.max:=by
  simpa [Lit.wf] using h
 have e1:IntKind.u32.min=0:=by decide
 have e2:IntKind.u32.max=4294967295:=by decide
 rw[e1,e2] at h2
 exact ⟨a.toNat,by omega,by omega⟩
theorem trod_unk (T:TreeT P E) (b:Bulk B BA) {fuel:Nat} {c:List Value} {x:DataW H × List MemPlace} (h:DataW.trod enc P W 0 sp held fuel E.tUnk c=some x):∃ (k:Nat) (v:Value) (l:List UInt8),c=[.int .u32 (k:Int),v]/\k<4294967296/\z9 W W.heap.size v l/\1+l.length<=B x.1:=by
 obtain ⟨fs,hu,hsz,hget⟩:=jy T.unk
 obtain ⟨xs,n,_,hx,hcl,hxl,hf⟩:=DataW.trod_struct hu h
 rw[T.cUnk] at hcl
 obtain ⟨c0,c1,rfl⟩:∃ c0 c1,c=[c0,c1]:=by
  match c,hcl with
  | [c0,c1],_=>exact ⟨c0,c1,rfl⟩
 obtain ⟨f0,h0,h1,h2⟩:=hget 0 _ rfl
 obtain ⟨f1,g0,g1,g2⟩:=hget 1 _ rfl
 have a0:=hf 0 f0 h0
 have a1:=hf 1 f1 g0
 rw[h1,h2,T.c32] at a0
 rw[g1,g2,T.cBytes] at a1
 rw[List.getElem?_eq_getElem (show 0<xs.length by rw[hxl,hsz];simp)] at a0
 rw[List.getElem?_eq_getElem (show 1<xs.length by rw[hxl,hsz];simp)] at a1
 obtain ⟨k,e0,_,hw⟩:=DataW.trod_int T.u32 a0
 obtain ⟨v,l,e1,ho,hbk⟩:=trod_octs T b a1
 obtain ⟨m,rfl,hm⟩:=u32_nat' hw
 have hxs:∃ x0 x1,xs=[x0,x1]:=by
  match xs,(show xs.length=2 by rw[hxl,hsz];rfl) with
  | [x0,x1],_=>exact ⟨x0,x1,rfl⟩
 obtain ⟨x0,x1,rfl⟩:=hxs
 have hB:1+l.length<=B x.1:=by
  rw[hx]
  show _<=B (.agg _)
  simp only[List.map_cons,List.map_nil,b.agg,b.cons,b.nil]
  have h3:l.length<=B x1.1:=hbk
  omega
 simp only[List.drop_zero,List.take_succ_cons,List.take_zero,List.cons.injEq,and_true] at e0
 simp only[List.drop_succ_cons,List.drop_zero,List.take_succ_cons,List.take_zero,List.cons.injEq,and_true] at e1
 subst e0 e1
 exact ⟨m,_,l,rfl,hm,ho,hB⟩
theorem list_of {α:Type} {p:Nat->α->Prop}:∀ {n:Nat},(∀ i,i<n->∃ x,p i x)->∃ l:List α,l.length=n/\∀ (i:Nat) (x:α),l[i]? = some x->p i x
 | 0,_=>⟨[],rfl,fun i x h=>by simp at h⟩
 | n+1,h=>by
  obtain ⟨l,hl,hp⟩:=list_of (fun i hi=>h i zH:∀ i,i<n->∃ x,p i x)
  obtain ⟨x,hx⟩:=h n zH
  refine ⟨l++[x],by simp[hl],fun i y hy=>?_⟩
  rcases Nat.lt_or_ge i n with hi | hi
  ·rw[List.getElem?_append_left zH] at hy
   exact hp i y hy
  ·rw[List.getElem?_append_right zH] at hy
   have:i-l.length=0:=by
    rcases Nat.eq_zero_or_pos (i-l.length) with h0 | h0
    ·exact h0
    ·rw[List.getElem?_eq_none (by simp;omega)] at hy;cases hy
   rw[this] at hy
   simp only[List.getElem?_cons_zero,Option.some.injEq] at hy
   subst hy
   have:i=n:=by omega
   subst this
   exact hx
theorem trod_items {t:TypeId} (ht:P.underlying t=some (.slice e)) (hc:P.cellsOf e=s) (hs:0<s) {fuel:Nat} {c:List Value} {x:DataW H × List MemPlace} (h:DataW.trod enc P W 0 sp held fuel t c=some x):
  (∃ v,c=[v]/\NilS v)\/∃ (q o len cap n:Nat) (elems rest:List (DataW H × List MemPlace)),fuel=n+1/\c=[.slice (some ⟨q,o,none⟩) len cap]/\len<=cap/\q<W.heap.size/\x.1=.slice (elems.map (·.1)) (rest.map (·.1))/\elems.length=len ∧
   ∀ i,i<len->∃ (c:List Value) (y:DataW H × List MemPlace),elems[i]? = some y/\qb W q (o+i*s) c/\DataW.trod enc P W 0 sp held n e c=some y:=by
 rcases DataW.trod_slice ht h with ⟨rfl,_⟩ | ⟨a,len,cap,elems,rest,n,hn,rfl,hx,_,hl,_,hel,hget,_⟩
 ·exact .inl ⟨_,rfl,nilS⟩
 rw[hc] at hget
 have each:∀ i,i<len->∃ (c:List Value) (y:DataW H × List MemPlace),elems[i]? = some y/\W.cells? 0 (a.add (i*s)) s=some c/\DataW.trod enc P W 0 sp held n e c=some y:=fun i hi=>by
  have:=hget i hi
  rw[List.getElem?_eq_getElem zH] at this
  obtain ⟨c,h1,h2⟩:=Option.bind_eq_some_iff.1 this
  exact ⟨c,_,List.getElem?_eq_getElem zH,h1,h2⟩
 rcases Nat.eq_zero_or_pos len with rfl | hpos
 ·exact .inl ⟨_,rfl,_,_,rfl⟩
 obtain ⟨c0,y0,_,hc0,_⟩:=each 0 hpos
 obtain ⟨hl0,hg0⟩:=cells_get hc0
 have h00:=hg0 0 hs
 rw[Nat.zero_mul,Addr.add_zero',Addr.add_zero',List.getElem?_eq_getElem zH] at h00
 obtain ⟨q,o,sp'⟩:=a
 have hsn:=spot_none h00
 simp only at hsn
 subst hsn
 refine .inr ⟨q,o,len,cap,n,elems,rest,hn,rfl,hl,World.block_lt_of_cell? W _ h00,by rw[hx],hel,fun i hi=>?_⟩
 obtain ⟨c,y,h0,h1,h2⟩:=each i hi
 obtain ⟨h3,h4⟩:=cells_get h1
 rw[Addr.add_lit] at h4
 exact ⟨c,y,h0,cells_lit h4 h3,h2⟩
theorem trod_unks (T:TreeT P E) (b:Bulk B BA) {fuel:Nat} {c:List Value} {x:DataW H × List MemPlace} (h:DataW.trod enc P W 0 sp held fuel E.tK c=some x):∃ v u,c=[v]/\yh W W.heap.size v u/\(∀ x ∈ u,x.1<4294967296)/\(u.map fun x=>1+x.2.length).sum<=B x.1:=by
 rcases trod_items T.unks T.cUnk (by decide) h with ⟨v,rfl,hv⟩ | ⟨q,o,len,cap,n,elems,rest,_,rfl,hl,hq,hx,hel,hit⟩
 ·exact ⟨v,[],rfl,.inl ⟨hv,rfl⟩,by simp,by simp⟩
 obtain ⟨u,hul,hu⟩:=list_of (p:=fun i (x:Nat × List UInt8)=>(∃ sv,x.1<4294967296/\qb W q (o+i*2) [.int .u32 (x.1:Int),sv]/\z9 W W.heap.size sv x.2)/\∀ y,elems[i]? = some y->1+x.2.length<=B y.1) (fun i hi=>by
  obtain ⟨c,y,h0,h1,h2⟩:=hit i hi
  obtain ⟨k,v,l,rfl,hk,ho,hb⟩:=trod_unk T b h2
  refine ⟨(k,l),⟨v,hk,h1,ho⟩,fun y' hy'=>?_⟩
  rw[h0] at hy'
  cases hy'
  exact hb)
 refine ⟨_,u,rfl,.inr ⟨q,o,cap,by rw[hul],by rw[hul];exact hl,hq,fun i x hx=>(hu i x hx).1⟩,fun x hx=>?_,?_⟩
 ·obtain ⟨i,hi⟩:=List.mem_iff_getElem?.1 hx
  obtain ⟨⟨_,h1,_⟩,_⟩:=hu i x hi
  exact h1
 ·have:=b.sum (f:=fun (x:Nat × List UInt8)=>1+x.2.length) u elems zH (fun i x y h1 h2=>(hu i x h1).2 y h2)
  rw[hx,b.slice]
  omega
def Trs.ofL:List Tr->Trs
 | []=>.nil
 | t::l=>.cons t (Trs.ofL l)
theorem Trs.ofL_len:∀ l:List Tr,(Trs.ofL l).len=l.length
 | []=>rfl
 | t::l=>by simp[Trs.ofL,Trs.len,Trs.ofL_len l]
theorem Trs.ofL_rep {U q:Nat}:∀ (l:List Tr) (o:Nat),(∀ (i:Nat) (t:Tr),l[i]? = some t->∃ c,qb W q (o+i*5) c/\t.Rep W U c)->(Trs.ofL l).Rep W U q o
 | [],_,_=>trivial
 | t::l,o,h=>by
  obtain ⟨c,h1,h2⟩:=h 0 t rfl
  refine ⟨⟨c,by simpa using h1,h2⟩,Trs.ofL_rep l (o+5) (fun i t ht=>?_)⟩
  obtain ⟨c,h3,h4⟩:=h (i+1) t (by simpa using ht)
  exact ⟨c,by rwa [show o+5+i*5=o+(i+1)*5 by omega],h4⟩
theorem Trs.ofL_wt:∀ l:List Tr,(Trs.ofL l).wt=(l.map Tr.wt).sum
 | []=>rfl
 | t::l=>by simp[Trs.ofL,Trs.wt,Trs.ofL_wt l]
theorem Trs.ofL_tok:∀ (l:List Tr),(∀ t ∈ l,t.tok)->(Trs.ofL l).tok
 | [],_=>trivial
 | t::l,h=>⟨h t zS,Trs.ofL_tok l (fun x hx=>h x (by simp[hx]))⟩
theorem trod_tree (T:TreeT P E) (b:Bulk B BA):∀ (fuel:Nat) (c:List Value) (x:DataW H × List MemPlace),DataW.trod enc P W 0 sp held fuel E.tT c=some x->∃ t:Tr,t.Rep W W.heap.size c/\t.tok/\t.wt<=B x.1:=by
 intro fuel
 induction fuel using Nat.strongRecOn with
 | ind fuel ih =>
  intro c x h
  obtain ⟨fs,hu,hsz,hget⟩:=jy T.tree
  obtain ⟨xs,n,hfn,hx,hcl,hxl,hf⟩:=DataW.trod_struct hu h
  rw[T.cTree] at hcl
  obtain ⟨c0,c1,c2,c3,c4,rfl⟩:∃ c0 c1 c2 c3 c4,c=[c0,c1,c2,c3,c4]:=by
   match c,hcl with
   | [c0,c1,c2,c3,c4],_=>exact ⟨c0,c1,c2,c3,c4,rfl⟩
  obtain ⟨f0,h00,h01,h02⟩:=hget 0 _ rfl
  obtain ⟨f1,h10,h11,h12⟩:=hget 1 _ rfl
  obtain ⟨f2,h20,h21,h22⟩:=hget 2 _ rfl
  obtain ⟨f3,h30,h31,h32⟩:=hget 3 _ rfl
  obtain ⟨f4,h40,h41,h42⟩:=hget 4 _ rfl
  have a0:=hf 0 f0 h00
  have a1:=hf 1 f1 h10
  have a2:=hf 2 f2 h20
  have a3:=hf 3 f3 h30
  have a4:=hf 4 f4 h40
  rw[h01,h02,T.c64,List.getElem?_eq_getElem (show 0<xs.length by rw[hxl,hsz];simp)] at a0
  rw[h11,h12,T.cBytes,List.getElem?_eq_getElem (show 1<xs.length by rw[hxl,hsz];simp)] at a1
  rw[h21,h22,T.cBool,List.getElem?_eq_getElem (show 2<xs.length by rw[hxl,hsz];simp)] at a2
  rw[h31,h32,T.cTrees,List.getElem?_eq_getElem (show 3<xs.length by rw[hxl,hsz];simp)] at a3
  rw[h41,h42,T.cUnks,List.getElem?_eq_getElem (show 4<xs.length by rw[hxl,hsz];simp)] at a4
  obtain ⟨k,e0,_,_⟩:=DataW.trod_int T.i64 a0
  obtain ⟨sv,s,e1,hs,hsB⟩:=trod_octs T b a1
  obtain ⟨nb,e2,_⟩:=DataW.trod_bool T.bool a2
  obtain ⟨uv,u,e4,hun,htok,huB⟩:=trod_unks T b a4
  have hxs:∃ x0 x1 x2 x3 x4,xs=[x0,x1,x2,x3,x4]:=by
   match xs,(show xs.length=5 by rw[hxl,hsz];rfl) with
   | [x0,x1,x2,x3,x4],_=>exact ⟨x0,x1,x2,x3,x4,rfl⟩
  obtain ⟨x0,x1,x2,x3,x4,rfl⟩:=hxs
  have hsB':s.length<=B x1.1:=hsB
  have huB':(u.map fun x=>1+x.2.length).sum<=B x4.1:=huB
  have hxB:B x0.1+(B x1.1+(B x2.1+(B x3.1+B x4.1)))+1=B x.1:=by
   rw[hx]
   show _=B (.agg _)
   simp only[List.map_cons,List.map_nil,b.agg,b.cons,b.nil,Nat.add_zero]
  simp only[List.drop_zero,List.drop_succ_cons,List.take_succ_cons,List.take_zero,List.cons.injEq,and_true] at e0 e1 e2 e4
  subst e0 e1 e2 e4
  simp only[List.drop_zero,List.drop_succ_cons,List.take_succ_cons,List.take_zero] at a3
  rcases trod_items T.trees T.cTree (by decide) a3 with ⟨v,e3,hv⟩ | ⟨q,o,len,cap,m,elems,rest,hm,e3,hl,hq,hx3,hel,hit⟩
  ·simp only[List.cons.injEq,and_true] at e3
   subst e3
   refine ⟨.mk k s nb .nil u,⟨c1,c3,c4,rfl,hs,hun,.inl ⟨hv,rfl⟩⟩,⟨htok,trivial⟩,?_⟩
   simp only[Tr.wt,Trs.wt]
   omega
  ·simp only[List.cons.injEq,and_true] at e3
   subst e3
   obtain ⟨l,hll,hlt⟩:=list_of (p:=fun i (t:Tr)=>(∃ c,qb W q (o+i*5) c/\t.Rep W W.heap.size c)/\t.tok/\∀ y,elems[i]? = some y->t.wt<=B y.1) (fun i hi=>by
    obtain ⟨c,y,h0,h1,h2⟩:=hit i hi
    obtain ⟨t,h3,h4,h5⟩:=ih m zH c y h2
    refine ⟨t,⟨c,h1,h3⟩,h4,fun y' hy'=>?_⟩
    rw[h0] at hy'
    cases hy'
    exact h5)
   refine ⟨.mk k s nb (Trs.ofL l) u,⟨c1,_,c4,rfl,hs,hun,.inr ⟨q,o,cap,by rw[Trs.ofL_len,hll],by rw[Trs.ofL_len,hll];exact hl,hq,Trs.ofL_rep l o (fun i t ht=>(hlt i t ht).1)⟩⟩,⟨htok,Trs.ofL_tok l (fun t ht=>?_)⟩,?_⟩
   ·obtain ⟨i,hi⟩:=List.mem_iff_getElem?.1 ht
    exact (hlt i t hi).2.1
   ·have h6:=b.sum (f:=Tr.wt) l elems zH (fun i x y h1 h2=>(hlt i x h1).2.2 y h2)
    have h7:BA (elems.map (·.1))+1<=B x3.1:=by
     have hx3':x3.1=.slice (elems.map (·.1)) (rest.map (·.1)):=hx3
     rw[hx3',b.slice]
     omega
    simp only[Tr.wt,Trs.ofL_wt]
    omega
end
end
section
open Go.ChangeShapes Go.WideShapes Go.ChangeAt
theorem uvF_max:∀ (f n:Nat),(uvF f n).length<=f+1
 | 0,n=>by simp[uvF]
 | f+1,n=>by
  have:=uvF_max f (n / 128)
  unfold uvF
  split
  ·simp
  ·simp only[List.length_cons];omega
theorem ke (n:Nat):(Go.Km.uvar n).length<=10:=uvF_max 9 n
theorem Scal.wr_width (s:Scal) (n:Int):(s.wr n).length=s.width:=by
 cases s<;>simp[Scal.wr,Scal.width,qO]
mutual
def Ty.cost:Ty->Nat
 | .scal s _ | .named s _ _=>s.width
 | .uuid=>16
 | .text | .ntext | .ntextFrom _ | .bytes | .nbytes=>11
 | .list _ _ e=>10+e.cost
 | .struct _ _ _ fs=>fs.cost
 | .nstruct _ _ _ _ _=>1
def Flds.cost:Flds->Nat
 | .nil _=>20
 | .cons v ty r=>(if v.isTag then 20 else 0)+ty.cost+r.cost
end
theorem vP (fx:Bool) (l:List UInt8):(ze fx l).length<=10+l.length:=by
 have:=ke (l.length+1)
 cases fx<;>simp[ze,qO]<;>omega
theorem wrBytes_max (fx:Bool) (l:List UInt8):(xn fx l).length<=10+l.length:=by
 have:=ke (l.length+1)
 cases fx<;>simp[xn,qO]<;>omega
theorem wrLen_max (fx:Bool) (n:Nat):(zu fx n).length<=10:=by
 have:=ke (n+1)
 cases fx<;>simp[zu,qO]<;>omega
theorem wrNull_max (fx:Bool):(jl fx).length<=10:=by
 cases fx<;>simp[jl,qO]
theorem Tr.wt_pos (t:Tr):1<=t.wt:=by
 cases t;simp only[Tr.wt];omega
theorem Tr.wt_s (t:Tr):1+t.s.length<=t.wt:=by
 cases t;simp only[Tr.wt,Tr.s];omega
theorem Trs.wt_get:∀ {l:Trs} {i:Nat} {t:Tr},l.get i=some t->t.wt<=l.wt
 | .nil,_,_,h=>by cases h
 | .cons t r,0,u,e=>by
  simp only[Trs.get,Option.some.injEq] at e
  subst e
  simp only[Trs.wt];omega
 | .cons t r,i+1,u,e=>by
  have:=Trs.wt_get (l:=r) e
  simp only[Trs.wt];omega
theorem Tr.wt_at (t:Tr) (i:Nat):(t.at i).wt<=t.wt:=by
 have hp:=t.wt_pos
 cases t with
 | mk n s nl l u =>
  simp only[Tr.at]
  cases hg:l.get i with
  | none=>exact hp
  | some x =>
   have:=Trs.wt_get hg
   simp only[Option.getD_some,Tr.wt]
   omega
theorem Trs.wt_toL:∀ l:Trs,(l.toL.map Tr.wt).sum=l.wt
 | .nil=>rfl
 | .cons t r=>by simp[Trs.toL,Trs.wt,Trs.wt_toL r]
theorem Tr.wt_l (t:Tr):1+(t.l.map Tr.wt).sum<=t.wt:=by
 cases t with
 | mk n s nl l u =>
  simp only[Tr.l,Trs.wt_toL,Tr.wt]
  omega
theorem sum_take (f:Tr->Nat):∀ (k:Nat) (l:List Tr),((l.take k).map f).sum<=(l.map f).sum
 | 0,l=>by simp
 | k+1,[]=>by simp
 | k+1,x::l=>by
  have:=sum_take f k l
  simp only[List.take_succ_cons,List.map_cons,List.sum_cons]
  omega
theorem flat_cost {g:Tr->List UInt8} {c:Nat}:∀ (l:List Tr),(∀ t ∈ l,(g t).length<=c*t.wt)->((l.map g).flatten).length<=c*(l.map Tr.wt).sum
 | [],_=>by simp
 | t::l,h=>by
  have h1:=h t zS
  have h2:=flat_cost l (fun x hx=>h x (by simp[hx]))
  simp only[List.map_cons,List.flatten_cons,List.length_append,List.sum_cons,Nat.mul_add]
  omega
def zF (u:List (Nat × List UInt8)):Nat:=(u.map fun x=>1+x.2.length).sum
theorem zl (x:Nat × List UInt8) (l:List (Nat × List UInt8)):zF (x::l)=1+x.2.length+zF l:=by simp[zF]
theorem insU_wt (x:Nat × List UInt8):∀ l,zF (zL x l)<=1+x.2.length+zF l
 | []=>by simp[zL,zF]
 | z::r=>by
  have:=insU_wt x r
  unfold zL
  split
  ·rw[zl,zl];omega
  ·split
   ·rw[zl];omega
   ·rw[zl,zl];omega
theorem unk_wt (least:Nat):∀ (u acc:List (Nat × List UInt8)),zF (u.foldl (fun l x=>if x.1<least then l else zL x l) acc)<=zF acc+zF u
 | [],acc=>by simp[zF]
 | x::u,acc=>by
  simp only[List.foldl_cons]
  have h1:=unk_wt least u (if x.1<least then acc else zL x acc)
  have h2:zF (if x.1<least then acc else zL x acc)<=1+x.2.length+zF acc:=by
   split
   ·omega
   ·exact insU_wt x acc
  rw[zl]
  omega
theorem tagWt_take:∀ (k:Nat) (u:List (Nat × List UInt8)),zF (u.take k)<=zF u
 | 0,u=>by simp[zF]
 | k+1,[]=>by simp[zF]
 | k+1,x::u=>by
  have:=tagWt_take k u
  rw[List.take_succ_cons,zl,zl]
  omega
theorem tags_cost:∀ (l:List (Nat × List UInt8)),((l.map qV).flatten).length<=20*zF l
 | []=>by simp[zF]
 | x::l=>by
  have h1:=tags_cost l
  have h2:=ke x.1
  have h3:=ke x.2.length
  simp only[List.map_cons,List.flatten_cons,List.length_append,qV,zl]
  omega
theorem tagWt_map:∀ (u:List (Nat × List UInt8)),zF (u.map fun x=>(x.1,x.2.take 32767))<=zF u
 | []=>by simp[zF]
 | x::u=>by
  have h1:=tagWt_map u
  have h2:(x.2.take 32767).length<=x.2.length:=by rw[List.length_take];omega
  rw[List.map_cons,zl,zl]
  show 1+(x.2.take 32767).length+_<=_
  omega
theorem wH (kn:Nat) (fx:Bool) (t:Tr):10+zW (zk kn fx t)<=20*t.wt:=by
 cases t with
 | mk n s nl l u =>
  have h9:(Tr.mk n s nl l u).wt=1+s.length+l.wt+zF u:=by simp[Tr.wt,zF]
  cases fx with
  | false =>
   have:zW (zk kn false (.mk n s nl l u))=0:=by simp[zk,zW]
   omega
  | true =>
   have h2:=tags_cost (zk kn true (.mk n s nl l u))
   have h3:zF (zk kn true (.mk n s nl l u))<=zF u:=by
    have e:zk kn true (.mk n s nl l u)=(unk kn u).map (fun x=>(x.1,x.2.take 32767)):=rfl
    rw[e]
    have h4:=unk_wt kn (u.take 32767) []
    have h5:=tagWt_take 32767 u
    have h6:=tagWt_map (unk kn u)
    have h7:zF ([]:List (Nat × List UInt8))=0:=rfl
    have h8:zF (unk kn u)=zF ((u.take 32767).foldl (fun l x=>if x.1<kn then l else zL x l) []):=rfl
    omega
   unfold zW
   omega
mutual
theorem Ty.wr_cost (fx:Bool) (ver:Nat):∀ (ty:Ty) (kind nul el:Int) (sub:SFs) (nl:Bool) (t:Tr),ty.agr kind nul el sub=true->(ty.wr fx ver (ty.toD fx ver sub nl t)).length<=ty.cost*t.wt
 | .scal s _,kind,nul,el,sub,nl,t,h | .named s _ _,kind,nul,el,sub,nl,t,h=>by
  simp only[Ty.toD,Ty.wr,Ty.cost,s.wr_width]
  exact Nat.le_mul_of_pos_right _ t.wt_pos
 | .uuid,kind,nul,el,sub,nl,t,h=>by
  have:=t.wt_pos
  simp only[Ty.toD,Ty.wr,Ty.cost,List.length_append,List.length_take,List.length_replicate]
  omega
 | .text,kind,nul,el,sub,nl,t,h=>by
  have h1:=t.wt_s
  simp only[Ty.toD,Ty.wr,Ty.cost]
  have h2:=vP fx (if nl=true then [] else t.s.take 32767)
  have h3:(if nl=true then [] else t.s.take 32767).length<=t.s.length:=by
   split
   ·simp
   ·rw[List.length_take];omega
  omega
 | .bytes,kind,nul,el,sub,nl,t,h=>by
  have h1:=t.wt_s
  simp only[Ty.toD,Ty.wr,Ty.cost,Option.getD_some]
  have h2:=wrBytes_max fx (if nl=true then [] else t.s.take 32767)
  have h3:(if nl=true then [] else t.s.take 32767).length<=t.s.length:=by
   split
   ·simp
   ·rw[List.length_take];omega
  omega
 | .ntext,kind,nul,el,sub,nl,t,h=>by
  have h1:=t.wt_s
  simp only[Ty.toD,Ty.wr,Ty.cost]
  cases nl with
  | true=>cases fx<;>simp[xV,qO]<;>omega
  | false =>
   have h2:=vP fx (t.s.take 32767)
   have h3:(t.s.take 32767).length<=t.s.length:=by rw[List.length_take];omega
   simp only[Bool.false_eq_true,if_false,xV]
   omega
 | .nbytes,kind,nul,el,sub,nl,t,h=>by
  have h1:=t.wt_s
  simp only[Ty.toD,Ty.wr,Ty.cost]
  cases nl with
  | true=>cases fx<;>simp[xz,qO]<;>omega
  | false =>
   have h2:=wrBytes_max fx (t.s.take 32767)
   have h3:(t.s.take 32767).length<=t.s.length:=by rw[List.length_take];omega
   simp only[Bool.false_eq_true,if_false,xz]
   omega
 | .ntextFrom N,kind,nul,el,sub,nl,t,h=>by
  have h1:=t.wt_s
  simp only[Ty.toD,Ty.wr,Ty.cost]
  have h0:=vP fx []
  simp only[List.length_nil] at h0
  cases nl with
  | true =>
   simp only[if_true,Option.getD_none]
   split
   ·omega
   ·cases fx<;>simp[xV,qO]<;>omega
  | false =>
   have h2:=vP fx (t.s.take 32767)
   have h3:(t.s.take 32767).length<=t.s.length:=by rw[List.length_take];omega
   simp only[Bool.false_eq_true,if_false,xV,Option.getD_some]
   split<;>omega
 | .list TS null e,kind,nul,el,sub,nl,t,h=>by
  simp only[Ty.agr,Bool.and_eq_true,beq_iff_eq,bne_iff_ne,ne_eq] at h
  obtain ⟨⟨⟨rfl,hnul⟩,hel⟩,he⟩:=h
  have h1:=t.wt_l
  have hp:=t.wt_pos
  have hc:10+e.cost*0<=(10+e.cost)*t.wt:=by
   have:=Nat.mul_le_mul (Nat.le_add_right 10 e.cost) hp
   omega
  simp only[Ty.toD,Ty.cost]
  split
  ·simp only[Ty.wr]
   have h2:=wrNull_max fx
   have h3:=wrLen_max fx 0
   split<;>omega
  ·simp only[Ty.wr,List.length_map,List.map_map,List.length_append]
   have h2:=wrLen_max fx (t.l.take 32767).length
   have h3:=flat_cost (g:=(fun d=>e.wr fx ver d) ∘ fun t=>e.toD fx ver sub false t) (c:=e.cost) (t.l.take 32767) (fun x _=>Ty.wr_cost fx ver e el (-1) 0 sub false x he)
   have h4:=Nat.mul_le_mul (Nat.le_refl e.cost) (Nat.le_trans (sum_take Tr.wt 32767 t.l) (show (t.l.map Tr.wt).sum<=t.wt by omega))
   rw[Nat.add_mul]
   omega
 | .nstruct _ _ _ _ _,kind,nul,el,sub,nl,t,h=>by simp[Ty.agr] at h
 | .struct TP TU F fs,kind,nul,el,sub,nl,t,h=>by
  simp only[Ty.agr,Bool.and_eq_true,beq_iff_eq,decide_eq_true_eq] at h
  simp only[Ty.toD,Ty.wr,Ty.cost]
  exact Flds.wr_cost fx ver fs sub 0 t 0 _ 0 h.2 (fun _=>wH _ _ _)
theorem Flds.wr_cost (fx:Bool) (ver:Nat):∀ (fs:Flds) (sub:SFs) (i:Nat) (t:Tr) (m:Nat) (tags:List (Nat × List UInt8)) (K:Nat),fs.agr sub m=true->(fx=true->10+zW tags<=20*t.wt+K)->(fs.wr fx ver (fs.toD fx ver sub i t) tags).length<=fs.cost*t.wt+K
 | .nil _,.nil,i,t,m,tags,K,h,hK=>by
  simp only[Flds.wr,Flds.cost]
  cases fx with
  | false=>simp
  | true =>
   have h1:=ke tags.length
   have h2:=hK rfl
   simp only[if_true,xU,List.length_append]
   unfold zW at h2
   omega
 | .nil _,.cons _ _,i,t,m,tags,K,h,hK=>by simp[Flds.agr] at h
 | .cons _ _ _,.nil,i,t,m,tags,K,h,hK=>by simp[Flds.agr] at h
 | .cons v ty r,.cons (.mk kind fr to nul tag df el sub) rs,i,t,m,tags,K,h,hK=>by
  simp only[Flds.agr,Bool.and_eq_true] at h
  have h2:=Ty.wr_cost fx ver ty kind nul el sub ((SF.mk kind fr to nul tag df el sub).isNull ver (t.at i)) (t.at i) h.1.2
  have h3:=Nat.mul_le_mul (Nat.le_refl ty.cost) (Tr.wt_at t i)
  have h4:(SF.mk kind fr to nul tag df el sub).subs=sub:=rfl
  have hp:=t.wt_pos
  simp only[Flds.toD,Flds.wr,Flds.cost,List.length_append,Nat.add_mul]
  cases hv:v.isTag with
  | false =>
   rw[Ver.addTag_no hv]
   have h1:=Flds.wr_cost fx ver r rs (i+1) t _ tags K h.2 hK
   cases hh:v.has ver with
   | false=>simp only[Bool.false_eq_true,if_false,List.length_nil];omega
   | true =>
    simp only[if_true,Bool.true_or]
    rw[h4]
    omega
  | true =>
   cases v with
   | tag k lb =>
    simp only[Ver.has,Bool.false_eq_true,if_false,List.length_nil,if_true,Ver.addTag,Ver.isTag,Bool.false_or,Bool.true_and]
    cases fx with
    | false =>
     simp only[Bool.false_and,Bool.false_eq_true,if_false]
     have h1:=Flds.wr_cost false ver r rs (i+1) t _ tags K h.2 (fun h=>by cases h)
     omega
    | true =>
     have hK:=hK rfl
     simp only[if_true,Bool.true_and]
     generalize hdd:Ty.toD true ver ty (SF.mk kind fr to nul tag df el sub).subs ((SF.mk kind fr to nul tag df el sub).isNull ver (t.at i)) (t.at i)=d at *
     have hd2:(ty.wr true ver d).length<=ty.cost*(t.at i).wt:=by
      rw[← hdd,h4]
      exact h2
     cases ty.isD d with
     | true =>
      simp only[Bool.not_true,Bool.false_eq_true,if_false]
      have h1:=Flds.wr_cost true ver r rs (i+1) t _ tags K h.2 (fun _=>hK)
      omega
     | false =>
      simp only[Bool.not_false,if_true]
      have hs:=wJ k (ty.wr true ver d) tags
      have u1:=ke k
      have u2:=ke (ty.wr true ver d).length
      have hw:(qV (k,ty.wr true ver d)).length=(Go.Km.uvar k).length+(Go.Km.uvar (ty.wr true ver d).length).length+(ty.wr true ver d).length:=by simp only[qV,List.length_append]
      have h1:=Flds.wr_cost true ver r rs (i+1) t _ (qs k (ty.wr true ver d) tags) (K+(20*t.wt+ty.cost*t.wt)) h.2 (fun _=>by omega)
      omega
   | _=>cases hv
end
theorem part_big {fs:Flds} {sf:SFs} (h:fs.agr sf=true) (hc:fs.cost<=2047) {t:Tr} (ht:t.wt<=1048576):(sf.part ver fx t).length<=big:=by
 rw[wg h]
 refine Nat.le_trans (Flds.wr_cost fx ver fs sf 0 t 0 _ 0 h (fun _=>wH _ _ _)) (Nat.le_trans (Nat.mul_le_mul hc ht) ?_)
 unfold big
 omega
theorem tags_small {t:Tr} (ht:t.wt<=1048576):∀ n s nl l u,t=.mk n s nl l u->u.length<=9223372036854775807:=by
 rintro n s nl l u rfl
 have h:∀ u:List (Nat × List UInt8),u.length<=(u.map fun x=>1+x.2.length).sum:=fun u=>by
  induction u with
  | nil=>simp
  | cons x u ih=>simp only[List.length_cons,List.map_cons,List.sum_cons];omega
 have:=h u
 simp only[Tr.wt] at ht
 omega
section
variable {H : Type} {enc : TypeId × Value → H} {B : DataW H → Nat} {BA : List (DataW H) → Nat}
theorem open_tree (T:TreeT P E) (b:Bulk B BA) {base:Nat} {d:DataW H} {p:List MemPlace} (hval:Value.okWide P W .any base E.tT v) (h:DataW.Trod enc P W 0 (fun _=>true) true E.tT v d p):
  ∃ (ts:List Value) (t:Tr),v=.agg ts.toArray/\t.Rep W W.heap.size ts/\t.tok/\t.wt<=B d:=by
 obtain ⟨fs,hu,_⟩:=jy T.tree
 unfold Value.okWide at hval
 rw[hu] at hval
 obtain ⟨cs,rfl,_⟩:=hval
 obtain ⟨fuel,hf⟩:=h
 obtain ⟨t,h1,h2,h3⟩:=trod_tree T b fuel _ _ hf
 exact ⟨cs.toList,t,by simp,h1,h2,h3⟩
theorem againRow (T:TreeT P E) (b:Bulk B BA) {f:Func} {L:FuncId} {s:ChangeSpec} {apart:Bool} {tb:TypeId} (hp:f.params=#[E.tU8,E.tT]) (hrt:f.resultTypes=#[tb]) (hub:P.underlying tb=some .bool) (hvars:s.vars=[]) (hfn:∀ d1 d2:DataW H,s.fn H [d1,d2]={ results:=[.lit (.bool true)],args:=[d1,d2] }) (hl:laidOutB P=true) (hr8:P.readableRec E.tU8=true/\E.tU8<P.types.size) (hrT:P.readableRec E.tT=true/\E.tT<P.types.size) {base:Nat} {args:Array Value} {ds gs:List (DataW H)} {before:List MemPlace} (hbk:BA (ds++gs)<=1048576) (walk:∀ n:Nat,n<256->∀ (t:Tr) (ts:List Value),t.Rep W W.heap.size ts->t.tok->t.wt<=1048576->qa P L #[.int .u8 n,.agg ts.toArray] W fun v w'=>v=.bool true/\Below W.heap.size W w') (hval:∀ (j:Nat) t v,f.params[j]? = some t->args[j]? = some v->Value.okWide P W .any base t v) (hW:DataW.Whole enc P f.params.toList s.vars apart W args.toList ds gs before):
  Calls P L args W fun e W'=>∃ v,e=.returned v/\s.post enc P f apart true false false W args v W':=by
 have hW':=hW
 obtain ⟨p,q,hA,hV,rfl,_,_⟩:=hW
 rw[hp] at hA hval
 obtain ⟨v0,vs0,d0,ds0,p0,q0,hargs,rfl,rfl,h0,r0⟩:=trodAll_cons hA
 obtain ⟨v1,vs1,d1,ds1,p1,q1,rfl,rfl,rfl,h1,r1⟩:=trodAll_cons r0
 obtain ⟨rfl,rfl,rfl⟩:=trodAll_nil r1
 obtain rfl:args=#[v0,v1]:=by cases args;simp_all
 obtain ⟨a,rfl,rfl,rfl,wa⟩:=open_int T.u8 (hval 0 _ v0 rfl rfl) h0
 obtain ⟨ts,t,rfl,hr,htk,hwt⟩:=open_tree T b (hval 1 _ v1 rfl rfl) h1
 obtain ⟨n,rfl,hn⟩:=u8_nat' wa
 have hd:B d1<=1048576:=by
  simp only[List.cons_append,List.nil_append,b.cons] at hbk
  omega
 refine (walk n hn t ts hr htk (Nat.le_trans hwt hd)).2.mono ?_
 rintro e W' ⟨v,rfl,rfl,hb⟩
 refine ⟨_,rfl,y4 hW' hvars hl ?_ hb hrt hub (hfn _ _)⟩
 rw[hp]
 intro t ht
 simp only[List.mem_cons,List.not_mem_nil,or_false] at ht
 rcases ht with rfl | rfl
 ·exact hr8
 ·exact hrT
end
end
theorem vJ.nil:vJ P []:=fun f h=>by simp at h
theorem vJ.none {P:Program} {f:SF} {l:List FE} (h:f.sub=.nil) (r:vJ P l):vJ P ((f,none)::l):=by
 intro x hx
 rcases List.mem_cons.1 hx with rfl | hx
 ·exact h
 ·exact r x hx
theorem vJ.some {P:Program} {f:SF} {g:FuncId} {l:List FE} (h:LitC P g f.sub) (r:vJ P l):vJ P ((f,some g)::l):=by
 intro x hx
 rcases List.mem_cons.1 hx with rfl | hx
 ·exact h
 ·exact r x hx
end Go.Km
