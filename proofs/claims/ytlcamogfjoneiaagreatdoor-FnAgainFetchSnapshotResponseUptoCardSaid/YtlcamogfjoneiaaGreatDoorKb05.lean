/- Over any program: what the functions of kmsg, kbin and the spec compute. -/
import Derived.Test.YtlcamogfjoneiaaGreatDoorKb00
import Derived.Test.YtlcamogfjoneiaaGreatDoorKb02
import Derived.Test.YtlcamogfjoneiaaGreatDoorKb03
import Derived.Test.YtlcamogfjoneiaaGreatDoorKb04
import Derived.WalkKit
import Derived.ProofKit
import Derived.OpenShut
import Derived.ChangeSlices
import Derived.LaidLaws
import Derived.Carry
import Derived.MakeChecks
import Derived.Shelf.GgSortFunc.Whole
import Derived.Shelf.GgSortFunc.Tiny
import Derived.Deep.Draws
import Derived.Laws.MakeOwn
import Derived.Laws.IdiomRangeMap
set_option maxHeartbeats 4000000
set_option linter.unusedSimpArgs false
set_option linter.unusedVariables false
namespace Go.Km
open Go Go.RowKit
variable {B L U b k n o off rb s sb t ver:Nat} {E:Env} {F:FuncId} {G:Nat->Option Obj} {P:Program} {Q:Exit->Act->World->Prop} {S:Value->World->Prop} {T:List (Nat × List UInt8) ->Prop} {W w w':World} {a:Act} {ck:Nat->List UInt8->Bool} {e:TypeId} {ev v:Value} {fx:Bool} {l:List UInt8} {r:List Oper} {st:RSt} {tags:List (Nat × List UInt8)} {x:Cx} {xs:List Value}
section
attribute [local irreducible] vc rO_ qz qP qJ
theorem m_nstruct (H:EnvR P E T) {TP' TU' PP:TypeId} {FD:FuncId} {fs:Flds} (hF:fs.RVal P E T) {TP TU idx pb po:Nat} (hok:(Ty.nstruct TP' TU' FD fs PP).okR P E x=true) (htx:(Ty.nstruct TP' TU' FD fs PP).txR P E) (hs:RSl x L n t fx) (hn:n+3+fs.rn<=L) (ht:t+(17+fs.rt x)<=a.tmps.size) (hst:RSta E x ver fx rb sb ev a w st) (hp:a.eval (.tmp s)=.pointer (some ⟨pb,po,none⟩)) (hsn:s<n) (hfo:qh P TU idx=some off) (hc:qb w pb (po+off) [.pointer none]) (hf:qr w pb (po+off)) (h1:pb≠rb) (h2:pb≠sb) (h3:pb≠E.vErr) (hB:pb<B) (hrB:rb<B) (hBw:B<=w.heap.size) (kn:∀ a' w' c d,Fr (KR L n t) a a'->RSta E x ver fx rb sb ev a' w' ((Ty.nstruct TP' TU' FD fs PP).rd fx ver st).2->c.length=1->qb w' pb (po+off) c->(Ty.nstruct TP' TU' FD fs PP).Rep w' ⟨sb,T⟩ B c d->Eff (FM rb pb (po+off) 1) w w' →
   (((Ty.nstruct TP' TU' FD fs PP).rd fx ver st).2.2=false->d=((Ty.nstruct TP' TU' FD fs PP).rd fx ver st).1)->Q .normal a' w') (kr:∀ a' w',a'.defers=a.defers->a'.tmps.size=a.tmps.size->a'.eval (.tmp 6)=ev->Eff (FM rb pb (po+off) 1) w w'->((Ty.nstruct TP' TU' FD fs PP).rd fx ver st).2.2=true->Q .ret a' w'):
  vc P (sq (Ty.rc E x TP TU s idx n t b (.nstruct TP' TU' FD fs PP))) Q a w:=by
 have hnL:=hs.nL;have hLt:=hs.Lt;have h7:=hs.seven;have hrd:=hs.rd
 have hkt:=hs.kt
 simp only[Ty.okR,Bool.and_eq_true,bne_iff_ne] at hok
 obtain ⟨⟨⟨hI8,hTP⟩,hokF⟩,hokD⟩:=hok
 simp only[Ty.txR] at htx
 obtain ⟨⟨np,nt,htxt,hnt⟩,hz,htxF⟩:=htx
 obtain ⟨z,hz,hzc⟩:=Option.map_eq_some_iff.1 hz
 have hrd:(Ty.nstruct TP' TU' FD fs PP).rd fx ver st=if (Scal.i8.rd st).1 = -1\/(Scal.i8.rd st).2.2=true then (.list none,(Scal.i8.rd st).2)
  else (.list (some [.obj (fs.rd fx ver noK (Scal.i8.rd st).2).1 (fs.rd fx ver noK (Scal.i8.rd st).2).2.1]),(fs.rd fx ver noK (Scal.i8.rd st).2).2.2):=by simp only[Ty.rd]
 rw[hrd] at kn kr
 clear hrd
 simp only[Ty.rc]
 refine vS (jk (K:=KR L n t) hst.p7 (H.scal .i8 hI8 rb sb st w hst.rd) hkt (hs.kn n (Nat.le_refl _) zH) zH zH ?_)
 rintro a1 v w1 hf1 he1 ⟨⟨hv,_⟩,hr1,hE1⟩
 have hst1:=hst.step hs hf1 hr1 hE1
 have hz1:=hf1.size
 have hEm1:Eff (FM rb pb (po+off) 1) w w1:=hE1.mono (fun k i _ h=>.inl h)
 have hc1:qb w1 pb (po+off) [.pointer none]:=hc.eff hE1 (by rintro i hi ⟨h,_⟩;exact h1 h)
 have hv':v=.int .i8 (Scal.i8.rd st).1:=hv
 have hp1:a1.eval (.tmp s)=.pointer (some ⟨pb,po,none⟩):=by rw[hf1.slot _ (.inl hsn)];exact hp
 have hws1:=hE1.size
 refine vS (vS (xQ ?_))
 refine rD rfl (wN rfl) (rM (dn (rT ?_)))
 refine rD rfl (wN rfl) (gC (k:=.i8) (m:=(Scal.i8.rd st).1) (n:=-1) (by simp (disch:=(try simp only[sP]);omega) only[eV,he1,hv']) rfl (dn (rT ?_)))
 refine rD rfl (wN rfl) (rM (dn (rT ?_)))
 have null:∀ a2,Fr (KR L n t) a a2->((Scal.i8.rd st).1 = -1\/(Scal.i8.rd st).2.2=true)->Q .normal a2 w1:=by
  intro a2 hf2 hor
  rw[if_pos hor] at kn
  exact kn a2 w1 [.pointer none] (.list none) hf2 (hst.step hs hf2 hr1 hE1) rfl hc1 rfl hEm1 (fun _=>rfl)
 by_cases hm:(Scal.i8.rd st).1 = -1
 ·have hm':((Scal.i8.rd st).1 != -1)=false:=by simpa using hm
  rw[hm']
  refine x7 rfl (by rw[wS (b:=false) rfl rfl zE];rfl) ?_
  refine rD rfl (wN rfl) (xE zE (dn (rT ?_)))
  refine qx ?_
  refine vS (vC (t:=false) zE (fun h=>by cases h) (fun _=>?_))
  refine vK (vN (vN (null _ ?_ (.inl hm))))
  exact ((((hf1.put _ (hkt _ zH)).put _ (hkt _ zH)).put _ (hkt _ zH)).put _ (hkt _ zH)).put _ (hkt _ zH)
 have hm':((Scal.i8.rd st).1 != -1)=true:=by simpa using hm
 rw[hm']
 refine rD rfl (by rw[wS (b:=true) rfl rfl zE];rfl) (q8 (args:=#[.pointer (some ⟨rb,0,none⟩)]) ?_ (H.ok rb sb (Scal.i8.rd st).2 w1 hr1) ?_)
 ·have:=hst1.p7
  simp only[lM]
  simp (disch:=(try simp only[sP]);omega) only[eV,this]
 rintro v2 w2 ⟨rfl,hw2⟩
 rw[hw2]
 clear hw2
 refine dn (rT ?_)
 refine rD rfl (wN rfl) (xf zE (dn (rT ?_)))
 refine qx ?_
 generalize ha2:Act.put _ (some (t+5)) _=a2
 have hf2:Fr (KR L n t) a a2:=by
  subst ha2
  exact ((((hf1.put _ (hkt _ zH)).put _ (hkt _ zH)).put _ (hkt _ zH)).put _ (hkt _ zH)).put _ (hkt _ zH)
 have hz2:=hf2.size
 have he2:a2.eval (.tmp (t+5))=.bool (!(Scal.i8.rd st).2.2):=by subst ha2;exact zE
 have hp2:a2.eval (.tmp s)=.pointer (some ⟨pb,po,none⟩):=by subst ha2;exact zA
 clear ha2
 refine vS (vC (t:=!(Scal.i8.rd st).2.2) he2 ?_ (fun hbad=>?_))
 rotate_left
 ·have hbad':(Scal.i8.rd st).2.2=true:=by simpa using hbad
  exact vK (vN (vN (null a2 hf2 (.inr hbad'))))
 ·intro hgood
  have hgood':(Scal.i8.rd st).2.2=false:=by simpa using hgood
  have hor:¬ ((Scal.i8.rd st).1 = -1\/(Scal.i8.rd st).2.2=true):=by
   rintro (h | h)
   ·exact hm h
   ·rw[hgood'] at h;cases h
  rw[if_neg hor] at kn kr
  have hfree1:qr w1 pb (po+off):=hf.eff hE1
  have hpb1:=hfree1.lt
  have hrb1:rb<w1.heap.size:=by omega
  have hsb1:=hr1.lt
  have hev1:E.vErr<w1.heap.size:=qi hst1.err
  have hf2':qr (w1.alloc (.cells z.cells TU')) pb (po+off):=hfree1.eff ((Eff.refl (fun _ _=>False) _).alloc _)
  refine vX (rM ?_)
  refine qR hz ?_
  refine xe (ad:=⟨pb,po,none⟩) zA ?_
  refine rF (b:=pb) (o:=po) zE hfo ?_
  refine xC (b:=pb) (o:=po+off) (v:=.pointer (some ⟨w1.heap.size,0,none⟩)) zE zE rfl hTP hf2' ?_
  refine dn ?_
  have hzl:z.cells.size=fs.size:=by
   have:=congrArg List.length hzc
   rw[Flds.zc_len] at this
   simpa using this
  have hEa:Eff (fun k i=>k=pb/\i=po+off) w1 ((w1.alloc (.cells z.cells TU')).setCell ⟨pb,po+off,none⟩ (.pointer (some ⟨w1.heap.size,0,none⟩))) :=
   ((Eff.refl _ w1).alloc _).setCell _ _ _ (fun _=>⟨rfl,rfl⟩)
  have hc3:qb ((w1.alloc (.cells z.cells TU')).setCell ⟨pb,po+off,none⟩ (.pointer (some ⟨w1.heap.size,0,none⟩))) pb (po+off) [.pointer (some ⟨w1.heap.size,0,none⟩)]:=by
   intro j u hu
   cases j with
   | zero =>
    simp only[List.getElem?_cons_zero,Option.some.injEq] at hu
    subst hu
    exact qo _ hf2'.1
   | succ j=>simp at hu
  have hq3:qb ((w1.alloc (.cells z.cells TU')).setCell ⟨pb,po+off,none⟩ (.pointer (some ⟨w1.heap.size,0,none⟩))) w1.heap.size 0 fs.zc:=by
   intro j u hu
   rw[xP _ (.inl zH),Nat.zero_add]
   refine qm w1 _ TU' ?_
   rw[← Array.getElem?_toList,hzc]
   exact hu
  have hqf:∀ j,j<fs.size->qr ((w1.alloc (.cells z.cells TU')).setCell ⟨pb,po+off,none⟩ (.pointer (some ⟨w1.heap.size,0,none⟩))) w1.heap.size (0+j):=by
   intro j hj
   have:=qq w1 z.cells TU' (i:=j) zH
   rw[Nat.zero_add]
   exact this.eff ((Eff.refl (fun k _=>k=pb) _).setCell _ _ _ (fun _=>rfl))
  have hqlt:w1.heap.size<((w1.alloc (.cells z.cells TU')).setCell ⟨pb,po+off,none⟩ (.pointer (some ⟨w1.heap.size,0,none⟩))).heap.size:=by simp
  generalize (w1.alloc (.cells z.cells TU')).setCell ⟨pb,po+off,none⟩ (.pointer (some ⟨w1.heap.size,0,none⟩))=w3 at *
  have hst2:RSta E x ver fx rb sb ev a2 w1 (Scal.i8.rd st).2:=hst.step hs hf2 hr1 hE1
  generalize ha3:Act.put _ (some (t+9)) _=a3
  have hf3:Fr (KR L n t) a2 a3:=by
   subst ha3
   exact ((((Fr.refl _ a2).put _ (hkt _ zH)).put _ (hkt _ zH)).put _ (hkt _ zH)).put _ (hkt _ zH)
  have hp3:a3.eval (.tmp s)=.pointer (some ⟨pb,po,none⟩):=by subst ha3;exact zA
  have hz3:=hf3.size
  clear ha3
  have hst3:RSta E x ver fx rb sb ev a3 w3 (Scal.i8.rd st).2:=hst2.keep hs hf3 hEa (by rintro j ⟨h,_⟩;exact h1 h.symm) (by rintro j ⟨h,_⟩;exact h2 h.symm) (by rintro j ⟨h,_⟩;exact h3 h.symm)
  refine vX (rM ?_)
  refine xe (ad:=⟨pb,po,none⟩) zA ?_
  refine rF (b:=pb) (o:=po) zE hfo ?_
  refine rL (b:=pb) (o:=po+off) (v:=.pointer (some ⟨w1.heap.size,0,none⟩)) zE hTP (hc3 0 _ rfl) ?_
  refine rA (dn (vX (rM ?_)))
  refine q8 (args:=#[.pointer (some ⟨w1.heap.size,0,none⟩)]) ?_ (c_dflt (b:=w1.heap.size) (o:=0) (off:=0) (cs:=fs.zc) htxt hnt hokD (Flds.zc_len fs) hq3 (fun i hi=>hqf i hi)) ?_
  ·simp only[lM]
   exact zE
  rintro v4 w4 ⟨hE4,hc4⟩
  rw[Flds.over_zc] at hc4
  refine dn (vX (rM (rA (dn ?_))))
  generalize ha5:Act.put _ (some (n+2)) _=a5
  have hf5:Fr (KR L n t) a3 a5:=by
   subst ha5
   exact (((((((((Fr.refl _ a3).put _ (hkt _ zH)).put _ (hkt _ zH)).put _ (hkt _ zH)).put _ (hkt _ zH)).put _ (hs.kn (n+1) zH zH)).put _ (hkt _ zH)).put _ (hkt _ zH)).put _ (hkt _ zH)).put _ (hs.kn (n+2) zH zH)
  have hp5:a5.eval (.tmp (n+2))=.pointer (some ⟨w1.heap.size,0,none⟩):=by subst ha5;exact zE
  have hz5:=hf5.size
  clear ha5
  have hE4q:∀ k,k<w1.heap.size->∀ i,¬ (k=w1.heap.size/\0+0<=i/\i<0+0+fs.size):=by rintro k hk i ⟨h,_⟩;omega
  have hst5:RSta E x ver fx rb sb ev a5 w4 (Scal.i8.rd st).2:=hst3.keep hs hf5 hE4 (fun i=>hE4q _ hrb1 i) (fun i=>hE4q _ hsb1 i) (fun i=>hE4q _ hev1 i)
  have hc4':qb w4 pb (po+off) [.pointer (some ⟨w1.heap.size,0,none⟩)]:=hc3.eff hE4 (fun i _=>hE4q _ hpb1 _)
  have hw34:=hE4.size
  have hE13:Eff (FM rb pb (po+off) 1) w w4:=(hEm1.trans' hEa (by rintro k i _ ⟨g1,g2⟩;exact .inr ⟨g1,by omega,by omega⟩)).trans' hE4 (by rintro k i hk ⟨g1,_⟩;omega)
  have hfr5:Fr (KR L n t) a a5:=(hf2.trans hf3).trans hf5
  refine hF x ver fx L TP' TU' (n+2) 0 0 (n+3) (t+17) b rb sb w1.heap.size 0 (w1.heap.size+1) ev a5 w4 (Scal.i8.rd st).2 _ hokF htxF (hs.up zH zH zH) zH (by rw[hz5,hz3,hz2];omega) hst5 hp5 zH hc4 (fun i hi=>(hqf i hi).eff hE4) zH zH zH zH zH zH ?_ ?_
  ·intro a6 w6 cs ds tags g1 g2 g3 g4 g5 g6 g7
   have hM6:∀ k,k<w1.heap.size->k≠rb->∀ i,¬ FM rb w1.heap.size (0+0) fs.size k i:=by
    rintro k hk hne i (⟨h,_⟩ | ⟨h,_⟩)
    ·exact hne h
    ·omega
   have hE6:Eff (FM rb pb (po+off) 1) w w6:=hE13.trans' g6 (by
    rintro k i hk (h | ⟨h,_⟩)
    ·exact .inl h
    ·omega)
   refine vN (vN (kn a6 w6 [.pointer (some ⟨w1.heap.size,0,none⟩)] (.list (some [.obj ds tags])) (hfr5.trans (g1.mono (KR.mono zH zH))) g2 rfl (hc4'.eff g6 (fun i _=>hM6 pb hpb1 h1 _)) ?_ hE6 ?_))
   ·simp only[Ty.Rep]
    exact ⟨w1.heap.size,cs,rfl,by omega,Nat.lt_of_lt_of_le (Nat.lt_of_lt_of_le hqlt hw34) g6.size,g3,g4,g5⟩
   ·intro h
    obtain ⟨rfl,rfl⟩:=g7 h
    rfl
  ·intro a6 w6 g1 g2 g3 g4 g5
   exact kr a6 w6 (by rw[g1,hfr5.defers]) (by rw[g2,hfr5.size]) g3 (hE13.trans' g4 (by
    rintro k i hk (h | ⟨h,_⟩)
    ·exact .inl h
    ·omega)) g5
theorem Flds.rn_no {v:Ver} (h:v.isTag=false) (kz:List Nat) (ty:Ty) (r:Flds):Flds.rn kz (.cons v ty r)=1+(match ty.tp with | some _=>1 | none=>0)+ty.rn+Flds.rn kz r:=by
 cases v<;>first | (cases h;done) | (cases ty<;>simp only[Flds.rn,Ty.tp])
theorem Flds.rt_no {v:Ver} (h:v.isTag=false) (x:Cx) (kz:List Nat) (ty:Ty) (r:Flds):Flds.rt x kz (.cons v ty r)=v.nt+ty.h+ty.rt x+Flds.rt x kz r:=by
 cases v<;>first | (cases h;done) | (simp only[Flds.rt])
theorem Flds.rc_no {v:Ver} (h:v.isTag=false) (E:Env) (x:Cx) (TP TU:TypeId) (s idx:Nat) (kt:List KRd) (n t b:Nat) (ty:Ty) (r:Flds):Flds.rc E x TP TU s idx kt n t b (.cons v ty r) =
  ifVer E x v t (match ty.tp with
   | some TP'=>sq (rg [qd (t+v.nt) (.tmp s) TP,jn (t+v.nt+1) (.tmp (t+v.nt)),xw (t+v.nt+2) TU (.tmp (t+v.nt+1)) idx,qc n (.tmp (t+v.nt+2)) TP']::Ty.rc E x 0 0 0 0 n (t+v.nt+3) b ty)
   | none=>sq (Ty.rc E x TP TU s idx n (t+v.nt) b ty++if ty.np then [] else [ko TP TU (ty.T E) ty.arr (n+ty.rslot) s idx (t+v.nt+ty.rt x)])) ::
  Flds.rc E x TP TU s (idx+1) kt (n+1+(match ty.tp with | some _=>1 | none=>0)+ty.rn) (t+v.nt+ty.h+ty.rt x) (b+ty.wb) r:=by
 cases v<;>first | (cases h;done) | (cases ty<;>simp only[Flds.rc,Ty.tp])
theorem KY.get_drop (fx:Bool) (ver:Nat) (y:KY) {lb:Nat} (h:y.k≠k) (tags:List (Nat × List UInt8)):y.get fx ver ((Ver.tag k lb).dropT tags)=y.get fx ver tags:=by
 have:∀ l:List (Nat × List UInt8),(l.filter fun x=>x.1 != k).find? (fun x=>x.1==y.k)=l.find? (fun x=>x.1==y.k):=by
  intro l
  induction l with
  | nil=>rfl
  | cons z l ih =>
   by_cases hz:z.1=k
   ·rw[List.filter_cons_of_neg (by simpa using hz),List.find?_cons_of_neg (by simp;omega)]
    exact ih
   ·rw[List.filter_cons_of_pos (by simpa using hz)]
    by_cases hy:z.1=y.k
    ·rw[List.find?_cons_of_pos (by simpa using hy),List.find?_cons_of_pos (by simpa using hy)]
    ·rw[List.find?_cons_of_neg (by simpa using hy),List.find?_cons_of_neg (by simpa using hy)]
     exact ih
 unfold KY.get Ver.getT Ver.dropT
 simp only[this]
theorem dropT_filter (k lb:Nat) (tags:List (Nat × List UInt8)):((Ver.tag k lb).dropT tags).filter (fun x=>decide (k<=x.1))=tags.filter (fun x=>decide (k+1<=x.1)):=by
 unfold Ver.dropT
 rw[List.filter_filter]
 refine List.filter_congr (fun x _=>?_)
 by_cases h:x.1=k
 ·simp[h]
 ·have:(k<=x.1 ↔ k+1<=x.1):=by omega
  simp[h,this]
theorem fv_cons (H:EnvR P E T) (HK:E.rTags≠0->EnvRK P E T) (hT:T []) {v:Ver} {ty:Ty} {r:Flds} (hlf:ty.tp=none->ty.np=false->ty.RVal P E T) (hfn:∀ TP TU FD fs PP,ty=.nstruct TP TU FD fs PP->fs.RVal P E T) (hfs:∀ TP TU FD fs,ty=.struct TP TU FD fs->fs.RVal P E T) (hle:∀ TS null e,ty=.list TS null e->(e.tp=none->e.np=false->e.RVal P E T)/\∀ TP TU FD fs,e=.struct TP TU FD fs->fs.RVal P E T) (hr:r.RValK P E T):(Flds.cons v ty r).RValK P E T:=by
 intro x ver fx L TP TU s idx off n t b rb sb pb po B ev a w st Q kts ck hok htx hs hn ht hst hKt hp hsn hc hf h1 h2 h3 hB hrB hBw kn kr
 have hnL:=hs.nL;have hLt:=hs.Lt;have h7:=hs.seven;have hrd:=hs.rd
 have hkt:=hs.kt
 simp only[Flds.okR,Bool.and_eq_true,beq_iff_eq] at hok
 obtain ⟨⟨⟨⟨hokv,hfo⟩,hokt⟩,hokz⟩,hokr⟩:=hok
 simp only[Flds.txR] at htx
 obtain ⟨htxt,htxr⟩:=htx
 simp only[Flds.size] at hf kn kr
 simp only[Flds.dz] at hc
 have hcd:qb w pb (po+off) ty.dz:=by
  have:=hc.tk (n:=ty.size)
  rwa [← Ty.dz_len ty,List.take_left] at this
 have hcr:qb w pb (po+(off+ty.size)) r.dz:=by
  have:=hc.dp (n:=ty.size)
  rwa [← Ty.dz_len ty,List.drop_left,Ty.dz_len ty,Nat.add_assoc] at this
 cases htag:v.isTag with
 | true =>
  cases v with
  | tag k lb =>
   simp only[Ver.okT,Bool.and_eq_true,beq_iff_eq,decide_eq_true_eq,bne_iff_ne,ne_eq] at hokv
   obtain ⟨⟨⟨rfl,hk⟩,hty⟩,hrt⟩:=hokv
   have HK:=HK hrt
   obtain ⟨krd,hy,hcode,hcN,hcT⟩:∃ krd:KRd,KY.OK P E T x ver fx L s ⟨kts.length,off,ty,krd⟩/\Flds.rc E x TP TU s idx (kts.map (·.krd)) n t b (.cons (.tag kts.length lb) ty r)=Flds.rc E x TP TU s (idx+1) (kts.map (·.krd)++[krd]) n t b r ∧
     krd.casN=3+(match ty.tp with | some _=>1 | none=>0)+ty.rn/\krd.casT=4+ty.h+ty.rt x+4:=by
    cases ty with
    | scal sc df =>
     simp only[Ty.okR,Bool.and_eq_true,bne_iff_ne,ne_eq] at hokt
     exact ⟨_,kScal_ok H HK hk hokt.1 hokt.2 hfo (sc.okB_ok hokz),by simp only[Flds.rc];rfl,rfl,rfl⟩
    | list TS null e =>
     cases null with
     | none=>exact ⟨_,kList_ok H HK (hle _ _ _ rfl).1 (hle _ _ _ rfl).2 hk hokt htxt hfo,by simp only[Flds.rc];rfl,rfl,rfl⟩
     | some N=>cases hty
    | struct TP' TU' FD fs =>
     obtain ⟨_,_,_,e⟩:=vU hty
     cases e
     cases hx:x.fl with
     | none =>
      have:=hs.no hx
      exact ⟨_,kTwo_no HK hk this,by simp only[Flds.rc];rfl,rfl,rfl⟩
     | some fl=>exact ⟨_,kTwo_ok H HK hk hx hokt htxt hfo,by simp only[Flds.rc];rfl,rfl,rfl⟩
    | _=>cases hty
   ·generalize hym:(⟨kts.length,off,ty,krd⟩:KY)=y at *
    have yk:y.k=kts.length:=by rw[← hym]
    have yo:y.off=off:=by rw[← hym]
    have yt:y.ty=ty:=by rw[← hym]
    have yr:y.krd=krd:=by rw[← hym]
    have hlen:(kts++[y]).length=kts.length+1:=by simp
    have hkn:(kts++[y]).map (·.krd.casN)=kts.map (·.krd.casN)++[3+(match ty.tp with | some _=>1 | none=>0)+ty.rn]:=by
     rw[List.map_append,← hcN,← yr]
     rfl
    have hkt2:((kts++[y]).map fun y=>2+y.krd.casT)=(kts.map fun y=>2+y.krd.casT)++[2+(4+ty.h+ty.rt x+4)]:=by
     rw[List.map_append,← hcT,← yr]
     rfl
    have hrd:(Flds.cons (.tag kts.length lb) ty r).rd fx ver ck st=(y.get fx ver (r.rd fx ver ((Ver.tag kts.length lb).ckT (y.chk fx ver) ck) st).2.1::(r.rd fx ver ((Ver.tag kts.length lb).ckT (y.chk fx ver) ck) st).1,
      (Ver.tag kts.length lb).dropT (r.rd fx ver ((Ver.tag kts.length lb).ckT (y.chk fx ver) ck) st).2.1,(r.rd fx ver ((Ver.tag kts.length lb).ckT (y.chk fx ver) ck) st).2.2):=by
     rw[← hym]
     simp only[Flds.rd,Ver.has,Bool.false_eq_true,if_false]
     rfl
    rw[hrd] at kn kr
    rw[hcode,show kts.map (·.krd)++[krd]=(kts++[y]).map (·.krd) by rw[List.map_append,← yr];rfl]
    have hFK:∀ k i,k<w.heap.size->FK rb pb po (off+ty.size) r.size (kts++[y]) k i->FK rb pb po off (ty.size+r.size) kts k i:=by
     rintro k i _ (h | ⟨e,⟨m1,m2⟩ | ⟨z,hz,m1,m2⟩⟩)
     ·exact .inl h
     ·exact .inr ⟨e,.inl ⟨by omega,by omega⟩⟩
     ·rcases List.mem_append.1 hz with hz | hz
      ·exact .inr ⟨e,.inr ⟨z,hz,m1,m2⟩⟩
      ·have:z=y:=by simpa using hz
       subst this
       rw[yo] at m1 m2
       rw[yt] at m2
       exact .inr ⟨e,.inl ⟨by omega,by omega⟩⟩
    simp only[Ver.nextT] at hokr
    refine hr x ver fx L TP TU s (idx+1) (off+ty.size) n t b rb sb pb po B ev a w st Q (kts++[y]) ((Ver.tag kts.length lb).ckT (y.chk fx ver) ck) (by rw[hlen];exact hokr) htxr hs (by rw[hkn];exact hn) (by rw[hkt2];exact ht) hst ?_ hp hsn hcr
     (fun i hi=>by have:=hf (ty.size+i) zH;rwa [show po+off+(ty.size+i)=po+(off+ty.size)+i by omega] at this) h1 h2 h3 hB hrB hBw ?_ ?_
    ·have hmem:∀ z ∈ kts++[y],z ∈ kts\/z=y:=fun z hz=>by simpa using hz
     refine ⟨?_,?_,?_,?_,?_,?_,?_,?_⟩
     ·intro z hz
      rcases hmem z hz with hz | rfl
      ·exact hKt.ok z hz
      ·exact hy
     ·rw[List.map_append,hKt.ks,hlen,List.range_succ,List.map_cons,List.map_nil,yk]
     ·intro z hz p
      rcases hmem z hz with hz | rfl
      ·have:=hKt.lt hz
       simp only[Ver.ckT,if_neg (show ¬ z.k=kts.length by omega)]
       exact hKt.ck1 z hz p
      ·simp only[Ver.ckT,yk,if_true]
     ·intro j hj p
      rw[hlen] at hj
      simp only[Ver.ckT,if_neg (show ¬ j=kts.length by omega)]
      exact hKt.ck0 j zH p
     ·intro z hz
      rcases hmem z hz with hz | rfl
      ·have:=hKt.pos z hz
       omega
      ·rw[yo,yt]
       exact Nat.le_refl _
     ·refine List.pairwise_append.2 ⟨hKt.sep,by simp,fun z hz u hu=>?_⟩
      have:u=y:=by simpa using hu
      subst this
      rw[yo]
      exact hKt.pos z hz
     ·intro z hz
      rcases hmem z hz with hz | rfl
      ·exact hKt.dz z hz
      ·rw[yo,yt];exact hcd
     ·intro z hz i hi
      rcases hmem z hz with hz | rfl
      ·exact hKt.free z hz i hi
      ·rw[yo]
       rw[yt] at hi
       exact hf i zH
    ·intro a' w' cs ds tg g1 g2 g3 g4 g5 g6 g7 g8 g9
     obtain ⟨c,d,k1,k2,k3,k4⟩:=g7 y zS
     rw[yt] at k1 k3
     rw[yo] at k2
     refine kn a' w' (c++cs) (d::ds) tg g1 g2 (by rw[List.length_append,k1,g3]) ?_ ?_ (fun z hz=>by have:=g6 z hz;rw[hlen] at this;omega) ?_ ?_ ?_
     ·refine k2.append ?_
      rw[k1,Nat.add_assoc]
      exact g4
     ·simp only[Flds.Rep]
      have e1:(c++cs).take ty.size=c:=by rw[← k1,List.take_left]
      have e2:(c++cs).drop ty.size=cs:=by rw[← k1,List.drop_left]
      rw[e1,e2]
      exact ⟨k3,g5,fun z hz=>by have:=g6 z hz;rw[hlen] at this;omega⟩
     ·intro z hz
      obtain ⟨c',d',m1,m2,m3,m4⟩:=g7 z (by simp[hz])
      refine ⟨c',d',m1,m2,m3,fun h=>?_⟩
      have:=hKt.lt hz
      rw[KY.get_drop _ _ _ zH]
      exact m4 h
     ·exact g8.mono hFK
     ·intro h
      obtain ⟨rfl,rfl⟩:=g9 h
      refine ⟨by rw[k4 h],?_⟩
      rw[hlen]
      exact (dropT_filter _ lb _).symm
    ·intro a' w' g1 g2 g3 g4 g5
     exact kr a' w' g1 g2 g3 (g4.mono hFK) g5
  | _=>cases htag
 | false =>
 rw[Flds.rn_no htag] at hn
 rw[Flds.rt_no htag] at ht
 rw[Ver.nextT_no htag] at hokr
 have hn1:n+1+(match ty.tp with | some _=>1 | none=>0)+ty.rn+Flds.rn (kts.map (·.krd.casN)) r<=L:=by
  cases htp:ty.tp<;>simp only[htp] at hn ⊢<;>omega
 rw[Flds.rc_no htag]
 -- what comes behind
 have next:∀ (a1:Act) (w1:World) (c:List Value) (d d1:D) (st1:RSt),Fr (KR L n t) a a1->RSta E x ver fx rb sb ev a1 w1 st1->c.length=ty.size->qb w1 pb (po+off) c->ty.Rep w1 ⟨sb,T⟩ B c d->Eff (FM rb pb (po+off) ty.size) w w1->(st1.2=false->d=d1) →
   ((Flds.cons v ty r).rd fx ver ck st=(d1::(r.rd fx ver ck st1).1,(r.rd fx ver ck st1).2)) →
   vc P (sq (Flds.rc E x TP TU s (idx+1) (kts.map (·.krd)) (n+1+(match ty.tp with | some _=>1 | none=>0)+ty.rn) (t+v.nt+ty.h+ty.rt x) (b+ty.wb) r)) Q a1 w1:=by
  intro a1 w1 c d d1 st1 hfr hst1 hcl hcc hrep hE hd hrd
  have hsz:=hfr.size
  have hw1:=hE.size
  have hMs:∀ i,¬ FK rb pb po (off+ty.size) r.size kts sb i:=by
   rintro i (⟨h,_⟩ | ⟨h,_⟩)
   ·exact hst.rd.ne h.symm
   ·exact h2 h.symm
  have hMB:∀ k i,B<=k->¬ FK rb pb po (off+ty.size) r.size kts k i:=by
   rintro k i hk (⟨h,_⟩ | ⟨h,_⟩)<;>omega
  have hEE:∀ w2,Eff (FK rb pb po (off+ty.size) r.size kts) w1 w2->Eff (FK rb pb po off (ty.size+r.size) kts) w w2:=by
   intro w2 h
   refine (hE.mono ?_).trans (h.mono ?_)
   ·rintro k i _ (h | ⟨g1,g2,g3⟩)
    ·exact .inl h
    ·exact .inr ⟨g1,.inl ⟨by omega,by omega⟩⟩
   ·rintro k i _ (h | ⟨g1,⟨g2,g3⟩ | g2⟩)
    ·exact .inl h
    ·exact .inr ⟨g1,.inl ⟨by omega,by omega⟩⟩
    ·exact .inr ⟨g1,.inr g2⟩
  have hK1:KtOK P E T x ver fx L s kts ck (off+ty.size) pb po w1:=by
   have hK0:KtOK P E T x ver fx L s kts ck off pb po w1:=hKt.eff hE h1
   exact ⟨hK0.ok,hK0.ks,hK0.ck1,hK0.ck0,fun y hy=>by have:=hK0.pos y hy;omega,hK0.sep,hK0.dz,hK0.free⟩
  refine hr x ver fx L TP TU s (idx+1) (off+ty.size) _ _ _ rb sb pb po B ev a1 w1 st1 Q kts ck hokr htxr (hs.up zH zH zH) hn1 (by rw[hsz];omega) hst1 hK1 (by rw[hfr.slot _ (.inl hsn)];exact hp) zH
   (hcr.eff hE ?_) (fun i hi=>?_) h1 h2 h3 hB hrB zH ?_ ?_
  ·rintro i hi (⟨h,_⟩ | ⟨_,_,h⟩)
   ·exact h1 h
   ·omega
  ·have:=(hf (ty.size+i) zH).eff hE
   rwa [show po+off+(ty.size+i)=po+(off+ty.size)+i by omega] at this
  ·intro a2 w2 cs ds tg g1 g2 g3 g4 g5 g6 g7 g8 g9
   have hne:w1.heap.size<=w2.heap.size:=g8.size
   -- the cells of this field are left alone
   have hkeep:qb w2 pb (po+off) c:=by
    refine hcc.eff g8 ?_
    rintro i hi (⟨h,_⟩ | ⟨_,⟨h,_⟩ | ⟨y,hy,m1,m2⟩⟩)
    ·exact h1 h
    ·omega
    ·have:=hKt.pos y hy
     omega
   refine kn a2 w2 (c++cs) (d::ds) tg (hfr.trans (g1.mono (KR.mono zH zH))) (by rw[hrd];exact g2) (by rw[List.length_append,hcl,g3]) ?_ ?_ g6 (by rw[hrd];exact g7) (hEE w2 g8) ?_
   ·refine hkeep.append ?_
    rw[hcl,show po+off+ty.size=po+(off+ty.size) by omega]
    exact g4
   ·simp only[Flds.Rep]
    rw[← hcl,List.take_left,List.drop_left]
    exact ⟨Ty.Rep.eff g8 hMs ty B B c d (fun k i hk _=>hMB k i hk) (Nat.le_refl _) hrep,g5,Ver.tagOk_no htag _⟩
   ·intro h
    rw[hrd] at h ⊢
    obtain ⟨rfl,rfl⟩:=g9 h
    rw[hd (Flds.rd_mono fx ver r _ h)]
    exact ⟨rfl,rfl⟩
  ·intro a2 w2 g1 g2 g3 g4 g5
   exact kr a2 w2 (by rw[g1,hfr.defers]) (by rw[g2,hsz]) g3 (hEE w2 g4) (by rw[hrd];exact g5)
 refine vS (m_ver (K:=KR L n t) htag hst.ver (by have:=hs.vs;omega) hkt zH ?_ ?_)
 ·intro hv a1 hf1 he1
  have hrd:(Flds.cons v ty r).rd fx ver ck st=((ty.rd fx ver st).1::(r.rd fx ver ck (ty.rd fx ver st).2).1,(r.rd fx ver ck (ty.rd fx ver st).2).2):=by simp only[Flds.rd,hv,if_true]
  have hbad:(ty.rd fx ver st).2.2=true->((Flds.cons v ty r).rd fx ver ck st).2.2.2=true:=by
   intro h
   rw[hrd]
   cases hh:(r.rd fx ver ck (ty.rd fx ver st).2).2.2.2 with
   | true=>rfl
   | false=>rw[Flds.rd_mono fx ver r _ hh] at h;cases h
  have hst1:=hst.fr hs hf1
  have hsz1:=hf1.size
  have hp1:a1.eval (.tmp s)=.pointer (some ⟨pb,po,none⟩):=by rw[hf1.slot _ (.inl hsn)];exact hp
  cases htp:ty.tp with
  | some TP' =>
   cases ty with
   | struct TP2 TU2 FD fs =>
    simp only[Ty.tp,Option.some.injEq] at htp
    subst htp
    simp only[Ty.tp,Ty.h,Ty.rn,Ty.rt,Ty.size,Ty.dz] at hn1 ht hf hcd next kn kr ⊢
    refine vX (rM ?_)
    refine xe (ad:=⟨pb,po,none⟩) zA ?_
    refine rF (b:=pb) (o:=po) zE hfo ?_
    refine rA (dn ?_)
    generalize ha2:Act.put (Act.put (Act.put (Act.put a1 _ _) _ _) _ _) _ _=a2
    have hf2:Fr (KR L n t) a1 a2:=by
     subst ha2
     exact ((((Fr.refl _ a1).put _ (hkt _ zH)).put _ (hkt _ zH)).put _ (hkt _ zH)).put _ (hs.kn n (Nat.le_refl _) zH)
    have hp2:a2.eval (.tmp n)=.pointer (some ⟨pb,po+off,none⟩):=by subst ha2;exact zE
    have hsz2:=hf2.size
    refine m_struct (hfs _ _ _ _ rfl) (ver:=ver) (B:=B) hokt htxt (hs.up (n':=n) (t':=t+v.nt+3) (Nat.le_refl _) zH zH) zH (by rw[hsz2,hsz1];omega) (hst1.fr hs hf2) hp2 (Flds.dz_len fs) (Flds.over_dz fs) hcd (fun i hi=>hf i zH) h1 h2 h3 hB hrB hBw ?_ ?_
    ·intro a3 w3 cs ds tags g1 g2 g3 g4 g5 g6 g7
     exact next a3 w3 cs (.obj ds tags) _ _ ((hf1.trans hf2).trans (g1.mono (KR.mono (Nat.le_refl _) zH))) g2 g3 g4 g5 g6 (fun h=>by obtain ⟨rfl,rfl⟩:=g7 h;rfl) hrd
    ·intro a3 w3 g1 g2 g3 g4 g5
     refine kr a3 w3 (by rw[g1,hf2.defers,hf1.defers]) (by rw[g2,hsz2,hsz1]) g3 (g4.mono ?_) (hbad g5)
     rintro k i _ (h | ⟨m1,m2,m3⟩)
     ·exact .inl h
     ·exact .inr ⟨m1,.inl ⟨m2,by omega⟩⟩
   | _=>cases htp
  | none =>
   simp only[htp] at hn1 next ⊢
   have hh4:ty.h=4:=by simp only[Ty.h,htp]
   cases hnp:ty.np with
   | true =>
    cases ty with
    | nstruct TP2 TU2 FD fs PP2 =>
     simp only[if_true,List.append_nil]
     simp only[Ty.rn,Ty.rt,Ty.size,Ty.dz] at hn1 ht hf hcd hh4 next kn kr
     rw[hh4] at ht
     refine m_nstruct H (hfn _ _ _ _ _ rfl) (B:=B) hokt htxt (hs.up (n':=n) (t':=t+v.nt) (Nat.le_refl _) zH zH) zH (by rw[hsz1];omega) hst1 hp1 hsn hfo hcd (by simpa using hf 0 zH) h1 h2 h3 hB hrB hBw ?_ ?_
     ·intro a3 w3 c d g1 g2 g3 g4 g5 g6 g7
      exact next a3 w3 c d _ _ (hf1.trans (g1.mono (KR.mono (Nat.le_refl _) zH))) g2 g3 g4 g5 g6 g7 hrd
     ·intro a3 w3 g1 g2 g3 g4 g5
      refine kr a3 w3 (by rw[g1,hf1.defers]) (by rw[g2,hsz1]) g3 (g4.mono ?_) (hbad g5)
      rintro k i _ (h | ⟨m1,m2,m3⟩)
      ·exact .inl h
      ·exact .inr ⟨m1,.inl ⟨m2,by omega⟩⟩
    | _=>cases hnp
   | false =>
   simp only[Bool.false_eq_true,if_false]
   have hrn:ty.rslot<=ty.rn:=by cases ty<;>simp[Ty.rslot,Ty.rn]
   refine zw ?_
   refine hlf htp hnp x ver fx L TP TU s idx n (t+v.nt) b rb sb ev a1 w st _ hokt htxt (hs.up (Nat.le_refl _) zH zH) zH zH hst1 ?_ ?_ ?_
   ·intro hli
    refine ⟨pb,po,off,hp1,hsn,hfo,?_⟩
    cases ty<;>simp only[Ty.isList] at hli<;>try cases hli
    exact hcd 0 (.slice none 0 0) (by simp[Ty.dz])
   ·intro a2 w2 cs d hf2' hst2 hval hrep hE hd
    obtain ⟨hcl,hc1⟩:=Ty.Rep.leaf ty htp hrep
    have hS:=Ty.okR_okS ty hokt htp
    have hf2:Fr (KR L n t) a1 a2:=hf2'.mono (KR.mono (Nat.le_refl _) zH)
    have hsz2:=hf2.size
    have hp2:a2.eval (.tmp s)=.pointer (some ⟨pb,po,none⟩):=by rw[hf2.slot _ (.inl hsn)];exact hp1
    refine vS (vR (by cases ty.arr<;>simp) ?_)
    refine rM ?_
    refine r_leafLoad (cs:=cs) hS hcl ?_ ?_
    ·unfold Ty.Val at hval ⊢
     cases ha:ty.arr with
     | true =>
      simp only[ha,if_true] at hval ⊢
      obtain ⟨q1,g1,g2⟩:=hval
      exact ⟨q1,zA,g2⟩
     | false =>
      simp only[ha,Bool.false_eq_true,if_false] at hval ⊢
      rw[hval]
      exact zE
    refine xe (ad:=⟨pb,po,none⟩) zA ?_
    refine rF (b:=pb) (o:=po) zE hfo ?_
    have hfree:∀ j,j<ty.size->qr w2 pb (po+off+j):=fun j hj=>(hf j zH).eff hE
    refine r_leafStore (b:=pb) (o:=po+off) (cs:=cs) hS hcl hc1 zE zE hfree ?_
    refine dn (vN ?_)
    have hE2:=qe pb cs w2 (po+off)
    rw[hcl] at hE2
    have hE2':Eff (FM rb pb (po+off) ty.size) w2 (setCells w2 pb (po+off) cs):=hE2.mono (fun k i _ h=>.inr h)
    have hE1':Eff (FM rb pb (po+off) ty.size) w w2:=hE.mono (fun k i _ h=>.inl h)
    generalize ha3:Act.put (Act.put (Act.put (Act.put a2 _ _) _ _) _ _) _ _=a3
    have hf3:Fr (KR L n t) a2 a3:=by
     subst ha3
     exact ((((Fr.refl _ a2).put _ (hkt _ zH)).put _ (hkt _ zH)).put _ (hkt _ zH)).put _ (hkt _ zH)
    refine next a3 _ cs d _ _ ((hf1.trans hf2).trans hf3) (hst2.keep hs hf3 hE2 (by rintro j ⟨h,_⟩;exact h1 h.symm) (by rintro j ⟨h,_⟩;exact h2 h.symm) (by rintro j ⟨h,_⟩;exact h3 h.symm)) hcl ?_ ?_ (hE1'.trans hE2') hd hrd
    ·intro j u hu
     exact qg _ _ _ _ (fun j hj=>(hfree j zH).1) j u hu
    ·have hws:=hE.size
     refine Ty.Rep.eff hE2 ?_ ty w.heap.size B cs d ?_ hBw hrep
     ·rintro j ⟨h,_⟩;exact h2 h.symm
     ·rintro k j hk _ ⟨h,_⟩;omega
   ·intro a2 w2 g1 g2 g3 g4 g5
    exact kr a2 w2 (by rw[g1,hf1.defers]) (by rw[g2,hsz1]) g3 (g4.mono (fun k i _ h=>.inl h)) (hbad g5)
 ·intro hv a1 hf1 he1
  refine next a1 w ty.dz ty.dflt ty.dflt st hf1 (hst.fr hs hf1) (Ty.dz_len ty) hcd (Ty.dz_rep hT ty B hokz) (Eff.refl _ _) (fun _=>rfl) ?_
  simp only[Flds.rd,hv,Bool.false_eq_true,if_false,Ver.getT_no htag,Ver.dropT_no htag,Ver.ckT_no htag]
mutual
theorem Ty.rval (H:EnvR P E T) (HK:E.rTags≠0->EnvRK P E T) (hT:T []):∀ ty:Ty,ty.tp=none->ty.np=false->ty.RVal P E T
 | .scal k df,_,_=>rv_scal H k df
 | .named k N df,_,_=>rv_named H k N df
 | .uuid,_,_=>rv_uuid H
 | .text,_,_=>rv_text H
 | .ntext,_,_=>rv_ntext H
 | .ntextFrom N,_,_=>rv_ntextFrom H N
 | .bytes,_,_=>rv_bytes H
 | .nbytes,_,_=>rv_nbytes H
 | .list TS null e,_,_=>rv_list H (fun h h'=>Ty.rval H HK hT e h h') (fun TP TU FD fs h=>Ty.rvals H HK hT e TP TU FD fs h)
 | .struct _ _ _ _,h,_=>by cases h
 | .nstruct _ _ _ _ _,_,h=>by cases h
theorem Ty.rvaln (H:EnvR P E T) (HK:E.rTags≠0->EnvRK P E T) (hT:T []):∀ (ty:Ty) (TP TU:TypeId) (FD:FuncId) (fs:Flds) (PP:TypeId),ty=.nstruct TP TU FD fs PP->fs.RVal P E T
 | .nstruct TP TU FD fs PP,TP',TU',FD',fs',PP',h=>by
  cases h
  exact (Flds.rvalK H HK hT fs).plain
 | .struct _ _ _ _,_,_,_,_,_,h | .scal _ _,_,_,_,_,_,h | .named _ _ _,_,_,_,_,_,h | .uuid,_,_,_,_,_,h | .text,_,_,_,_,_,h | .ntext,_,_,_,_,_,h | .ntextFrom _,_,_,_,_,_,h | .bytes,_,_,_,_,_,h | .nbytes,_,_,_,_,_,h | .list _ _ _,_,_,_,_,_,h=>by cases h
theorem Ty.rvals (H:EnvR P E T) (HK:E.rTags≠0->EnvRK P E T) (hT:T []):∀ (ty:Ty) (TP TU:TypeId) (FD:FuncId) (fs:Flds),ty=.struct TP TU FD fs->fs.RVal P E T
 | .struct TP TU FD fs,TP',TU',FD',fs',h=>by
  cases h
  exact (Flds.rvalK H HK hT fs).plain
 | .scal _ _,_,_,_,_,h | .named _ _ _,_,_,_,_,h | .uuid,_,_,_,_,h | .text,_,_,_,_,h | .ntext,_,_,_,_,h | .ntextFrom _,_,_,_,_,h | .bytes,_,_,_,_,h | .nbytes,_,_,_,_,h | .list _ _ _,_,_,_,_,h | .nstruct _ _ _ _ _,_,_,_,_,h=>by cases h
theorem Ty.rvall (H:EnvR P E T) (HK:E.rTags≠0->EnvRK P E T) (hT:T []):∀ (ty:Ty) (TS:TypeId) (null:Option Nat) (e:Ty),ty=.list TS null e->(e.tp=none->e.np=false->e.RVal P E T)/\∀ TP TU FD fs,e=.struct TP TU FD fs->fs.RVal P E T
 | .list _ _ e,TS,null,e',h=>by
  cases h
  exact ⟨fun h h'=>Ty.rval H HK hT e h h',fun TP TU FD fs h=>Ty.rvals H HK hT e TP TU FD fs h⟩
 | .struct _ _ _ _,_,_,_,h | .scal _ _,_,_,_,h | .named _ _ _,_,_,_,h | .uuid,_,_,_,h | .text,_,_,_,h | .ntext,_,_,_,h | .ntextFrom _,_,_,_,h | .bytes,_,_,_,h | .nbytes,_,_,_,h | .nstruct _ _ _ _ _,_,_,_,h=>by cases h
theorem Flds.rvalK (H:EnvR P E T) (HK:E.rTags≠0->EnvRK P E T) (hT:T []):∀ fs:Flds,fs.RValK P E T
 | .nil b=>fv_nil H HK hT b
 | .cons v ty r=>fv_cons H HK hT (fun h h'=>Ty.rval H HK hT ty h h') (fun TP TU FD fs PP h=>Ty.rvaln H HK hT ty TP TU FD fs PP h) (fun TP TU FD fs h=>Ty.rvals H HK hT ty TP TU FD fs h) (fun TS null e h=>Ty.rvall H HK hT ty TS null e h) (Flds.rvalK H HK hT r)
end
theorem Flds.rval (H:EnvR P E T) (HK:E.rTags≠0->EnvRK P E T) (hT:T []) (fs:Flds):fs.RVal P E T:=(Flds.rvalK H HK hT fs).plain
structure EnvRX (P:Program) (E:Env):Prop where
 i16:qW P E.tI16=true
 rd:wo P E.tRd=some ([(0,1),(1,1)],#[.slice none 0 0,.bool false])
 rdA:zd P E.tRd=some 2
def Msg.rdv (m:Msg) (ver:Nat) (st:RSt):List D × List (Nat × List UInt8) × RSt:=m.fs.rd (m.isFlex ver) ver noK st
def RFC (m:Msg) (T:List (Nat × List UInt8)->Prop) (ev:Value) (ver mb rb sb B:Nat) (st:RSt) (w w':World) (v:Value):Prop :=
 v=(if (m.rdv ver st).2.2.2 then ev else .nilIface)/\Eff (FM rb mb 1 m.fs.size) w w' ∧
 ((m.rdv ver st).2.2.2=false->∃ cs,cs.length=m.fs.size/\qb w' mb 1 cs/\m.fs.Rep w' ⟨sb,T⟩ B cs (m.rdv ver st).1 (m.rdv ver st).2.1)
def Msg.rtail (E:Env) (m:Msg) (t1:Nat):List Code :=
 [yV m.TP m.TU E.tI16 8 0 0 t1,rg [qd (t1+4) (.tmp 8) E.tI16]] ++
  (match m.flex with
   | none=>[]
   | some f=>[rg [qd (t1+5) (.tmp 8) E.tI16,zZ (t1+6) .geq E.tI16 (.tmp (t1+5)) (i16 f) E.tI16 E.tO,qc 9 (.tmp (t1+6)) E.tO],rg [qd (t1+7) (.tmp 9) E.tO]]) ++
  ([rg [qd (t1+5+(match m.flex with | none=>0 | some _=>3)) (.tmp 0) m.TP,qc m.rs (.tmp (t1+5+(match m.flex with | none=>0 | some _=>3))) m.TP]]++Flds.rc E m.rx m.TP m.TU m.rs 1 [] (m.rs+1) (t1+5+(match m.flex with | none=>0 | some _=>3)+1) 0 m.fs++[xb E m.rx E.rComplete E.tErr 6 (t1+5+(match m.flex with | none=>0 | some _=>3)+1+m.fs.rt m.rx),.ret])
theorem rcode_eq (E:Env) (m:Msg):m.rcode E=sq ([rg [qc 6 (.const .nilIface) E.tErr],
  rg [qd m.rlocals (.tmp 0) m.TP,xj (some (m.rlocals+1)) m.FD #[.tmp m.rlocals] #[m.TP] 0],
  rg [qd (m.rlocals+2) (.tmp 1) E.tB,wQ (m.rlocals+3) E.tRd #[(0,.tmp (m.rlocals+2))],yg 7 E.tRd,zq E.tRd (.tmp 7) (.tmp (m.rlocals+3))]] ++
  ((if m.kept then [rg [qd (m.rlocals+4) (.tmp 0) m.TP,xj (some (m.rlocals+5)) E.rI16 #[.tmp 7] #[E.tRd] E.tI16,jn (m.rlocals+6) (.tmp (m.rlocals+4)),xw (m.rlocals+7) m.TU (.tmp (m.rlocals+6)) 0,zq E.tI16 (.tmp (m.rlocals+7)) (.tmp (m.rlocals+5))]] else []) ++
  m.rtail E (m.rlocals+4+(if m.kept then 4 else 0)))):=by
 unfold Msg.rcode Msg.rtail
 simp only[List.append_assoc,List.cons_append,List.nil_append]
 rfl
theorem rf_flds (H:EnvR P E T) (HK:E.rTags≠0->EnvRK P E T) (hT:T []) {m:Msg} {mb t2:Nat} (hok:m.fs.okR P E m.rx m.TU 1 1=true) (htx:m.fs.txR P E) (ht2:m.rlocals<=t2) (hsz:t2+1+m.fs.rt m.rx+1<=a.tmps.size) (hdf:a.defers=[]) (h0:a.eval (.tmp 0)=.pointer (some ⟨mb,0,none⟩)) (h2:a.eval (.tmp 2)=.bool false) (h7:a.eval (.tmp 7)=.pointer (some ⟨rb,0,none⟩)) (h8:a.eval (.tmp 8)=.int .i16 (ver:Int)) (h9:∀ f,m.rx.fl=some f->a.eval (.tmp f)=.bool (m.isFlex ver)) (hr:RdS w rb sb st) (he:w.cell? ⟨E.vErr,0,none⟩=some ev) (her:E.vErr≠rb) (hev:∃ u z,ev=.iface u z) (hc:qb w mb 1 m.fs.dz) (hf:∀ i,i<m.fs.size->qr w mb (1+i)) (hm1:mb≠rb) (hm2:mb≠sb) (hm3:mb≠E.vErr) (hmB:mb<B) (hrB:rb<B) (hB:B<=w.heap.size):
  vc P (sq ([rg [qd t2 (.tmp 0) m.TP,qc m.rs (.tmp t2) m.TP]]++Flds.rc E m.rx m.TP m.TU m.rs 1 [] (m.rs+1) (t2+1) 0 m.fs++[xb E m.rx E.rComplete E.tErr 6 (t2+1+m.fs.rt m.rx),.ret])) (Out P #[.tmp 6] fun v w'=>RFC m T ev ver mb rb sb B st w w' v) a w:=by
 have hrs:m.rs=(match m.flex with | none=>9 | some _=>10):=rfl
 have hrl:m.rlocals=m.rs+1+m.fs.rn:=rfl
 have hrs9:9<=m.rs:=by rw[hrs];cases m.flex<;>simp
 have hfl9:∀ f,m.rx.fl=some f->f=9/\m.rs=10:=by
  intro f hf
  cases hfx:m.flex<;>simp[Msg.rx,Msg.rs,hfx] at hf ⊢
  omega
 have hno:m.rx.fl=none->m.isFlex ver=false:=by
  intro hf
  cases hfx:m.flex<;>simp[Msg.rx,Msg.isFlex,hfx] at hf ⊢
 have hs:RSl m.rx m.rlocals (m.rs+1) (t2+1) (m.isFlex ver) :=
  ⟨by omega,by show 7<m.rs+1;omega,by show 8<m.rs+1;omega,fun f hf=>by have:=hfl9 f hf;omega,hno,by omega,by omega⟩
 simp only[List.cons_append,List.nil_append]
 refine vX (rM (rA (dn ?_)))
 generalize ha1:Act.put (Act.put a _ _) _ _=a1
 have hf1:Fr (fun k=>k<m.rs) a a1:=by
  subst ha1
  exact ((Fr.refl _ a).put _ zH).put _ zH
 have hp1:a1.eval (.tmp m.rs)=.pointer (some ⟨mb,0,none⟩):=by subst ha1;exact zA
 have hs1:=hf1.size
 clear ha1
 have hst:RSta E m.rx ver (m.isFlex ver) rb sb ev a1 w st :=
  ⟨hr,by show a1.eval (.tmp 7)=_;rw[hf1.slot 7 zH];exact h7,by rw[hf1.slot 2 zH];exact h2,by show a1.eval (.tmp 8)=_;rw[hf1.slot 8 zH];exact h8,fun f hf=>by have:=hfl9 f hf;rw[hf1.slot f zH];exact h9 f hf,he,her,hev⟩
 refine zw ?_
 refine Flds.rval H HK hT m.fs m.rx ver (m.isFlex ver) m.rlocals m.TP m.TU m.rs 1 1 (m.rs+1) (t2+1) 0 rb sb mb 0 B ev a1 w st _ hok htx hs zH zH hst hp1 zH (by simpa using hc) (fun i hi=>by simpa using hf i hi) hm1 hm2 hm3 hmB hrB hB ?_ ?_
 ·intro a2 w2 cs ds tags g1 g2 g3 g4 g5 g6 g7
  have hs2:=g1.size
  refine vX ?_
  refine q8 (args:=#[.pointer (some ⟨rb,0,none⟩)]) ?_ (H.complete rb sb _ w2 ev g2.rd g2.err) ?_
  ·simp only[lM]
   simp (disch:=(try simp only[sP]);omega) only[eV,g2.p7]
  rintro v w3 ⟨rfl,rfl⟩
  refine rA (dn (vS (vT ?_)))
  refine ⟨by simp only[dF];rw[g1.defers,hf1.defers];exact hdf,_,rO ?_,rfl,by simpa using g6,?_⟩
  ·simp (disch:=(try simp only[sP]);omega) only[eV]
   rfl
  ·intro h
   obtain ⟨rfl,rfl⟩:=g7 h
   exact ⟨cs,g3,by simpa using g4,g5⟩
 ·intro a2 w2 g1 g2 g3 g4 g5
  refine ⟨by rw[g1,hf1.defers];exact hdf,ev,rO g3,?_,by simpa using g4,?_⟩
  ·rw[if_pos (show (m.rdv ver st).2.2.2=true from g5)]
  ·intro h
   rw[show (m.rdv ver st).2.2.2=true from g5] at h
   cases h
theorem rf_tail (H:EnvR P E T) (HX:EnvRX P E) (HK:E.rTags≠0->EnvRK P E T) (hT:T []) {m:Msg} {mb t1:Nat} (hok:m.fs.okR P E m.rx m.TU 1 1=true) (htx:m.fs.txR P E) (h00:qh P m.TU 0=some 0) (ht1:m.rlocals<=t1) (hsz:t1+5+(match m.flex with | none=>0 | some _=>3)+1+m.fs.rt m.rx+1<=a.tmps.size) (hdf:a.defers=[]) (h0:a.eval (.tmp 0)=.pointer (some ⟨mb,0,none⟩)) (h2:a.eval (.tmp 2)=.bool false) (h7:a.eval (.tmp 7)=.pointer (some ⟨rb,0,none⟩)) (hv:w.cell? ⟨mb,0,none⟩=some (.int .i16 (ver:Int))) (hr:RdS w rb sb st) (he:w.cell? ⟨E.vErr,0,none⟩=some ev) (her:E.vErr≠rb) (hev:∃ u z,ev=.iface u z) (hc:qb w mb 1 m.fs.dz) (hf:∀ i,i<m.fs.size->qr w mb (1+i)) (hm1:mb≠rb) (hm2:mb≠sb) (hm3:mb≠E.vErr) (hmB:mb<B) (hrB:rb<B) (hB:B<=w.heap.size):
  vc P (sq (m.rtail E t1))
  (Out P #[.tmp 6] fun v w'=>RFC m T ev ver mb rb sb B st w w' v) a w:=by
 have hrl:m.rlocals=m.rs+1+m.fs.rn:=rfl
 have hrs9:9<=m.rs:=by show 9<=(match m.flex with | none=>9 | some _=>10);cases m.flex<;>simp
 simp only[Msg.rtail,List.append_assoc,List.cons_append,List.nil_append]
 refine vS (m_load (K:=fun k=>k<8) h0 h00 HX.i16 (by simpa using hv) zH (fun d hd=>by omega) zH zH ?_)
 intro a1 hf1 hv1
 have hs1:=hf1.size
 refine vX (rM (dn ?_))
 cases hfx:m.flex with
 | none =>
  simp only[hfx,List.nil_append,Nat.add_zero] at hsz ⊢
  have:=rf_flds H HK hT (m:=m) (ver:=ver) (mb:=mb) (rb:=rb) (sb:=sb) (B:=B) (t2:=t1+5) (ev:=ev) (a:=a1.put (some (t1+4)) (a1.eval (.tmp 8))) (w:=w) (st:=st) hok htx zH (by rw[zP,hs1];omega) (by rw[dF,hf1.defers];exact hdf)
   (by simp (disch:=(try simp only[sP]);omega) only[eV,hf1.slot 0 zH,h0]) (by simp (disch:=(try simp only[sP]);omega) only[eV,hf1.slot 2 zH,h2]) (by simp (disch:=(try simp only[sP]);omega) only[eV,hf1.slot 7 zH,h7]) zA (fun f hf=>by simp[Msg.rx,hfx] at hf) hr he her hev hc hf hm1 hm2 hm3 hmB hrB hB
  simp only[List.append_assoc,List.cons_append,List.nil_append] at this
  exact this
 | some f =>
  simp only[hfx,List.cons_append,List.nil_append] at hsz ⊢
  refine vX (rM ?_)
  refine yw (k:=.i16) (m:=(ver:Int)) (n:=(f:Int)) zA rfl ?_
  refine rA (dn (vX (rM (dn ?_))))
  generalize ha2:Act.put (Act.put (Act.put (Act.put (Act.put a1 _ _) _ _) _ _) _ _) _ _=a2
  have hf2:Fr (fun k=>k<9) a1 a2:=by
   subst ha2
   exact (((((Fr.refl _ a1).put _ zH).put _ zH).put _ zH).put _ zH).put _ zH
  have h92:a2.eval (.tmp 9)=.bool (decide ((ver:Int) ≥ (f:Int))):=by subst ha2;exact zE
  have hs2:=hf2.size
  clear ha2
  have:=rf_flds H HK hT (m:=m) (ver:=ver) (mb:=mb) (rb:=rb) (sb:=sb) (B:=B) (t2:=t1+5+3) (ev:=ev) (a:=a2) (w:=w) (st:=st) hok htx zH (by rw[hs2,hs1];omega) (by rw[hf2.defers,hf1.defers];exact hdf)
   (by rw[hf2.slot 0 zH,hf1.slot 0 zH];exact h0) (by rw[hf2.slot 2 zH,hf1.slot 2 zH];exact h2) (by rw[hf2.slot 7 zH,hf1.slot 7 zH];exact h7) (by rw[hf2.slot 8 zH];exact hv1)
   (fun g hg=>by
    simp only[Msg.rx,hfx,Option.map_some,Option.some.injEq] at hg
    subst hg
    rw[h92]
    simp only[Msg.isFlex,hfx]
    congr 1
    simp) hr he her hev hc hf hm1 hm2 hm3 hmB hrB hB
  simp only[List.append_assoc,List.cons_append,List.nil_append] at this
  exact this
def Msg.rtop (m:Msg):Nat:=m.rlocals+4+(if m.kept then 4 else 0)+5+(match m.flex with | none=>0 | some _=>3)+1+m.fs.rt m.rx+1
def Msg.rver (m:Msg) (ver:Nat) (l:List UInt8):Int:=if m.kept then sgn 2 (rdN 2 (l,false)).1 else ver
def Msg.rst (m:Msg) (l:List UInt8):RSt:=if m.kept then (rdN 2 (l,false)).2 else (l,false)
def RFD (m:Msg) (T:List (Nat × List UInt8)->Prop) (ev:Value) (ver mb sb:Nat) (l:List UInt8) (w w':World) (v:Value):Prop :=
 v=(if (m.rdv ver (m.rst l)).2.2.2 then ev else .nilIface)/\Eff (fun k _=>k=mb) w w' ∧
 ((m.rdv ver (m.rst l)).2.2.2=false->∃ cs,cs.length=m.fs.size/\qb w' mb 0 (.int .i16 (ver:Int)::cs)/\m.fs.Rep w' ⟨sb,T⟩ 0 cs (m.rdv ver (m.rst l)).1 (m.rdv ver (m.rst l)).2.1)
theorem c_readFrom (H:EnvR P E T) (HX:EnvRX P E) (HK:E.rTags≠0->EnvRK P E T) (hT:T []) {m:Msg} {RF:FuncId} {np nt npd ntd:Nat} (ht:Text P RF np nt #[.tmp 6] (m.rcode E)) (hn:m.rtop<=nt) (hd:Text P m.FD npd ntd #[] (dcode E m.TP m.TU 1 m.fs)) (hnd:2+m.fs.dn+m.fs.dt<=ntd) (hokd:m.fs.okD P E m.TU 1 1=true) (hok:m.fs.okR P E m.rx m.TU 1 1=true) (htx:m.fs.txR P E) (h00:qh P m.TU 0=some 0) (hk16:m.kept=true->E.rI16≠0) {ver0 mb:Nat} {sv:Value} (hver:m.rver ver0 l=(ver:Int)) (hc:qb w mb 0 (.int .i16 (ver0:Int)::m.fs.dz)) (hf:∀ i,i<m.fs.size+1->qr w mb i) (hs:je w sb sv l) (hsb:sb<w.heap.size) (hl:l.length<=big) (he:w.cell? ⟨E.vErr,0,none⟩=some ev) (hev:∃ u z,ev=.iface u z) (hm2:mb≠sb) (hm3:mb≠E.vErr):
  qa P RF #[.pointer (some ⟨mb,0,none⟩),sv,.bool false] w fun v w'=>RFD m T ev ver mb sb l w w' v:=by
 have hrl:m.rlocals=m.rs+1+m.fs.rn:=rfl
 have hrs9:9<=m.rs:=by show 9<=(match m.flex with | none=>9 | some _=>10);cases m.flex<;>simp
 have hnt:m.rlocals+4+(if m.kept then 4 else 0)+5+(match m.flex with | none=>0 | some _=>3)+1+m.fs.rt m.rx+1<=nt:=hn
 have hmb:mb<w.heap.size:=(hf 0 zH).lt
 refine qa.enter ht (by simp;omega) ?_
 intro a hsz hdf harg
 have e0:=harg 0 (.pointer (some ⟨mb,0,none⟩)) zS
 have e1:=harg 1 sv zS
 have e2:=harg 2 (.bool false) zS
 obtain ⟨zr,hzr,hzrc⟩:=xO HX.rd
 rw[rcode_eq]
 simp only[List.cons_append,List.nil_append]
 refine vX (rA (dn (vX (rM ?_))))
 have hcz:qb w mb (0+1) m.fs.dz:=hc.dp (n:=1)
 refine q8 (args:=#[.pointer (some ⟨mb,0,none⟩)]) ?_ (c_dflt (b:=mb) (o:=0) (off:=1) (cs:=m.fs.dz) hd hnd hokd (Flds.dz_len _) hcz (fun i hi=>by have:=hf (i+1) zH;rwa [show 0+1+i=i+1 by omega])) ?_
 ·simp only[lM]
  simp (disch:=(try simp only[sP]);omega) only[eV,e0]
 rintro v1 w1 ⟨hE1,hc1⟩
 rw[Flds.over_dz] at hc1
 refine dn ?_
 have hz1:=hE1.size
 refine vX (rM ?_)
 have hs1:je w1 sb sv l:=hs.heap (hE1.blockEq hsb (by rintro i ⟨h,_⟩;exact hm2 h.symm))
 have hsv1:=hs.one
 have hsvc:sv.cells=#[sv]:=by
  obtain ⟨ad,cap,rfl,_⟩:=hs.form
  rfl
 generalize hA:Act.put _ (some (m.rlocals+2)) _=A
 have hfA:Fr (fun k=>k=0\/k=1\/k=2) a A:=by
  subst hA
  exact ((((Fr.refl _ a).put _ zH).put _ zH).put _ zH).put _ zH
 have hAv:A.eval (.tmp (m.rlocals+2))=sv:=by subst hA;exact zA
 have hsA:=hfA.size
 clear hA
 refine zp (cells:=#[sv,.bool false]) HX.rd ?_ ?_
 ·simp[Instr.fill,hAv,hsvc]
 refine qR hzr ?_
 have hfree:∀ i,i < [sv,Value.bool false].length->qr (w1.alloc (.cells zr.cells E.tRd)) w1.heap.size (0+i):=by
  intro i hi
  rw[Nat.zero_add]
  exact qq w1 _ _ (by rw[hzrc];simpa using hi)
 refine qy (b:=w1.heap.size) (o:=0) (cs:=[sv,.bool false]) zE zE (by intro v hv;simp only[List.mem_cons,List.not_mem_nil,or_false] at hv;rcases hv with rfl | rfl;exact hsv1;rfl) HX.rdA hfree ?_
 refine dn ?_
 have hcb:qb (setCells (w1.alloc (.cells zr.cells E.tRd)) w1.heap.size 0 [sv,.bool false]) w1.heap.size 0 [sv,.bool false] :=
  fun i v hv=>qg _ _ _ _ (fun j hj=>(hfree j hj).1) i v hv
 have hE2:=qe w1.heap.size [sv,.bool false] (w1.alloc (.cells zr.cells E.tRd)) 0
 have hb2:Below w1.heap.size w1 (setCells (w1.alloc (.cells zr.cells E.tRd)) w1.heap.size 0 [sv,.bool false]) :=
  ((Below.refl w1.heap.size w1).alloc (o:=.cells _ _) (Nat.le_refl _)).trans (hE2.below zS (by rintro k i hk ⟨rfl,_,_⟩;omega))
 have hz2:w1.heap.size<(setCells (w1.alloc (.cells zr.cells E.tRd)) w1.heap.size 0 [sv,.bool false]).heap.size:=by
  have:=hE2.size
  simp at this
  omega
 have hfr2:∀ i,i<2->qr (setCells (w1.alloc (.cells zr.cells E.tRd)) w1.heap.size 0 [sv,.bool false]) w1.heap.size i:=fun i hi=>by
  have:=(hfree i (by simpa using hi)).eff hE2
  rwa [Nat.zero_add] at this
 generalize setCells (w1.alloc (.cells zr.cells E.tRd)) w1.heap.size 0 [sv,.bool false]=w2 at *
 generalize hrb:w1.heap.size=rb at *
 generalize ha2:Act.put _ (some 7) _=a2
 have hf2:Fr (fun k=>k=0\/k=1\/k=2) a a2:=by
  subst ha2
  exact (hfA.put _ zH).put _ zH
 have h27:a2.eval (.tmp 7)=.pointer (some ⟨rb,0,none⟩):=by subst ha2;exact zE
 have hs2z:=hf2.size
 clear ha2
 have hrd:RdS w2 rb sb (l,false):=⟨by omega,by omega,⟨sv,hcb,hs1.heap (hb2.block sb zH)⟩,hfr2 0 zH,hfr2 1 zH,hl⟩
 have hbw:Below w1.heap.size w1 w2:=by rw[hrb];exact hb2
 have hE02:Eff (fun k _=>k=mb) w w2:=(hE1.mono (fun k i _ h=>h.1)).trans (Eff.of_below hbw)
 have hev2:w2.cell? ⟨E.vErr,0,none⟩=some ev:=hE02.cellSome he (by rintro h;exact hm3 h.symm)
 have hevlt:E.vErr<w.heap.size:=qi he
 have hc2:qb w2 mb 1 m.fs.dz:=hc1.below hb2 zH
 have hv2:w2.cell? ⟨mb,0,none⟩=some (.int .i16 (ver0:Int)):=by
  have:=hc 0 (.int .i16 (ver0:Int)) zS
  have:=hE1.cellSome this (by rintro ⟨_,h,_⟩;omega)
  rw[hb2.cell (p:=⟨mb,0,none⟩) (show mb<rb by omega)]
  exact this
 have hfm2:∀ i,i<m.fs.size+1->qr w2 mb i:=fun i hi=>(hf i hi).eff hE02
 have fin:∀ (t1:Nat) (a3:Act) (w3:World),m.rlocals<=t1->t1+5+(match m.flex with | none=>0 | some _=>3)+1+m.fs.rt m.rx+1<=nt->Fr (fun k=>k=0\/k=1\/k=2\/k=7) a2 a3->RdS w3 rb sb (m.rst l)->w3.cell? ⟨mb,0,none⟩=some (.int .i16 (ver:Int)) →
   Eff (fun k i=>RM rb k i\/(k=mb/\i<1)) w2 w3->vc P (sq (m.rtail E t1)) (Out P #[.tmp 6] fun v w'=>RFD m T ev ver mb sb l w w' v) a3 w3:=by
  intro t1 a3 w3 h1 h2 h3 h4 h5 h6
  have hz3:=h6.size
  refine xi _ (rf_tail H HX HK hT (m:=m) (ver:=ver) (mb:=mb) (rb:=rb) (sb:=sb) (B:=rb+1) (t1:=t1) (ev:=ev) (a:=a3) (w:=w3) (st:=m.rst l) hok htx h00 h1 (by rw[h3.size,hs2z,hsz];exact h2) (by rw[h3.defers,hf2.defers];exact hdf)
   (by rw[h3.slot 0 zH,hf2.slot 0 zH];exact e0) (by rw[h3.slot 2 zH,hf2.slot 2 zH];exact e2) (by rw[h3.slot 7 zH];exact h27) h5 h4 (h6.cellSome hev2 (by rintro (⟨h,_⟩ | ⟨h,_⟩);omega;exact hm3 h.symm)) zH hev
   (hc2.eff h6 (by rintro i hi (⟨h,_⟩ | ⟨_,h⟩)<;>omega)) (fun i hi=>(hfm2 (1+i) zH).eff h6) zH hm2 hm3 zH zH zH) ?_
  have key:∀ v w',RFC m T ev ver mb rb sb (rb+1) (m.rst l) w3 w' v->RFD m T ev ver mb sb l w w' v:=by
   rintro v w' ⟨g1,g2,g3⟩
   refine ⟨g1,?_,fun h=>?_⟩
   ·refine (hE02.trans' h6 ?_).trans' g2 ?_
    ·rintro k i hk (⟨h,_⟩ | ⟨h,_⟩)
     ·omega
     ·exact h
    ·rintro k i hk (⟨h,_⟩ | ⟨h,_⟩)
     ·omega
     ·exact h
   ·obtain ⟨cs,k1,k2,k3⟩:=g3 h
    refine ⟨cs,k1,?_,Flds.Rep.eff (Eff.refl (fun _ _=>False) w') (fun _ h=>h) m.fs (rb+1) 0 cs _ _ (fun _ _ _ _ h=>h) (Nat.zero_le _) k3⟩
    have h0:=g2.cellSome h5 (by rintro (⟨h,_⟩ | ⟨_,h,_⟩)<;>omega)
    intro i u hu
    cases i with
    | zero=>simp only[List.getElem?_cons_zero,Option.some.injEq] at hu;subst hu;exact h0
    | succ i =>
     simp only[List.getElem?_cons_succ] at hu
     have:=k2 i u hu
     rwa [show 1+i=0+(i+1) by omega] at this
  intro e a w' h
  cases e<;>first | exact ⟨h.1,let ⟨v,hv,hs⟩:=h.2;⟨v,hv,key v w' hs⟩⟩ | exact h
 cases hk:m.kept with
 | false =>
  simp only[hk,Bool.false_eq_true,if_false,List.nil_append] at hnt ⊢
  have hv:ver0=ver:=by
   have:(ver0:Int)=(ver:Int):=by simpa [Msg.rver,hk] using hver
   omega
  subst hv
  exact fin _ a2 w2 zH zH (Fr.refl _ _) (by simp only[Msg.rst,hk,Bool.false_eq_true,if_false];exact hrd) hv2 (Eff.refl _ _)
 | true =>
  simp only[hk,if_true,List.cons_append,List.nil_append] at hnt ⊢
  have hv:sgn 2 (rdN 2 (l,false)).1=(ver:Int):=by simpa [Msg.rver,hk] using hver
  have hst:m.rst l=(rdN 2 (l,false)).2:=by simp[Msg.rst,hk]
  refine vX (rM ?_)
  refine q8 (args:=#[.pointer (some ⟨rb,0,none⟩)]) ?_ (H.scal .i16 (hk16 hk) rb sb (l,false) w2 hrd) ?_
  ·simp only[lM]
   simp (disch:=(try simp only[sP]);omega) only[eV,h27]
  rintro v w3 ⟨⟨hv3,hvo⟩,hr3,hE3⟩
  have hv3':v=.int .i16 (ver:Int):=by rw[hv3,← hv];rfl
  subst hv3'
  refine xe (ad:=⟨mb,0,none⟩) (by simp (disch:=(try simp only[sP]);omega) only[eV,hf2.slot 0 zH,e0]) ?_
  refine rF (b:=mb) (o:=0) zE h00 ?_
  have hf3:qr w3 mb (0+0):=(hfm2 0 zH).eff hE3
  refine xC (b:=mb) (o:=0+0) (v:=.int .i16 (ver:Int)) zE zE rfl HX.i16 hf3 ?_
  refine dn ?_
  have hE4:Eff (fun k i=>k=mb/\i<1) w3 (w3.setCell ⟨mb,0+0,none⟩ (.int .i16 (ver:Int))):=(Eff.refl _ w3).setCell _ _ _ (fun _=>⟨rfl,by omega⟩)
  refine fin _ _ _ zH zH ((((Fr.refl _ a2).put _ zH).put _ zH |>.put _ zH).put _ zH) ?_ (qo _ hf3.1) ((hE3.mono (fun k i _ h=>.inl h)).trans (hE4.mono (fun k i _ h=>.inr h)))
  rw[hst]
  exact (show RdS w3 rb sb (rdN 2 (l,false)).2 from hr3).keep hE4 (by rintro i ⟨h,_⟩;omega) (by rintro i ⟨h,_⟩;exact hm2 h.symm)
def ReadC (P:Program) (E:Env) (T:List (Nat × List UInt8)->Prop) (m:Msg) (f:FuncId):Prop :=
 ∀ (ver ver0 mb sb:Nat) (ev sv:Value) (l:List UInt8) (w:World),m.rver ver0 l=(ver:Int)->qb w mb 0 (.int .i16 (ver0:Int)::m.fs.dz)->(∀ i,i<m.fs.size+1->qr w mb i)->je w sb sv l->sb<w.heap.size->l.length<=big →
  w.cell? ⟨E.vErr,0,none⟩=some ev->(∃ u z,ev=.iface u z)->mb≠sb->mb≠E.vErr->qa P f #[.pointer (some ⟨mb,0,none⟩),sv] w fun v w'=>RFD m T ev ver mb sb l w w' v
def c_rfw (E:Env) (m:Msg) (RF:FuncId):Code :=
 sq [rg [qc 4 (.const .nilIface) E.tErr],rg [qd 5 (.tmp 0) m.TP,qd 6 (.tmp 1) E.tB,xj (some 7) RF #[.tmp 5,.tmp 6,.const (.bool false)] #[m.TP,E.tB,E.tO] E.tErr,qc 4 (.tmp 7) E.tErr],.ret]
def Msg.wdat (m:Msg) (ver:Nat) (ds:List D):List D:=if m.kept then .int ver::ds else ds
def Msg.out (m:Msg) (ver:Nat) (ds:List D) (tags:List (Nat × List UInt8)):List UInt8:=m.wfs.wr (m.isFlex ver) ver (m.wdat ver ds) tags
def Msg.back (m:Msg) (ver:Nat) (l:List UInt8):Option (List UInt8) :=
 if (m.rdv ver (m.rst l)).2.2.2 then none else some (m.out ver (m.rdv ver (m.rst l)).1 (m.rdv ver (m.rst l)).2.1)
def BackV (E:Env) (o:Option (List UInt8)) (W w':World) (r:Value):Prop :=
 Below W.heap.size W w'/\match o with
 | none=>r=.tuple #[.slice none 0 0,.bool false]
 | some l=>∃ x,r=.tuple #[x,.bool true]/\w'.ownsRow W.heap.size E.tU8 1 x l.length (l.map bv)
structure MR where
 newPtr:FuncId
 setV:FuncId
 app:FuncId
 rd:FuncId
 rdi:FuncId
 again:FuncId
def c_again (E : Env) (m : Msg) (N : MR) : Code :=
  sq [rg [qc 4 (.const (.slice none 0 0)) E.tB, qc 5 (.const (.bool false)) E.tO],
    rg [xj (some 7) N.newPtr #[] #[] m.TP, qc 6 (.tmp 7) m.TP],
    rg [qd 8 (.tmp 6) m.TP, qd 9 (.tmp 0) E.tI, vy 10 E.tI E.tI16 (.tmp 9), xj (some 11) N.setV #[.tmp 8, .tmp 10] #[m.TP, E.tI16] 0],
    sq [rg [qd 12 (.tmp 6) m.TP, qd 13 (.tmp 1) E.tB, xR 14 .append #[.const (.slice none 0 0), .tmp 13] #[E.tB, E.tB] E.tB, xj (some 15) N.rd #[.tmp 12, .tmp 14] #[m.TP, E.tB] E.tErr,
        zZ 16 .neq E.tErr (.tmp 15) (.const .nilIface) E.tErr E.tO],
      .cond (.tmp 16) (sq [rg [qc 4 (.const (.slice none 0 0)) E.tB, qc 5 (.const (.bool false)) E.tO], .ret]) .skip],
    rg [qd 17 (.tmp 6) m.TP, xj (some 18) N.app #[.tmp 17, .const (.slice none 0 0)] #[m.TP, E.tB] E.tB, qc 4 (.tmp 18) E.tB, qc 5 (.const (.bool true)) E.tO],
    .ret]
theorem c_rfw_ok (H:EnvR P E T) (HX:EnvRX P E) (HK:E.rTags≠0->EnvRK P E T) (hT:T []) {m:Msg} {RF f:FuncId} {np nt npr ntr npd ntd:Nat} (ht:Text P f np nt #[.tmp 4] (c_rfw E m RF)) (hn:8<=nt) (htr:Text P RF npr ntr #[.tmp 6] (m.rcode E)) (hnr:m.rtop<=ntr) (hd:Text P m.FD npd ntd #[] (dcode E m.TP m.TU 1 m.fs)) (hnd:2+m.fs.dn+m.fs.dt<=ntd) (hokd:m.fs.okD P E m.TU 1 1=true) (hok:m.fs.okR P E m.rx m.TU 1 1=true) (htx:m.fs.txR P E) (h00:qh P m.TU 0=some 0) (hk16:m.kept=true->E.rI16≠0):ReadC P E T m f:=by
 intro ver ver0 mb sb ev sv l w h1 h2 h3 h4 h5 h6 h7 hev h8 h9
 refine qa.enter ht (by simp;omega) ?_
 intro a hsz hdf harg
 have e0:=harg 0 (.pointer (some ⟨mb,0,none⟩)) zS
 have e1:=harg 1 sv zS
 unfold c_rfw
 refine vX (rA (dn (vX (rM (rM ?_)))))
 refine q8 (args:=#[.pointer (some ⟨mb,0,none⟩),sv,.bool false]) ?_ (c_readFrom H HX HK hT htr hnr hd hnd hokd hok htx h00 hk16 h1 h2 h3 h4 h5 h6 h7 hev h8 h9) ?_
 ·simp only[lM]
  simp (disch:=(try simp only[sP]);omega) only[eV,e0,e1]
 intro v w' hS
 refine rA (dn (vS (vT ?_)))
 exact ⟨by simp only[dF];exact hdf,v,rO zE,hS⟩
theorem kI {B':Nat} (h:W.ownsRow B e s v n xs) (hB:B'<=B):W.ownsRow B' e s v n xs:=by
 refine ⟨h.1,?_⟩
 rcases h.2 with h | ⟨g,cap,cur,h1,h2,h3⟩
 ·exact .inl h
 ·exact .inr ⟨g,cap,cur,h1,Nat.le_trans hB h2,h3⟩
theorem xA.below (h:xA w v l) (hb:Below B w w') (hB:B=w.heap.size:=by rfl):xA w' v l:=by
 rcases h with h | ⟨q,o,cap,hv,hc⟩
 ·exact .inl h
 ·refine .inr ⟨q,o,cap,hv,fun i u hu=>?_⟩
  have h1:=hc i u hu
  rw[hb.cell (p:=⟨q,o+i,none⟩) (show q<B by rw[hB];exact qi h1)]
  exact h1
theorem xA.src {t:TypeId} (h:xA w v l) (ht:xK P t=some (e,1)):Src P 1 t v l.length (l.map bv) w:=by
 rcases h with ⟨rfl,rfl⟩ | ⟨q,o,cap,rfl,hc⟩
 ·exact gx ht
 ·exact zh ht hc zS (xH l)
theorem own_src {d:Nat} (h:w.ownsRow U e 1 v l.length (l.map bv)) (hd:d<w.heap.size) (hdU:d<U):∃ sb,je w sb v l/\sb<w.heap.size/\(sb=d\/U<=sb):=by
 have hr:=xA.of_own h
 rcases h.2 with ⟨rfl,h0⟩ | ⟨g,cap,cur,rfl,hbg,hg,hnc,hcm,hcs,htake⟩
 ·exact ⟨d,.inl ⟨rfl,List.eq_nil_of_length_eq_zero h0⟩,hd,.inl rfl⟩
 ·have hlt:g<w.heap.size:=(Array.getElem?_eq_some_iff.1 hg).1
  refine ⟨g,.inr ⟨0,cap,rfl,hnc,?_⟩,hlt,.inr hbg⟩
  rcases hr with ⟨h,_⟩ | ⟨q,o,cap',h,hc⟩
  ·cases h
  ·cases h
   exact hc
theorem wrap_i16n (h:n<32768):IntKind.i16.wrap (n:Int)=(n:Int):=by
 have h2:(2:Int) ^ 16=65536:=by decide
 have h3:(2:Int) ^ (16-1)=32768:=by decide
 simp only[IntKind.wrap,IntKind.bits,IntKind.signed,Bool.true_and,decide_eq_true_eq,h2,h3]
 split<;>omega
theorem rf_out (HW:EnvW P E T) (HI:EnvI P E) {m:Msg} {f:FuncId} {np nt:Nat} (ha:Text P f np nt #[.tmp 4] (m.wcode E)) (hna:m.wtop<=nt) (hokw:m.okW P E=true) {mb:Nat} (hv:ver<32768) (h:RFD m T ev ver mb sb l w w' v) (hnb:(m.rdv ver (m.rst l)).2.2.2=false) (hb:(m.out ver (m.rdv ver (m.rst l)).1 (m.rdv ver (m.rst l)).2.1).length<=big):
  qa P f #[.pointer (some ⟨mb,0,none⟩),.slice none 0 0] w' fun x w2=>w2.ownsRow w'.heap.size E.tU8 1 x (m.out ver (m.rdv ver (m.rst l)).1 (m.rdv ver (m.rst l)).2.1).length ((m.out ver (m.rdv ver (m.rst l)).1 (m.rdv ver (m.rst l)).2.1).map bv)/\Below w'.heap.size w' w2:=by
 obtain ⟨_,_,h3⟩:=h
 obtain ⟨cs,k1,k2,k3⟩:=h3 hnb
 have hver:w'.cell? ⟨mb,0,none⟩=some (.int .i16 (ver:Int)):=by simpa using k2 0 (.int .i16 (ver:Int)) zS
 unfold Msg.out at hb ⊢
 cases hk:m.kept with
 | false =>
  have hwfs:m.wfs=m.fs:=by simp[Msg.wfs,hk]
  have hwi:m.wi=1:=by simp[Msg.wi,hk]
  refine appendTo (sb:=⟨sb,T⟩) (cs:=cs) (B:=0) HW HI ha hna hokw hver ?_ ?_ hb
  ·rw[hwi]
   exact k2.dp (n:=1)
  ·rw[hwfs]
   simpa [Msg.wdat,hk] using k3
 | true =>
  have hwfs:m.wfs=.cons .all (.scal .i16 0) m.fs:=by simp[Msg.wfs,hk]
  have hwi:m.wi=0:=by simp[Msg.wi,hk]
  refine appendTo (sb:=⟨sb,T⟩) (cs:=.int .i16 (ver:Int)::cs) (B:=0) HW HI ha hna hokw hver ?_ ?_ hb
  ·rw[hwi]
   exact k2
  ·rw[hwfs]
   simp only[Msg.wdat,hk,if_true,Flds.Rep,Ty.size,List.take_succ_cons,List.take_zero,List.drop_succ_cons,List.drop_zero]
   exact ⟨⟨rfl,by show (-32768:Int)<=_/\_;omega⟩,k3,trivial⟩
theorem c_again_ok (HW:EnvW P E T) (HI:EnvI P E) (HB:xo P E.tB E.tU8 1=true) (i16:qu P E.tI16=some .i16) (ii:qu P E.tI=some .i64) (o16:qW P E.tI16=true) (oE:jH P E.tErr=true) {m:Msg} {N:MR} {np nt nps nts npa nta:Nat} (ht:Text P N.again np nt #[.tmp 4,.tmp 5] (c_again E m N)) (hn:19<=nt) (hN:NewC P N.newPtr m) (hs:Text P N.setV nps nts #[] (c_setV E m)) (hns:8<=nts) (ho:qh P m.TU 0=some 0) (hR:ReadC P E T m N.rd) (ha:Text P N.app npa nta #[.tmp 4] (m.wcode E)) (hna:m.wtop<=nta) (hokw:m.okW P E=true) (hk:m.kept=false) {sv:Value} (hv:ver<32768) (hsrc:∀ w',Below W.heap.size W w'->Src P 1 E.tB sv l.length (l.map bv) w') (hl:l.length<=big) (he:W.cell? ⟨E.vErr,0,none⟩=some ev) (hev:∃ u z,ev=.iface u z) (hb:∀ x,m.back ver l=some x->x.length<=big):qa P N.again #[.int .i64 ver,sv] W fun r w'=>BackV E (m.back ver l) W w' r:=by
 refine qa.enter ht (by simp;omega) ?_
 intro a hsz hdf harg
 have e0:=harg 0 (.int .i64 ver) zS
 have e1:=harg 1 sv zS
 have hevlt:E.vErr<W.heap.size:=qi he
 unfold c_again
 refine vX (rA (rA (dn (vX ?_))))
 refine q8 (args:=#[]) zS (hN W) ?_
 rintro v w1 ⟨rfl,hb1,hz1,hc1,hf1⟩
 refine rA (dn (vX (rM (rM ?_))))
 refine qY (k:=.i64) (k':=.i16) (m:=(ver:Int)) ii i16 zA ?_
 rw[wrap_i16n hv]
 refine q8 (args:=#[.pointer (some ⟨W.heap.size,0,none⟩),.int .i16 ver]) ?_ (c_setV_ok hs hns ho o16 (hf1 0 zH)) ?_
 ·simp only[lM]
  exact zE
 rintro v w2 rfl
 refine dn ?_
 have hb2:Below W.heap.size W (w1.setCell ⟨W.heap.size,0,none⟩ (.int .i16 ver)):=hb1.setCell (p:=⟨W.heap.size,0,none⟩) (Nat.le_refl _) _
 have hc2:qb (w1.setCell ⟨W.heap.size,0,none⟩ (.int .i16 ver)) W.heap.size 0 (.int .i16 (ver:Int)::m.fs.dz):=by
  intro i v hv
  cases i with
  | zero =>
   simp only[List.getElem?_cons_zero,Option.some.injEq] at hv
   subst hv
   exact qo _ (hf1 0 zH).1
  | succ i =>
   rw[xP _ (.inr zH)]
   exact hc1 (i+1) v (by simpa using hv)
 have hf2:∀ i,i<m.fs.size+1->qr (w1.setCell ⟨W.heap.size,0,none⟩ (.int .i16 ver)) W.heap.size i:=fun i hi=>(hf1 i hi).eff ((Eff.refl (fun k _=>k=W.heap.size) w1).setCell _ _ _ (fun _=>rfl))
 have hz2:W.heap.size<(w1.setCell ⟨W.heap.size,0,none⟩ (.int .i16 ver)).heap.size:=by simpa using hz1
 generalize w1.setCell ⟨W.heap.size,0,none⟩ (.int .i16 ver)=w2 at *
 generalize ha1:Act.put _ (some 11) _=a1
 have hf3:Fr (fun k=>k=0\/k=1) a a1:=by
  subst ha1
  exact ((((((((Fr.refl _ a).put _ zH).put _ zH).put _ zH).put _ zH).put _ zH).put _ zH).put _ zH).put _ zH
 have h6:a1.eval (.tmp 6)=.pointer (some ⟨W.heap.size,0,none⟩):=by subst ha1;exact zE
 have h11:a1.eval (.tmp 1)=sv:=by rw[hf3.slot 1 (.inr rfl)];exact e1
 have hsz1:=hf3.size
 have hdf1:=hf3.defers
 clear ha1
 refine vS (vX (rM (rM ?_)))
 refine xD (U:=w2.heap.size) (v:=.slice none 0 0) (n:=0) (xs:=[]) (u:=sv) (m:=l.length) (news:=l.map bv) HB rfl zA (World.ownsRow_nil _ _ _ _) (Nat.le_refl _) (hsrc _ hb2) zH ?_
 intro v3 w3 hown3 hb3
 rw[Nat.zero_add,List.nil_append] at hown3
 have hb03:Below W.heap.size W w3:=hb2.trans (hb3.mono (Nat.le_of_lt hz2))
 have hev3:w3.cell? ⟨E.vErr,0,none⟩=some ev:=by rw[hb03.cell (p:=⟨E.vErr,0,none⟩) hevlt];exact he
 have hz3:=hb3.size
 obtain ⟨sb,hsv,hsb,hsbc⟩:=own_src (d:=E.vErr) hown3 zH zH
 have hc3:qb w3 W.heap.size 0 (.int .i16 (ver:Int)::m.fs.dz):=hc2.below hb3 hz2
 have hf3':∀ i,i<m.fs.size+1->qr w3 W.heap.size i:=fun i hi=>(hf2 i hi).eff (Eff.of_below (M:=fun _ _=>False) hb3)
 have hrst:m.rst l=(l,false):=by simp[Msg.rst,hk]
 refine q8 (args:=#[.pointer (some ⟨W.heap.size,0,none⟩),v3]) ?_ (hR ver ver W.heap.size sb ev v3 l w3 (by simp[Msg.rver,hk]) hc3 hf3' hsv hsb hl hev3 hev zH zH) ?_
 ·simp only[lM]
  simp (disch:=(try simp only[sP]);omega) only[eV,h6]
 intro x w4 hx
 have hbw4:Below W.heap.size W w4:=hb03.trans (hx.2.1.below zH (by rintro k i hk rfl;omega))
 have hz4:=hx.2.1.size
 have hxv:=hx.1
 refine kU (v:=x) oE zE (by rw[hxv];split;exact .inr hev;exact .inl rfl) ?_
 refine dn ?_
 have hcv:isErr x=(m.rdv ver (m.rst l)).2.2.2:=by
  rw[hxv]
  obtain ⟨u,z,rfl⟩:=hev
  cases (m.rdv ver (m.rst l)).2.2.2<;>rfl
 rw[hcv]
 refine vS (vC (t:=(m.rdv ver (m.rst l)).2.2.2) zE ?_ ?_)
 ·intro h
  refine vX (rA (rA (dn (vS (vT ?_)))))
  refine ⟨by simp only[dF];rw[hdf1];exact hdf,.tuple #[.slice none 0 0,.bool false],qT zE zE,hbw4,?_⟩
  simp only[Msg.back,h,if_true]
 ·intro h
  refine vK (vN ?_)
  have hbk:m.back ver l=some (m.out ver (m.rdv ver (m.rst l)).1 (m.rdv ver (m.rst l)).2.1):=by simp[Msg.back,h]
  refine vX (rM ?_)
  refine q8 (args:=#[.pointer (some ⟨W.heap.size,0,none⟩),.slice none 0 0]) ?_ (rf_out HW HI ha hna hokw hv hx h (hb _ hbk)) ?_
  ·simp only[lM]
   simp (disch:=(try simp only[sP]);omega) only[eV,h6]
  rintro y w5 ⟨hy,hb5⟩
  refine rA (rA (dn (vS (vT ?_))))
  refine ⟨by simp only[dF];rw[hdf1];exact hdf,.tuple #[y,.bool true],qT zE zE,hbw4.trans (hb5.mono zH),?_⟩
  rw[hbk]
  exact ⟨y,rfl,kI hy zH⟩
end
theorem o8_toNat (n:Int):(UInt8.ofNat (n % 256).toNat).toNat=(n % 256).toNat:=by
 have h1:0<=n % 256:=Int.emod_nonneg _ (by decide)
 have h2:n % 256<256:=Int.emod_lt_of_pos _ (by decide)
 simp only[UInt8.toNat_ofNat']
 omega
theorem emod_mul' (n m:Int) (hm:0<m):n % (m*256)=n % m+m*(n / m % 256):=by
 have h1:=Int.mul_ediv_add_emod n m
 have h2:=Int.mul_ediv_add_emod (n / m) 256
 have h3:0<=n % m:=Int.emod_nonneg _ zH
 have h4:n % m<m:=Int.emod_lt_of_pos _ hm
 have h5:0<=n / m % 256:=Int.emod_nonneg _ (by decide)
 have h6:n / m % 256<256:=Int.emod_lt_of_pos _ (by decide)
 generalize n % m=s at *
 generalize n / m % 256=r at *
 generalize n / m / 256=q at *
 generalize n / m=p at *
 subst h2
 have e:n=(s+m*r)+(m*256)*q:=by
  rw[← h1,Int.mul_add,Int.mul_assoc]
  omega
 rw[e,Int.add_mul_emod_self_left]
 have h7:0<=m*r:=Int.mul_nonneg zH h5
 have h8:m*r<=m*255:=Int.mul_le_mul_of_nonneg_left zH zH
 exact Int.emod_eq_of_lt zH zH
theorem be_foldl:∀ (k:Nat) (n:Int) (acc:Nat),(be k n).foldl (fun n b=>n*256+b.toNat) acc=acc*256 ^ k+(n % (256 ^ k:Nat)).toNat
 | 0,n,acc=>by
  simp[be]
 | k+1,n,acc=>by
  simp only[be,List.foldl_cons]
  rw[be_foldl k n,o8_toNat]
  have hp:(0:Int)<((256 ^ k:Nat):Int):=by exact_mod_cast Nat.pow_pos (by decide)
  have e1:(256:Int) ^ k=((256 ^ k:Nat):Int):=by simp
  have e2:((256 ^ (k+1):Nat):Int)=((256 ^ k:Nat):Int)*256:=by rw[Nat.pow_succ];simp
  rw[e1,e2,Int.fdiv_eq_ediv_of_nonneg _ (Int.le_of_lt hp),emod_mul' _ _ hp]
  have h1:0<=n % ((256 ^ k:Nat):Int):=Int.emod_nonneg _ zH
  have h2:0<=n / ((256 ^ k:Nat):Int) % 256:=Int.emod_nonneg _ (by decide)
  generalize n % ((256 ^ k:Nat):Int)=x at *
  generalize n / ((256 ^ k:Nat):Int) % 256=y at *
  obtain ⟨x,rfl⟩:∃ m:Nat,x=m:=⟨x.toNat,by omega⟩
  obtain ⟨y,rfl⟩:∃ m:Nat,y=m:=⟨y.toNat,by omega⟩
  have e3:(x:Int)+((256 ^ k:Nat):Int)*(y:Int)=((x+256 ^ k*y:Nat):Int):=by simp
  rw[e3]
  simp only[Int.toNat_natCast]
  rw[Nat.add_mul,Nat.pow_succ,Nat.mul_comm (256 ^ k) y,Nat.mul_comm (256 ^ k) 256,Nat.mul_assoc]
  omega
theorem jO (k:Nat) (n:Int) (r:List UInt8):rdN k (be k n++r,false)=((n % (256 ^ k:Nat)).toNat,r,false):=by
 have hl:(be k n).length=k:=qO k n
 unfold rdN
 rw[if_neg (by show ¬ (be k n++r).length<k;rw[List.length_append,hl];omega)]
 have h1:(be k n++r).take k=be k n:=by
  have:=List.take_left (l₁:=be k n) (l₂:=r)
  rwa [hl] at this
 have h2:(be k n++r).drop k=r:=by
  have:=List.drop_left (l₁:=be k n) (l₂:=r)
  rwa [hl] at this
 show (beN ((be k n++r).take k),(be k n++r).drop k,false)=_
 rw[h1,h2]
 unfold beN
 rw[be_foldl k n 0]
 simp
theorem jp {n:Int} (hk:0<k) (h1:-(2 ^ (8*k-1):Nat)<=n) (h2:n<(2 ^ (8*k-1):Nat)):sgn k (n % (256 ^ k:Nat)).toNat=n:=by
 have e:(256:Nat) ^ k=2 ^ (8*k-1)+2 ^ (8*k-1):=by
  rw[show 256=2 ^ 8 from rfl,← Nat.pow_mul,← Nat.mul_two,← Nat.pow_succ]
  congr 1
  omega
 have e2:(2:Int) ^ (8*k)=((256 ^ k:Nat):Int):=by
  rw[show 256=2 ^ 8 from rfl,← Nat.pow_mul]
  simp
 unfold sgn
 rw[e2,e]
 have hp:0<2 ^ (8*k-1):=Nat.pow_pos (by decide)
 generalize 2 ^ (8*k-1)=m at *
 rcases Int.lt_or_le n 0 with hn | hn
 ·have:n % ((m+m:Nat):Int)=n+((m+m:Nat):Int):=by
   rw[← Int.add_emod_right,Int.emod_eq_of_lt zH zH]
  rw[this,if_neg zH]
  omega
 ·rw[Int.emod_eq_of_lt hn zH,if_pos zH]
  omega
theorem Scal.rd_wr {k:Scal} {n:Int} (h:k.ok n) (r:List UInt8):k.rd (k.wr n++r,false)=(n,r,false):=by
 cases k with
 | bool =>
  have:n=0\/n=1:=h
  rcases this with rfl | rfl
  ·rfl
  ·rfl
 | i8 =>
  have h:-128<=n/\n<=127:=h
  simp only[Scal.rd,Scal.wr,jO]
  rw[jp (k:=1) (by decide) (by simp;omega) (by simp;omega)]
 | i16 =>
  have h:-32768<=n/\n<=32767:=h
  simp only[Scal.rd,Scal.wr,jO]
  rw[jp (k:=2) (by decide) (by simp;omega) (by simp;omega)]
 | u16 =>
  have h:0<=n/\n<=65535:=h
  simp only[Scal.rd,Scal.wr,jO]
  rw[Int.emod_eq_of_lt zH (by simp;omega),Int.toNat_of_nonneg zH]
 | i32 =>
  have h:-2147483648<=n/\n<=2147483647:=h
  simp only[Scal.rd,Scal.wr,jO]
  rw[jp (k:=4) (by decide) (by simp;omega) (by simp;omega)]
 | i64 =>
  have h:-9223372036854775808<=n/\n<=9223372036854775807:=h
  simp only[Scal.rd,Scal.wr,jO]
  rw[jp (k:=8) (by decide) (by simp;omega) (by simp;omega)]
 | f64 =>
  have h:0<=n/\n<18446744073709551616:=h
  simp only[Scal.rd,Scal.wr,jO]
  rw[Int.toNat_of_nonneg h.1,Int.emod_eq_of_lt zH (by simp;omega),Int.toNat_of_nonneg h.1]
theorem uvF_one {f:Nat} (h:n<128):uvF (f+1) n=[UInt8.ofNat n]:=by simp[uvF,h]
theorem gk {f:Nat} (h:128<=n):uvF (f+1) n=UInt8.ofNat (n % 128+128)::uvF f (n / 128):=by
 have:¬ n<128:=by omega
 simp[uvF,this]
theorem u8n (h:n<256):(UInt8.ofNat n).toNat=n:=by
 simp only[UInt8.toNat_ofNat']
 omega
theorem uvDec_uvF:∀ (j f n acc:Nat) (r:List UInt8),j<=4->j<=f->n*2 ^ (7*(4-j))<4294967296->zf (4-j) acc (uvF (f+1) n++r)=some (acc+n*2 ^ (7*(4-j)),4-j+(uvF (f+1) n).length)
 | 0,f,n,acc,r,_,_,h=>by
  simp only[Nat.sub_zero] at h ⊢
  have e:(2:Nat) ^ (7*4)=268435456:=by decide
  have e2:(2:Nat) ^ 28=268435456:=by decide
  rw[e] at h
  have hn:n<128:=by omega
  rw[uvF_one hn]
  simp only[List.cons_append,List.nil_append,zf,if_true,u8n (show n<256 by omega),e,e2]
  rw[if_pos zH]
  rfl
 | j+1,f,n,acc,r,hj,hf,h=>by
  have hi:¬ (4-(j+1)=4):=by omega
  rcases Nat.lt_or_ge n 128 with hn | hn
  ·rw[uvF_one hn]
   simp only[List.cons_append,List.nil_append,zf,if_neg hi,u8n (show n<256 by omega),if_pos hn]
   rfl
  ·obtain ⟨f',rfl⟩:∃ f',f=f'+1:=⟨f-1,by omega⟩
   rw[gk hn]
   simp only[List.cons_append,zf,if_neg hi,u8n (show n % 128+128<256 by omega)]
   rw[if_neg zH]
   have e1:4-(j+1)+1=4-j:=by omega
   have e3:(n % 128+128) % 128=n % 128:=by omega
   have e4:(2:Nat) ^ (7*(4-j))=2 ^ (7*(4-(j+1)))*128:=by
    rw[show 7*(4-j)=7*(4-(j+1))+7 by omega,Nat.pow_add]
   have hd:n % 128+n / 128*128=n:=by omega
   have key:n % 128*2 ^ (7*(4-(j+1)))+n / 128*2 ^ (7*(4-j))=n*2 ^ (7*(4-(j+1))):=by
    rw[e4,Nat.mul_comm (2 ^ (7*(4-(j+1)))) 128,← Nat.mul_assoc,← Nat.add_mul,hd]
   rw[e1,e3,uvDec_uvF j f' (n / 128) _ r zH zH zH]
   simp only[Option.some.injEq,Prod.mk.injEq,List.length_cons]
   constructor
   ·omega
   ·omega
theorem j2 (h:n<4294967296) (r:List UInt8):qp (Go.Km.uvar n++r,false)=(n,r,false):=by
 have:=uvDec_uvF 4 8 n 0 r (by decide) (by decide) (by simpa using h)
 simp only[Nat.sub_self,Nat.mul_zero,Nat.pow_zero,Nat.mul_one,Nat.zero_add] at this
 unfold qp
 show (match zf 0 0 (uvF 9 n++r) with | none=>_ | some (v,k)=>_)=_
 rw[this]
 show (n,List.drop (uvF 9 n).length (uvF 9 n++r),false)=_
 rw[List.drop_left]
theorem uvF_le:∀ (f n k:Nat),n<2 ^ (7*(k+1))->(uvF f n).length<=k+1
 | 0,n,k,h=>by simp[uvF]
 | f+1,n,k,h=>by
  rcases Nat.lt_or_ge n 128 with hn | hn
  ·rw[uvF_one hn];simp
  ·rw[gk hn]
   cases k with
   | zero=>simp at h;omega
   | succ k =>
    have e:(2:Nat) ^ (7*(k+1+1))=2 ^ (7*(k+1))*128:=by rw[show 7*(k+1+1)=7*(k+1)+7 by omega,Nat.pow_add]
    have:=uvF_le f (n / 128) k (by rw[Nat.div_lt_iff_lt_mul (by decide)];omega)
    simp only[List.length_cons]
    omega
theorem wG:∀ (l:List UInt8) (i acc v n:Nat),acc<2 ^ (7*i)->i<=4->zf i acc l=some (v,n)->v<2 ^ (7*n)/\n<=i+l.length/\i<n
 | [],i,acc,v,n,_,_,h=>by cases h
 | b::r,i,acc,v,n,ha,hi,h=>by
  have hp:2 ^ (7*(i+1))=2 ^ (7*i)*128:=by rw[show 7*(i+1)=7*i+7 by omega,Nat.pow_add]
  have hmul:∀ x:Nat,x<128->acc+x*2 ^ (7*i)<2 ^ (7*(i+1)):=fun x hx=>by
   have:x*2 ^ (7*i)<=127*2 ^ (7*i):=Nat.mul_le_mul_right _ zH
   rw[hp]
   omega
  unfold zf at h
  split at h
  ·rename_i h4
   subst h4
   split at h
   ·rename_i hb
    simp only[Option.some.injEq,Prod.mk.injEq] at h
    obtain ⟨rfl,rfl⟩:=h
    simp only[List.length_cons]
    have:=hmul b.toNat zH
    exact ⟨by simpa using this,by omega,by omega⟩
   ·cases h
  ·split at h
   ·rename_i h1
    simp only[Option.some.injEq,Prod.mk.injEq] at h
    obtain ⟨rfl,rfl⟩:=h
    have:=hmul b.toNat h1
    simp only[List.length_cons]
    exact ⟨this,by omega,by omega⟩
   ·have:=wG r (i+1) _ v n (hmul (b.toNat % 128) (Nat.mod_lt _ (by decide))) zH h
    simp only[List.length_cons]
    exact ⟨this.1,by omega,by omega⟩
theorem jF (h:(qp st).2.2=false):(Go.Km.uvar (qp st).1).length+(qp st).2.1.length<=st.1.length:=by
 unfold qp at h ⊢
 cases hu:zf 0 0 st.1 with
 | none=>simp[hu] at h
 | some x =>
  obtain ⟨v,n⟩:=x
  obtain ⟨h1,h2,h3⟩:=wG st.1 0 0 v n (by decide) (by decide) hu
  obtain ⟨k,rfl⟩:∃ k,n=k+1:=⟨n-1,by omega⟩
  have:=uvF_le 9 v k h1
  simp only[List.length_drop]
  show (uvF 9 v).length+_<=_
  omega
def Ext {α:Type} (g:RSt->α × RSt):Prop:=∀ l m:List UInt8,(g (l,false)).2.2=false->g (l++m,false)=((g (l,false)).1,(g (l,false)).2.1++m,false)
theorem Ext.bind {α β:Type} {g:RSt->α × RSt} {f:α->RSt->β × RSt} (hg:Ext g) (hf:∀ x,Ext (f x)) (hm:∀ x st,(f x st).2.2=false->st.2=false):Ext fun st=>f (g st).1 (g st).2:=by
 intro l m h
 have h:(f (g (l,false)).1 (g (l,false)).2).2.2=false:=h
 have h1:=hm _ _ h
 have e:=hg l m h1
 show f (g (l++m,false)).1 (g (l++m,false)).2=((f (g (l,false)).1 (g (l,false)).2).1,(f (g (l,false)).1 (g (l,false)).2).2.1++m,false)
 rw[e]
 have e2:(g (l,false)).2=((g (l,false)).2.1,false):=Prod.ext rfl h1
 rw[e2] at h ⊢
 exact hf _ _ _ h
theorem Ext.map {α β:Type} {g:RSt->α × RSt} (hg:Ext g) (f:α->β):Ext fun st=>(f (g st).1,(g st).2):=by
 intro l m h
 show (f (g (l++m,false)).1,(g (l++m,false)).2)=_
 rw[hg l m h]
theorem Ext.pure {α:Type} (x:α):Ext fun st=>(x,st):=fun l m h=>rfl
def gv (fx:Bool) (l:List UInt8):Prop:=if fx then l.length+1<4294967296 else l.length<=32767
def vx (fx:Bool) (l:List UInt8):Prop:=if fx then l.length+1<4294967296 else l.length<2147483648
def kO (tags:List (Nat × List UInt8)):Prop:=gf tags/\tags.length<4294967296/\∀ x ∈ tags,x.2.length<4294967296
def Ver.okD (v:Ver) (fx:Bool) (dd g:Prop) (isD:Bool) (tags:List (Nat × List UInt8)):Prop :=
 match v with
 | .tag k _=>(if fx then g/\(isD=true->dd) else dd)/\∀ x ∈ tags,x.1≠k
 | _=>dd
theorem Ver.okD_no {v:Ver} (h:v.isTag=false) {dd g:Prop} {isD:Bool}:v.okD fx dd g isD tags ↔ dd:=by cases v<;>first | exact Iff.rfl | cases h
theorem Ver.has_noTag {v:Ver} (h:v.has ver=true):v.isTag=false:=by cases v<;>first | rfl | cases h
mutual
def Ty.good (fx:Bool) (ver:Nat):Ty->D->Prop
 | .scal s _,.int n | .named s _ _,.int n=>s.ok n
 | .uuid,.bytes (some l)=>l.length=16
 | .text,.bytes (some l)=>gv fx l
 | .ntext,.bytes none=>True
 | .ntext,.bytes (some l)=>gv fx l
 | .ntextFrom N,.bytes none=>N<=ver
 | .ntextFrom _,.bytes (some l)=>gv fx l
 | .bytes,.bytes (some l)=>vx fx l
 | .nbytes,.bytes none=>True
 | .nbytes,.bytes (some l)=>vx fx l
 | .list _ null _,.list none=>null=none\/∃ N,null=some N/\N<=ver
 | .list _ null e,.list (some l)=>(null=none->l≠[])/\l.length<2147483648/\∀ d ∈ l,e.good fx ver d
 | .struct _ _ _ fs,.obj l tags=>fs.good fx ver l tags
 | .nstruct _ _ _ _ _,.list none=>True
 | .nstruct _ _ _ fs _,.list (some [.obj l tags])=>fs.good fx ver l tags
 | _,_=>False
def Flds.good (fx:Bool) (ver:Nat):Flds->List D->List (Nat × List UInt8)->Prop
 | .nil _,[],tags=>if fx then kO tags else tags=[]
 | .cons v t r,d::l,tags=>(if v.has ver then t.good fx ver d else v.okD fx (d=t.dflt) (t.good fx ver d) (t.isD d) tags)/\r.good fx ver l (v.addTag fx (t.isD d) (t.wr fx ver d) tags)
 | _,_,_=>False
end
mutual
def Ty.pos (fx:Bool) (ver:Nat):Ty->Bool
 | .struct _ _ _ fs=>fs.pos fx ver
 | _=>true
def Flds.pos (fx:Bool) (ver:Nat):Flds->Bool
 | .nil _=>fx
 | .cons v t r=>(v.has ver&&t.pos fx ver)||r.pos fx ver
end
def Ty.dfG:Ty->Bool
 | .scal c df=>(c.rd (c.wr df,false)).1==df
 | .list _ none _=>true
 | t=>t.two
mutual
def Ty.lp (fx:Bool) (ver:Nat):Ty->Bool
 | .list _ _ e=>e.pos fx ver&&e.lp fx ver
 | .struct _ _ _ fs | .nstruct _ _ _ fs _=>fs.lp fx ver
 | _=>true
def Flds.lp (fx:Bool) (ver:Nat):Flds->Bool
 | .nil _=>true
 | .cons v t r=>((!v.has ver && !v.isTag)||t.lp fx ver)&&(!v.isTag||t.dfG)&&r.lp fx ver
end
theorem Scal.wr_pos (k:Scal) (n:Int):1<=(k.wr n).length:=by
 cases k<;>simp[Scal.wr,qO]
theorem jJ (n:Nat):1<=(Go.Km.uvar n).length:=yG 9 n
theorem vO (fx:Bool) (l:List UInt8):1<=(ze fx l).length:=by
 unfold ze
 cases fx
 ·simp[qO];omega
 ·have:=jJ (l.length+1)
  simp;omega
theorem wrBytes_pos (fx:Bool) (l:List UInt8):1<=(xn fx l).length:=by
 unfold xn
 cases fx
 ·simp[qO];omega
 ·have:=jJ (l.length+1)
  simp;omega
theorem wrLen_pos (fx:Bool) (n:Nat):1<=(zu fx n).length:=by
 unfold zu
 cases fx
 ·simp[qO]
 ·exact jJ _
theorem wrNull_pos (fx:Bool):1<=(jl fx).length:=by
 cases fx<;>simp[jl,qO]
mutual
theorem Ty.wr_pos (fx:Bool) (ver:Nat):∀ (t:Ty) (d:D),t.pos fx ver=true->t.good fx ver d->1<=(t.wr fx ver d).length
 | .scal s _,d,hp,h | .named s _ _,d,hp,h=>by
  cases d<;>simp only[Ty.good] at h
  simp only[Ty.wr]
  exact s.wr_pos _
 | .uuid,d,hp,h=>by
  cases d with
  | bytes o =>
   cases o<;>simp only[Ty.good] at h
   simp only[Ty.wr];omega
  | _=>simp only[Ty.good] at h
 | .text,d,hp,h=>by
  cases d with
  | bytes o =>
   cases o<;>simp only[Ty.good] at h
   simp only[Ty.wr];exact vO _ _
  | _=>simp only[Ty.good] at h
 | .ntext,d,hp,h=>by
  cases d with
  | bytes o =>
   simp only[Ty.wr]
   cases o with
   | none=>cases fx<;>simp[xV,qO]
   | some l=>exact vO _ _
  | _=>simp only[Ty.good] at h
 | .ntextFrom N,d,hp,h=>by
  cases d with
  | bytes o =>
   simp only[Ty.wr]
   split
   ·exact vO _ _
   ·cases o with
    | none=>cases fx<;>simp[xV,qO]
    | some l=>exact vO _ _
  | _=>simp only[Ty.good] at h
 | .bytes,d,hp,h=>by
  cases d with
  | bytes o=>simp only[Ty.wr];exact wrBytes_pos _ _
  | _=>simp only[Ty.good] at h
 | .nbytes,d,hp,h=>by
  cases d with
  | bytes o =>
   simp only[Ty.wr]
   cases o with
   | none=>cases fx<;>simp[xz,qO]
   | some l=>exact wrBytes_pos _ _
  | _=>simp only[Ty.good] at h
 | .list _ null e,d,hp,h=>by
  cases d with
  | list o =>
   cases o with
   | none =>
    simp only[Ty.wr]
    split
    ·exact wrNull_pos _
    ·exact wrLen_pos _ _
   | some l =>
    simp only[Ty.wr,List.length_append]
    have:=wrLen_pos fx l.length
    omega
  | _=>simp only[Ty.good] at h
 | .struct _ _ _ fs,d,hp,h=>by
  cases d with
  | obj l tags =>
   simp only[Ty.good] at h
   simp only[Ty.pos] at hp
   simp only[Ty.wr]
   exact Flds.wr_pos fx ver fs l tags hp h
  | _=>simp only[Ty.good] at h
 | .nstruct _ _ _ fs _,d,hp,h=>by
  cases d with
  | list o =>
   rcases o with _ | ⟨_ | ⟨d0,_ | ⟨d1,r⟩⟩⟩
   ·simp[Ty.wr]
   ·simp only[Ty.good] at h
   ·cases d0<;>simp only[Ty.good] at h
    simp[Ty.wr]
   ·cases d0<;>simp only[Ty.good] at h
  | _=>simp only[Ty.good] at h
theorem Flds.wr_pos (fx:Bool) (ver:Nat):∀ (fs:Flds) (l:List D) (tags:List (Nat × List UInt8)),fs.pos fx ver=true->fs.good fx ver l tags->1<=(fs.wr fx ver l tags).length
 | .nil _,l,tags,hp,h=>by
  simp only[Flds.pos] at hp
  subst hp
  simp only[Flds.wr,if_true,xU,List.length_append]
  have:=jJ tags.length
  omega
 | .cons v t r,[],tags,hp,h=>by simp[Flds.good] at h
 | .cons v t r,d::l,tags,hp,h=>by
  simp only[Flds.good] at h
  simp only[Flds.pos,Bool.or_eq_true,Bool.and_eq_true] at hp
  simp only[Flds.wr,List.length_append]
  rcases hp with ⟨hv,hp⟩ | hp
  ·simp only[hv,if_true] at h ⊢
   have:=Ty.wr_pos fx ver t d hp h.1
   omega
  ·have:=Flds.wr_pos fx ver r l _ hp h.2
   omega
end
theorem jN (l r:List UInt8):qt (l.length:Int) (l++r,false)=(l,r,false):=by
 unfold qt
 rw[if_neg (by simp;omega)]
 simp
theorem rdL_wr (h:if fx then n+1<4294967296 else n<=32767) (r:List UInt8):rdL fx ((if fx then Go.Km.uvar (n+1) else be 2 n)++r,false)=((n:Int),r,false):=by
 cases fx with
 | true =>
  simp only[if_true] at h ⊢
  simp only[rdL,if_true,j5,j2 h]
  congr 1
  omega
 | false =>
  simp only[Bool.false_eq_true,if_false] at h ⊢
  simp only[rdL,Bool.false_eq_true,if_false,wM,jO]
  rw[jp (k:=2) (by decide) zS (by simp;omega)]
theorem rdLB_wr (h:if fx then n+1<4294967296 else n<2147483648) (r:List UInt8):zi fx ((if fx then Go.Km.uvar (n+1) else be 4 n)++r,false)=((n:Int),r,false):=by
 cases fx with
 | true =>
  simp only[if_true] at h ⊢
  simp only[zi,if_true,j5,j2 h]
  congr 1
  omega
 | false =>
  simp only[Bool.false_eq_true,if_false] at h ⊢
  simp only[zi,Bool.false_eq_true,if_false,jR,jO]
  rw[jp (k:=4) (by decide) zS (by simp;omega)]
theorem wrap_i32_ok (h:n<2147483648):IntKind.i32.wrap (IntKind.i32.wrap ((n+1:Nat):Int)-1)=(n:Int):=by
 have h2:(2:Int) ^ 32=4294967296:=by decide
 have h3:(2:Int) ^ (32-1)=2147483648:=by decide
 simp only[IntKind.wrap,IntKind.bits,IntKind.signed,Bool.true_and,decide_eq_true_eq,h2,h3]
 split<;>split<;>omega
theorem rdCn_wr (h:n<2147483648) {r:List UInt8} (hr:n<=r.length):xy fx (zu fx n++r,false)=((n:Int),r,false):=by
 cases fx with
 | true =>
  simp only[xy,zu,if_true,rdCc,j2 (show n+1<4294967296 by omega)]
  rw[wrap_i32_ok h]
  simp only[zo]
  rw[if_neg zH]
 | false =>
  simp only[xy,zu,Bool.false_eq_true,if_false,rdC4,jR,jO]
  rw[jp (k:=4) (by decide) zS (by simp;omega)]
  simp only[zo]
  rw[if_neg zH]
theorem rdCn_null {r : List UInt8}: xy fx (jl fx ++ r, false) = (-1, r, false) := by
  cases fx with
  | true =>
    have e : ([0] : List UInt8) = Go.Km.uvar 0 := rfl
    simp only [xy, jl, if_true, rdCc, e, j2 (show 0 < 4294967296 by omega)]
    simp only [zo]
    rw [if_neg (by have : IntKind.i32.wrap (IntKind.i32.wrap ((0 : Nat) : Int) - 1) = -1 := by decide
                   rw [this]; omega)]
    rfl
  | false =>
    simp only [xy, jl, Bool.false_eq_true, if_false, rdC4, jR, jO]
    rw [jp (k := 4) (by decide) zS zS]
    simp only [zo]
    rw [if_neg zH]
theorem wrStr_rd (h:gv fx l) (r:List UInt8):zT (rdL fx (ze fx l++r,false))=(l,r,false):=by
 unfold ze
 rw[List.append_assoc,rdL_wr h]
 exact jN l r
theorem wrNStr_rd (h:gv fx l) (r:List UInt8):x6 (rdL fx (ze fx l++r,false))=(some l,r,false):=by
 unfold ze
 rw[List.append_assoc,rdL_wr h]
 unfold x6
 rw[if_neg zS]
 simp only[jN]
theorem wrNStr_rd0 (r:List UInt8):x6 (rdL fx (xV fx none++r,false))=(none,r,false):=by
 cases fx with
 | true =>
  have e:([0]:List UInt8)=Go.Km.uvar 0:=rfl
  simp only[rdL,xV,if_true,j5,e,j2 (show 0<4294967296 by omega)]
  rfl
 | false =>
  simp only[rdL,xV,Bool.false_eq_true,if_false,wM,jO]
  rw[jp (k:=2) (by decide) zS zS]
  rfl
theorem wrBytes_rd (h:vx fx l) (r:List UInt8):xX (zi fx (xn fx l++r,false))=(some l,r,false):=by
 unfold xn
 rw[List.append_assoc,rdLB_wr h]
 unfold xX
 rw[if_neg zS]
 simp only[jN]
theorem wrNBytes_rd (h:vx fx l) (r:List UInt8):x6 (zi fx (xn fx l++r,false))=(some l,r,false):=by
 unfold xn
 rw[List.append_assoc,rdLB_wr h]
 unfold x6
 rw[if_neg zS]
 simp only[jN]
theorem wrNBytes_rd0 (r:List UInt8):x6 (zi fx (xz fx none++r,false))=(none,r,false):=by
 cases fx with
 | true =>
  have e:([0]:List UInt8)=Go.Km.uvar 0:=rfl
  simp only[zi,xz,if_true,j5,e,j2 (show 0<4294967296 by omega)]
  rfl
 | false =>
  simp only[zi,xz,Bool.false_eq_true,if_false,jR,jO]
  rw[jp (k:=4) (by decide) zS zS]
  rfl
theorem vl:∀ (acc:List (Nat × List UInt8)) (k:Nat) (v:List UInt8),(∀ x ∈ acc,x.1<k)->qs k v acc=acc++[(k,v)]
 | [],k,v,h=>rfl
 | x::l,k,v,h=>by
  have h1:=h x zS
  simp only[qs]
  rw[if_neg zH,if_neg zH,vl l k v (fun y hy=>h y (by simp[hy]))]
  rfl
theorem rdTag_wr {x:Nat × List UInt8} (h1:x.1<4294967296) (h2:x.2.length<4294967296) (r:List UInt8):xB (qV x++r,false)=(x,r,false):=by
 unfold qV xB
 simp only[List.append_assoc,j2 h1,j2 h2,jN]
theorem kQ (k:Nat) (v:List UInt8):∀ l x,x ∈ qs k v l->x=(k,v)\/x ∈ l
 | [],x,h=>by simpa [qs] using h
 | y::l,x,h=>by
  simp only[qs] at h
  split at h
  ·simpa using h
  ·split at h
   ·rcases List.mem_cons.1 h with h | h
    ·exact .inl h
    ·exact .inr (by simp[h])
   ·rcases List.mem_cons.1 h with h | h
    ·exact .inr (by simp[h])
    ·rcases kQ k v l x h with h | h
     ·exact .inl h
     ·exact .inr (by simp[h])
theorem rdTagsNK_wr {ck:Nat->List UInt8->Bool}:∀ (tags acc:List (Nat × List UInt8)) (r:List UInt8),(∀ x ∈ tags,ck x.1 x.2=true)->(∀ x ∈ tags,x.1<4294967296)->(∀ x ∈ tags,x.2.length<4294967296)->tags.Pairwise (fun x y=>x.1<y.1)->(∀ x ∈ acc,∀ y ∈ tags,x.1<y.1) →
  qI ck tags.length acc ((tags.map qV).flatten++r,false)=(acc++tags,r,false)
 | [],acc,r,_,_,_,_,_=>by simp[qI]
 | x::tags,acc,r,h0,h1,h2,h3,h4=>by
  simp only[List.length_cons,List.map_cons,List.flatten_cons,List.append_assoc]
  unfold qI
  rw[rdTag_wr (h1 x zS) (h2 x zS)]
  simp only
  rw[vl acc x.1 x.2 (fun y hy=>h4 y hy x zS),h0 x zS]
  have h5:=List.pairwise_cons.1 h3
  simp only[Bool.not_true,Bool.or_self]
  rw[rdTagsNK_wr tags (acc++[(x.1,x.2)]) r (fun y hy=>h0 y (by simp[hy])) (fun y hy=>h1 y (by simp[hy])) (fun y hy=>h2 y (by simp[hy])) h5.2 ?_]
  ·simp
  ·intro y hy z hz
   rcases List.mem_append.1 hy with hy | hy
   ·exact h4 y hy z (by simp[hz])
   ·simp only[List.mem_cons,List.not_mem_nil,or_false] at hy
    subst hy
    exact h5.1 z hz
theorem rdTagsK_wr (hc:∀ x ∈ tags,ck x.1 x.2=true) (h:kO tags) (r:List UInt8):zX ck (xU tags++r,false)=(tags,r,false):=by
 obtain ⟨⟨h1,h2⟩,h3,h4⟩:=h
 unfold zX xU
 simp only[List.append_assoc,j2 h3]
 have:=rdTagsNK_wr tags [] r hc h2 h4 h1 (fun x hx=>by simp at hx)
 simpa using this
theorem setTag_find {k:Nat} {p:List UInt8}:∀ {l:List (Nat × List UInt8)},(∀ x ∈ l,x.1≠k)->(qs k p l).find? (fun x=>x.1==k)=some (k,p)/\(qs k p l).filter (fun x=>x.1 != k)=l
 | [],_=>by simp[qs]
 | x::l,h=>by
  have hx:=h x zS
  have hl:∀ y ∈ l,y.1≠k:=fun y hy=>h y (by simp[hy])
  have hfl:l.filter (fun x=>x.1 != k)=l:=List.filter_eq_self.2 (fun y hy=>by simpa using hl y hy)
  simp only[qs]
  split
  ·simp[hx,hfl]
  ·rw[if_neg (fun e=>hx e.symm)]
   have ih:=setTag_find (k:=k) (p:=p) hl
   simp[hx,ih.1,ih.2]
theorem noTag_find {l:List (Nat × List UInt8)} (h:∀ x ∈ l,x.1≠k):l.find? (fun x=>x.1==k)=none/\l.filter (fun x=>x.1 != k)=l :=
 ⟨List.find?_eq_none.2 (fun y hy=>by simpa using h y hy),List.filter_eq_self.2 (fun y hy=>by simpa using h y hy)⟩
theorem rdMany_wr {f:RSt->D × RSt} {g:D->List UInt8}:∀ (l:List D) (r:List UInt8),(∀ d ∈ l,∀ r,f (g d++r,false)=(d,r,false))->xg f l.length ((l.map g).flatten++r,false)=(l,r,false)
 | [],r,_=>by simp[xg]
 | d::l,r,h=>by
  simp only[List.length_cons,List.map_cons,List.flatten_cons,List.append_assoc,xg]
  rw[h d zS]
  simp only
  rw[rdMany_wr l r (fun d hd=>h d (by simp[hd]))]
theorem flat_len {g:D->List UInt8}:∀ (l:List D),(∀ d ∈ l,1<=(g d).length)->l.length<=(l.map g).flatten.length
 | [],_=>by simp
 | d::l,h=>by
  have h1:=h d zS
  have h2:=flat_len l (fun d hd=>h d (by simp[hd]))
  simp only[List.length_cons,List.map_cons,List.flatten_cons,List.length_append]
  omega
mutual
theorem Ty.rd_wr (fx:Bool) (ver:Nat):∀ (t:Ty) (d:D) (r:List UInt8),t.lp fx ver=true->t.good fx ver d->t.rd fx ver (t.wr fx ver d++r,false)=(d,r,false)
 | .scal s _,d,r,hp,h | .named s _ _,d,r,hp,h=>by
  cases d<;>simp only[Ty.good] at h
  simp only[Ty.wr,Ty.rd,Scal.rd_wr h]
 | .uuid,d,r,hp,h=>by
  cases d with
  | bytes o =>
   cases o with
   | none=>simp only[Ty.good] at h
   | some l =>
    simp only[Ty.good] at h
    simp only[Ty.wr,Ty.rd]
    have:=jN l r
    rw[h] at this
    rw[show ((16:Nat):Int)=16 from rfl] at this
    rw[this]
  | _=>simp only[Ty.good] at h
 | .text,d,r,hp,h=>by
  cases d with
  | bytes o =>
   cases o with
   | none=>simp only[Ty.good] at h
   | some l =>
    simp only[Ty.good] at h
    simp only[Ty.wr,Ty.rd,wrStr_rd h]
  | _=>simp only[Ty.good] at h
 | .ntext,d,r,hp,h=>by
  cases d with
  | bytes o =>
   cases o with
   | none=>simp only[Ty.wr,Ty.rd,wrNStr_rd0]
   | some l =>
    simp only[Ty.good] at h
    simp only[Ty.wr,Ty.rd,xV,wrNStr_rd h]
  | _=>simp only[Ty.good] at h
 | .ntextFrom N,d,r,hp,h=>by
  cases d with
  | bytes o =>
   cases o with
   | none =>
    simp only[Ty.good] at h
    have hN:¬ ver<N:=by omega
    simp only[Ty.wr,Ty.rd,if_neg hN,wrNStr_rd0]
   | some l =>
    simp only[Ty.good] at h
    simp only[Ty.wr,Ty.rd]
    by_cases hN:ver<N
    ·simp only[if_pos hN,Option.getD_some,wrStr_rd h]
    ·simp only[if_neg hN,xV,wrNStr_rd h]
  | _=>simp only[Ty.good] at h
 | .bytes,d,r,hp,h=>by
  cases d with
  | bytes o =>
   cases o with
   | none=>simp only[Ty.good] at h
   | some l =>
    simp only[Ty.good] at h
    simp only[Ty.wr,Ty.rd,Option.getD_some,wrBytes_rd h]
  | _=>simp only[Ty.good] at h
 | .nbytes,d,r,hp,h=>by
  cases d with
  | bytes o =>
   cases o with
   | none=>simp only[Ty.wr,Ty.rd,wrNBytes_rd0]
   | some l =>
    simp only[Ty.good] at h
    simp only[Ty.wr,Ty.rd,xz,wrNBytes_rd h]
  | _=>simp only[Ty.good] at h
 | .list TS null e,d,r,hp,h=>by
  simp only[Ty.lp,Bool.and_eq_true] at hp
  cases d with
  | list o =>
   cases o with
   | none =>
    simp only[Ty.good] at h
    simp only[Ty.wr,Ty.rd]
    rcases h with rfl | ⟨N,rfl,hN⟩
    ·simp only[Option.isSome_none,Bool.false_eq_true,if_false]
     rw[rdCn_wr (by decide) (Nat.zero_le _)]
     simp[jd]
    ·simp only[Option.isSome_some,if_true,rdCn_null]
     have:¬ ver<N:=by omega
     simp[jd,this]
   | some l =>
    simp only[Ty.good] at h
    obtain ⟨h0,h1,h2⟩:=h
    have hfl:=flat_len (g:=fun d=>e.wr fx ver d) l (fun d hd=>Ty.wr_pos fx ver e d hp.1 (h2 d hd))
    simp only[Ty.wr,Ty.rd,List.append_assoc]
    rw[rdCn_wr h1 (by simp only[List.length_append];omega)]
    simp only[Bool.false_eq_true,if_false]
    cases l with
    | nil =>
     have hnl:null≠none:=fun hh=>h0 hh rfl
     obtain ⟨N,rfl⟩:=Option.ne_none_iff_exists'.1 hnl
     simp[jd]
    | cons d l =>
     rw[if_neg (by simp only[List.length_cons];omega),Int.toNat_natCast]
     rw[rdMany_wr (f:=fun s=>e.rd fx ver s) (g:=fun d=>e.wr fx ver d) (d::l) r (fun d hd r=>Ty.rd_wr fx ver e d r hp.2 (h2 d hd))]
  | _=>simp only[Ty.good] at h
 | .struct _ _ _ fs,d,r,hp,h=>by
  cases d with
  | obj l tags =>
   simp only[Ty.good] at h
   simp only[Ty.lp] at hp
   simp only[Ty.wr,Ty.rd,Flds.rd_wr fx ver fs l tags r noK hp h (fun _ _ _=>rfl)]
  | _=>simp only[Ty.good] at h
 | .nstruct _ _ _ fs _,d,r,hp,h=>by
  have e1:∀ (r:List UInt8),Scal.i8.rd (255::r,false)=(-1,(r,false)):=fun r=>by
   have:=Scal.rd_wr (k:=.i8) (n:=-1) (by simp[Scal.ok]) r
   rwa [show Scal.i8.wr (-1)=[255] by decide] at this
  have e2:∀ (r:List UInt8),Scal.i8.rd (1::r,false)=(1,(r,false)):=fun r=>by
   have:=Scal.rd_wr (k:=.i8) (n:=1) (by simp[Scal.ok]) r
   rwa [show Scal.i8.wr 1=[1] by decide] at this
  cases d with
  | list o =>
   rcases o with _ | ⟨_ | ⟨d0,_ | ⟨d1,r⟩⟩⟩
   ·simp only[Ty.wr,Ty.rd,List.cons_append,List.nil_append,e1,true_or,if_true]
   ·simp only[Ty.good] at h
   ·cases d0<;>simp only[Ty.good] at h
    simp only[Ty.lp] at hp
    simp only[Ty.wr,Ty.rd,List.cons_append,e2,Bool.false_eq_true,or_false]
    rw[if_neg (by decide),Flds.rd_wr fx ver fs _ _ r noK hp h (fun _ _ _=>rfl)]
   ·cases d0<;>simp only[Ty.good] at h
  | _=>simp only[Ty.good] at h
theorem Flds.rd_wr (fx:Bool) (ver:Nat):∀ (fs:Flds) (l:List D) (tags:List (Nat × List UInt8)) (r:List UInt8) (ck:Nat->List UInt8->Bool),fs.lp fx ver=true->fs.good fx ver l tags->(fx=true->∀ x ∈ tags,ck x.1 x.2=true)->fs.rd fx ver ck (fs.wr fx ver l tags++r,false)=(l,tags,r,false)
 | .nil _,[],tags,r,ck,hp,h,hck=>by
  simp only[Flds.good] at h
  cases fx with
  | true =>
   simp only[if_true] at h
   simp only[Flds.wr,Flds.rd,if_true,rdTagsK_wr (hck rfl) h]
  | false =>
   simp only[Bool.false_eq_true,if_false] at h
   subst h
   simp[Flds.wr,Flds.rd]
 | .nil _,_::_,tags,r,ck,hp,h,hck=>by simp[Flds.good] at h
 | .cons v t r',[],tags,r,ck,hp,h,hck=>by simp[Flds.good] at h
 | .cons v t r',d::l,tags,r,ck,hp,h,hck=>by
  simp only[Flds.good] at h
  simp only[Flds.lp,Bool.and_eq_true,Bool.or_eq_true,Bool.not_eq_true'] at hp
  obtain ⟨h1,h2⟩:=h
  simp only[Flds.wr,Flds.rd,List.append_assoc]
  cases hv:v.has ver with
  | true =>
   have hnt:=Ver.has_noTag hv
   simp only[hv,if_true,Ver.addTag_no hnt] at h1 h2 ⊢
   have hpt:t.lp fx ver=true:=by
    rcases hp.1.1 with h | h
    ·rw[hv] at h;cases h.1
    ·exact h
   rw[Ty.rd_wr fx ver t d _ hpt h1]
   simp only
   rw[Flds.rd_wr fx ver r' l tags r ck hp.2 h2 hck]
  | false =>
   simp only[hv,Bool.false_eq_true,if_false,List.nil_append] at h1 ⊢
   cases htg:v.isTag with
   | false =>
    rw[Ver.okD_no htg] at h1
    subst h1
    rw[Ver.addTag_no htg] at h2 ⊢
    simp only[Ver.ckT_no htg,Ver.getT_no htg,Ver.dropT_no htg]
    rw[Flds.rd_wr fx ver r' l tags r ck hp.2 h2 hck]
   | true =>
    cases v with
    | tag k lb =>
     simp only[Ver.okD] at h1
     obtain ⟨h1,hk⟩:=h1
     simp only[Ver.addTag] at h2 ⊢
     have hpt:t.lp fx ver=true:=by
      rcases hp.1.1 with h | h
      ·cases h.2
      ·exact h
     cases fx with
     | false =>
      simp only[Bool.false_eq_true,if_false] at h1
      simp only[Bool.false_and,Bool.false_eq_true,if_false] at h2 ⊢
      rw[Flds.rd_wr false ver r' l tags r _ hp.2 h2 (fun h=>by cases h)]
      simp only[Ver.getT,Ver.dropT,noTag_find hk,h1]
     | true =>
      simp only[if_true] at h1
      cases hD:t.isD d with
      | true =>
       simp only[hD,Bool.not_true,Bool.and_false,Bool.false_eq_true,if_false] at h2 ⊢
       rw[Flds.rd_wr true ver r' l tags r _ hp.2 h2 (fun _ x hx=>by simp only[Ver.ckT,if_neg (hk x hx)];exact hck rfl x hx)]
       simp only[Ver.getT,Ver.dropT,noTag_find hk,h1.2 hD]
      | false =>
       simp only[hD,Bool.not_false,Bool.and_true,if_true] at h2 ⊢
       have e0:=Ty.rd_wr true ver t d [] hpt h1.1
       rw[List.append_nil] at e0
       rw[Flds.rd_wr true ver r' l _ r _ hp.2 h2 (fun _ x hx=>by
        rcases kQ _ _ _ x hx with rfl | hx
        ·simp only[Ver.ckT,if_true,e0,Bool.not_false]
        ·simp only[Ver.ckT,if_neg (hk x hx)];exact hck rfl x hx)]
       simp only[Ver.getT,Ver.dropT,setTag_find hk,e0]
    | _=>cases htg
end
theorem y7 (hk:0<k) (h:n<256 ^ k):-(2 ^ (8*k-1):Nat)<=sgn k n/\sgn k n<(2 ^ (8*k-1):Nat):=by
 have e:(256:Nat) ^ k=2 ^ (8*k-1)+2 ^ (8*k-1):=by
  rw[show 256=2 ^ 8 from rfl,← Nat.pow_mul,← Nat.mul_two,← Nat.pow_succ]
  congr 1
  omega
 have e2:(2:Int) ^ (8*k)=((256 ^ k:Nat):Int):=by
  rw[show 256=2 ^ 8 from rfl,← Nat.pow_mul]
  simp
 unfold sgn
 rw[e2]
 rw[e] at h ⊢
 generalize 2 ^ (8*k-1)=m at *
 split<;>omega
theorem Scal.rd_ok (k:Scal) (st:RSt):k.ok (k.rd st).1:=by
 cases k with
 | bool =>
  simp only[Scal.rd,Scal.ok]
  split<;>simp
 | i8=>have:=y7 (k:=1) (by decide) (j4 1 st);simp only[Scal.rd,Scal.ok];simp at this;omega
 | i16=>have:=y7 (k:=2) (by decide) (j4 2 st);simp only[Scal.rd,Scal.ok];simp at this;omega
 | i32=>have:=y7 (k:=4) (by decide) (j4 4 st);simp only[Scal.rd,Scal.ok];simp at this;omega
 | i64=>have:=y7 (k:=8) (by decide) (j4 8 st);simp only[Scal.rd,Scal.ok];simp at this;omega
 | u16=>have:=j4 2 st;simp only[Scal.rd,Scal.ok];omega
 | f64=>have:=j4 8 st;simp only[Scal.rd,Scal.ok];omega
theorem vY (h:(rdN k st).2.2=false):k+(rdN k st).2.1.length<=st.1.length:=by
 unfold rdN at h ⊢
 split at h
 ·cases h
 ·rename_i hl
  rw[if_neg hl]
  simp only[List.length_drop]
  omega
theorem jM {n:Int} (h:(qt n st).2.2=false):((qt n st).1.length:Int)=n/\(qt n st).1.length+(qt n st).2.1.length<=st.1.length:=by
 unfold qt at h ⊢
 split at h
 ·cases h
 ·rename_i hl
  rw[if_neg hl]
  simp only[List.length_drop,List.length_take]
  omega
theorem uvar_le (h:n<4294967296) (hk:n<=k):(Go.Km.uvar n).length<=(Go.Km.uvar k).length:=by
 have key:∀ (f a b:Nat),a<=b->(uvF f a).length<=(uvF f b).length:=by
  intro f
  induction f with
  | zero=>intro a b _;simp[uvF]
  | succ f ih =>
   intro a b hab
   rcases Nat.lt_or_ge a 128 with ha | ha
   ·rw[uvF_one ha]
    have:=yG (f+1) b
    simpa using this
   ·rw[gk ha,gk zH]
    simp only[List.length_cons]
    have:=ih (a / 128) (b / 128) (Nat.div_le_div_right hab)
    omega
 exact key 9 n k hk
theorem rdL_len (h:(rdL fx st).2.2=false):∀ n:Nat,(n:Int)=(rdL fx st).1->(if fx then Go.Km.uvar (n+1) else be 2 n).length+(rdL fx st).2.1.length<=st.1.length:=by
 intro n hn
 cases fx with
 | true =>
  simp only[rdL,if_true,j5] at h hn ⊢
  have:=jF h
  have e:n+1=(qp st).1:=by omega
  rw[e]
  exact this
 | false =>
  simp only[rdL,Bool.false_eq_true,if_false,wM] at h hn ⊢
  have:=vY h
  simp only[qO]
  exact this
theorem rdLB_len (h:(zi fx st).2.2=false):∀ n:Nat,(n:Int)=(zi fx st).1->(if fx then Go.Km.uvar (n+1) else be 4 n).length+(zi fx st).2.1.length<=st.1.length:=by
 intro n hn
 cases fx with
 | true =>
  simp only[zi,if_true,j5] at h hn ⊢
  have:=jF h
  have e:n+1=(qp st).1:=by omega
  rw[e]
  exact this
 | false =>
  simp only[zi,Bool.false_eq_true,if_false,jR] at h hn ⊢
  have:=vY h
  simp only[qO]
  exact this
theorem rdL_min (h:(rdL fx st).2.2=false):(if fx then 1 else 2)+(rdL fx st).2.1.length<=st.1.length:=by
 cases fx with
 | true =>
  simp only[rdL,if_true,j5] at h ⊢
  have:=jF h
  have:=jJ (qp st).1
  omega
 | false =>
  simp only[rdL,Bool.false_eq_true,if_false,wM] at h ⊢
  exact vY h
theorem rdLB_min (h:(zi fx st).2.2=false):(if fx then 1 else 4)+(zi fx st).2.1.length<=st.1.length:=by
 cases fx with
 | true =>
  simp only[zi,if_true,j5] at h ⊢
  have:=jF h
  have:=jJ (qp st).1
  omega
 | false =>
  simp only[zi,Bool.false_eq_true,if_false,jR] at h ⊢
  exact vY h
theorem rdL_rng (fx:Bool) (st:RSt):(rdL fx st).1<(if fx then 4294967295 else 32768):=by
 cases fx with
 | true =>
  simp only[rdL,if_true,j5]
  have:=zx st
  omega
 | false =>
  simp only[rdL,Bool.false_eq_true,if_false,wM]
  have:=vk st
  omega
theorem rdLB_rng (fx:Bool) (st:RSt):(zi fx st).1<(if fx then 4294967295 else 2147483648):=by
 cases fx with
 | true =>
  simp only[zi,if_true,j5]
  have:=zx st
  omega
 | false =>
  simp only[zi,Bool.false_eq_true,if_false,jR]
  have:=yl st
  omega
theorem gu (h:(l.length:Int)=(rdL fx st).1):gv fx l:=by
 have:=rdL_rng fx st
 unfold gv
 cases fx<;>simp only[Bool.false_eq_true,if_false,if_true] at this ⊢<;>omega
theorem octOk_of (h:(l.length:Int)=(zi fx st).1):vx fx l:=by
 have:=rdLB_rng fx st
 unfold vx
 cases fx<;>simp only[Bool.false_eq_true,if_false,if_true] at this ⊢<;>omega
theorem i32_rng (n:Int):-2147483648<=IntKind.i32.wrap n/\IntKind.i32.wrap n<=2147483647:=by
 have h2:(2:Int) ^ 32=4294967296:=by decide
 have h3:(2:Int) ^ (32-1)=2147483648:=by decide
 simp only[IntKind.wrap,IntKind.bits,IntKind.signed,Bool.true_and,decide_eq_true_eq,h2,h3]
 split<;>omega
theorem rdCount_nb {p:Int × RSt} (h:(zo p).2.2=false):zo p=p:=by
 unfold zo at h ⊢
 split at h
 ·cases h
 ·rename_i hh;rw[if_neg hh]
theorem rdCn_rng (h:(xy fx st).2.2=false):(xy fx st).1<2147483648:=by
 cases fx with
 | true =>
  simp only[xy,if_true,rdCc,zo] at h ⊢
  split at h
  ·cases h
  ·rename_i hh
   rw[if_neg hh]
   have:=i32_rng (IntKind.i32.wrap ((qp st).1:Int)-1)
   simp only
   omega
 | false =>
  have e:xy false st=jR st:=rdCount_nb h
  rw[e]
  have:=yl st
  show sgn 4 (rdN 4 st).1<_
  omega
theorem rdCn_min (h:(xy fx st).2.2=false):(if fx then 1 else 4)+(xy fx st).2.1.length<=st.1.length:=by
 cases fx with
 | true =>
  simp only[xy,if_true,rdCc,zo] at h ⊢
  split at h
  ·cases h
  ·rename_i hh
   rw[if_neg hh]
   have h1:=jF h
   have h2:=jJ (qp st).1
   simp only
   omega
 | false =>
  have e:xy false st=jR st:=rdCount_nb h
  rw[e] at h ⊢
  exact vY (k:=4) h
theorem rdCn_len (h:(xy fx st).2.2=false):∀ n:Nat,(n:Int)=(xy fx st).1->(zu fx n).length+(xy fx st).2.1.length<=st.1.length:=by
 intro n hn
 have hr:=rdCn_rng h
 cases fx with
 | true =>
  simp only[xy,if_true,rdCc,zo] at h hn hr ⊢
  split at h
  ·cases h
  ·rename_i hh
   rw[if_neg hh] at hn hr ⊢
   simp only at hn hr ⊢
   have h1:=jF h
   have h4:=zx st
   have:n+1<=(qp st).1:=by
    have h2:(2:Int) ^ 32=4294967296:=by decide
    have h3:(2:Int) ^ (32-1)=2147483648:=by decide
    simp only[IntKind.wrap,IntKind.bits,IntKind.signed,Bool.true_and,decide_eq_true_eq,h2,h3] at hn
    split at hn<;>split at hn<;>omega
   have:=uvar_le (n:=n+1) zH this
   simp only[zu,if_true]
   omega
 | false =>
  have:=rdCn_min h
  simp only[zu,Bool.false_eq_true,if_false,qO] at this ⊢
  exact this
def zW (l:List (Nat × List UInt8)):Nat:=(l.map qV).flatten.length
theorem zR (x:Nat × List UInt8) (l:List (Nat × List UInt8)):zW (x::l)=(qV x).length+zW l:=by simp[zW]
theorem wJ (k:Nat) (v:List UInt8):∀ l,zW (qs k v l)<=(qV (k,v)).length+zW l
 | []=>by simp[qs,zW]
 | x::l=>by
  simp only[qs]
  split
  ·rw[zR];exact Nat.le_refl _
  ·split
   ·rw[zR,zR];omega
   ·have:=wJ k v l
    rw[zR,zR];omega
theorem wu (k:Nat) (v:List UInt8):∀ l,(qs k v l).length<=l.length+1
 | []=>by simp[qs]
 | x::l=>by
  simp only[qs]
  split
  ·simp
  ·split
   ·simp
   ·have:=wu k v l
    simp only[List.length_cons];omega
theorem jV (k:Nat) (v:List UInt8):∀ l:List (Nat × List UInt8),l.Pairwise (fun x y=>x.1<y.1)->(qs k v l).Pairwise (fun x y=>x.1<y.1)
 | [],_=>by simp[qs]
 | y::l,h=>by
  have h2:=List.pairwise_cons.1 h
  simp only[qs]
  split
  ·rename_i hk
   refine List.pairwise_cons.2 ⟨fun x hx=>?_,h⟩
   rcases List.mem_cons.1 hx with rfl | hx
   ·exact hk
   ·have:=h2.1 x hx
    show k<x.1
    omega
  ·split
   ·rename_i h1 h3
    exact List.pairwise_cons.2 ⟨fun x hx=>by have:=h2.1 x hx;show k<x.1;omega,h2.2⟩
   ·rename_i h1 h3
    refine List.pairwise_cons.2 ⟨fun x hx=>?_,jV k v l h2.2⟩
    rcases kQ k v l x hx with rfl | hx
    ·show y.1<k;omega
    ·exact h2.1 x hx
theorem rdTag_len (h:(xB st).2.2=false):(qV (xB st).1).length+(xB st).2.1.length<=st.1.length/\(xB st).1.1<4294967296/\(xB st).1.2.length<4294967296:=by
 unfold xB at h ⊢
 simp only at h ⊢
 have h1:=jM h
 have h2:=qZ h
 have h3:=jF h2
 have h4:=jF (zJ h2)
 have h5:=zx st
 have h6:=zx (qp st).2
 have e:(qt ((qp (qp st).2).1:Int) (qp (qp st).2).2).1.length=(qp (qp st).2).1:=by omega
 refine ⟨?_,h5,by omega⟩
 simp only[qV,List.length_append]
 rw[e]
 omega
theorem rdTagsN_len:∀ (n:Nat) (acc:List (Nat × List UInt8)) (st:RSt),(xc n acc st).2.2=false->acc.Pairwise (fun x y=>x.1<y.1)->(∀ x ∈ acc,x.1<4294967296/\x.2.length<4294967296) →
  zW (xc n acc st).1+(xc n acc st).2.1.length<=zW acc+st.1.length/\(xc n acc st).1.Pairwise (fun x y=>x.1<y.1)/\(∀ x ∈ (xc n acc st).1,x.1<4294967296/\x.2.length<4294967296)/\(xc n acc st).1.length<=acc.length+n
 | 0,acc,st,h,h1,h2=>⟨Nat.le_refl _,h1,h2,by simp[xc]⟩
 | n+1,acc,st,h,h1,h2=>by
  simp only[xc] at h ⊢
  have ht:=rdTag_len (jg n _ _ h)
  have ih:=rdTagsN_len n _ _ h (jV _ _ acc h1) (fun x hx=>by
   rcases kQ _ _ acc x hx with rfl | hx
   ·exact ht.2
   ·exact h2 x hx)
  have hs:=wJ (xB st).1.1 (xB st).1.2 acc
  have hl:=wu (xB st).1.1 (xB st).1.2 acc
  refine ⟨?_,ih.2.1,ih.2.2.1,?_⟩
  ·have:=ih.1
   have e:((xB st).1.1,(xB st).1.2)=(xB st).1:=rfl
   rw[e] at hs
   omega
  ·have:=ih.2.2.2
   omega
theorem rdTags_good (h:(xS st).2.2=false):kO (xS st).1/\(xU (xS st).1).length+(xS st).2.1.length<=st.1.length:=by
 unfold xS at h ⊢
 have h1:=rdTagsN_len _ _ _ h List.Pairwise.nil (fun x hx=>by simp at hx)
 have h2:=jF (jg _ _ _ h)
 have h3:=zx st
 obtain ⟨g1,g2,g3,g4⟩:=h1
 simp only[List.length_nil,Nat.zero_add] at g4
 refine ⟨⟨⟨g2,fun x hx=>(g3 x hx).1⟩,by omega,fun x hx=>(g3 x hx).2⟩,?_⟩
 have h5:=uvar_le (n:=(xc (qp st).1 [] (qp st).2).1.length) zH g4
 simp only[xU,List.length_append]
 have e:zW ([]:List (Nat × List UInt8))=0:=rfl
 rw[e] at g1
 unfold zW at g1
 omega
theorem rdTagsNK_of {ck:Nat->List UInt8->Bool}:∀ (n:Nat) (acc:List (Nat × List UInt8)) (st:RSt),(qI ck n acc st).2.2=false->qI ck n acc st=xc n acc st
 | 0,acc,st,h=>rfl
 | n+1,acc,st,h=>by
  simp only[qI,xc] at h ⊢
  have h1:=j3 n _ _ h
  simp only[Bool.or_eq_false_iff] at h1
  have e:((xB st).2.1,(xB st).2.2 || !ck (xB st).1.1 (xB st).1.2)=(xB st).2:=by rw[h1.2,Bool.or_false]
  rw[e] at h ⊢
  exact rdTagsNK_of n _ _ h
theorem rdTagsK_of (h:(zX ck st).2.2=false):zX ck st=xS st:=rdTagsNK_of _ _ _ h
theorem yW {ck:Nat->List UInt8->Bool}:∀ (n:Nat) (acc:List (Nat × List UInt8)) (st:RSt),acc.Pairwise (fun x y=>x.1<y.1)->(qI ck n acc st).1.Pairwise (fun x y=>x.1<y.1)
 | 0,acc,st,h=>h
 | n+1,acc,st,h=>yW n _ _ (jV _ _ acc h)
theorem rdTagsNK_ck {ck:Nat->List UInt8->Bool}:∀ (n:Nat) (acc:List (Nat × List UInt8)) (st:RSt),(qI ck n acc st).2.2=false->(∀ x ∈ acc,ck x.1 x.2=true)->∀ x ∈ (qI ck n acc st).1,ck x.1 x.2=true
 | 0,acc,st,h,ha=>ha
 | n+1,acc,st,h,ha=>by
  simp only[qI] at h ⊢
  have h1:=j3 n _ _ h
  simp only[Bool.or_eq_false_iff,Bool.not_eq_false'] at h1
  refine rdTagsNK_ck n _ _ h (fun x hx=>?_)
  rcases kQ _ _ acc x hx with rfl | hx
  ·exact h1.2
  ·exact ha x hx
inductive Shr:List (Nat × List UInt8)->List (Nat × List UInt8)->Prop where
 | nil:Shr [] []
 | drop {a b:List (Nat × List UInt8)} (x:Nat × List UInt8):Shr a b->Shr a (x::b)
 | keep {a b:List (Nat × List UInt8)} {x y:Nat × List UInt8}:Shr a b->y.1=x.1->y.2.length<=x.2.length->Shr (y::a) (x::b)
theorem Shr.refl:∀ l,Shr l l
 | []=>.nil
 | x::l=>.keep (Shr.refl l) rfl (Nat.le_refl _)
theorem Shr.mem {a b:List (Nat × List UInt8)} (h:Shr a b):∀ y ∈ a,∃ x ∈ b,x.1=y.1/\y.2.length<=x.2.length:=by
 induction h with
 | nil=>intro y hy;simp at hy
 | drop x _ ih=>intro y hy;obtain ⟨z,h1,h2⟩:=ih y hy;exact ⟨z,by simp[h1],h2⟩
 | keep _ h1 h2 ih =>
  intro z hz
  rcases List.mem_cons.1 hz with rfl | hz
  ·exact ⟨_,by simp,h1.symm,h2⟩
  ·obtain ⟨u,g1,g2⟩:=ih z hz;exact ⟨u,by simp[g1],g2⟩
theorem Shr.sorted {a b:List (Nat × List UInt8)} (h:Shr a b):b.Pairwise (fun x y=>x.1<y.1)->a.Pairwise (fun x y=>x.1<y.1):=by
 induction h with
 | nil=>exact fun h=>h
 | drop x _ ih=>exact fun h=>ih (List.pairwise_cons.1 h).2
 | keep hs h1 _ ih =>
  intro h
  have h2:=List.pairwise_cons.1 h
  refine List.pairwise_cons.2 ⟨fun z hz=>?_,ih h2.2⟩
  obtain ⟨u,g1,g2,_⟩:=hs.mem z hz
  have:=h2.1 u g1
  omega
theorem Shr.len {a b:List (Nat × List UInt8)} (h:Shr a b):a.length<=b.length:=by
 induction h with
 | nil=>exact Nat.le_refl _
 | drop x _ ih=>simp only[List.length_cons];omega
 | keep _ _ _ ih=>simp only[List.length_cons];omega
theorem Shr.sum {a b:List (Nat × List UInt8)} (h:Shr a b):(∀ x ∈ b,x.2.length<4294967296)->zW a<=zW b:=by
 induction h with
 | nil=>exact fun _=>Nat.le_refl _
 | drop x _ ih=>intro h;have:=ih (fun y hy=>h y (by simp[hy]));rw[zR];omega
 | @keep a b x y _ h1 h2 ih =>
  intro h
  have:=ih (fun y hy=>h y (by simp[hy]))
  have hx:=h x zS
  rw[zR,zR]
  simp only[qV,List.length_append,h1]
  have:=uvar_le (n:=y.2.length) (k:=x.2.length) zH h2
  omega
theorem yK {p:List UInt8}:∀ {l:List (Nat × List UInt8)},(∀ x ∈ l,k<x.1)->qs k p l=(k,p)::l
 | [],_=>rfl
 | x::l,h=>by simp only[qs];rw[if_pos (h x zS)]
theorem Shr.set {a b:List (Nat × List UInt8)} (k:Nat) (p:List UInt8) (h:Shr a b):b.Pairwise (fun x y=>x.1<y.1)->Shr (qs k p a) (qs k p b):=by
 induction h with
 | nil=>exact fun _=>.keep .nil rfl (Nat.le_refl _)
 | @drop a b x hs ih =>
  intro hb
  have h2:=List.pairwise_cons.1 hb
  have ha:∀ z ∈ a,x.1<z.1:=fun z hz=>by
   obtain ⟨u,g1,g2,_⟩:=hs.mem z hz
   have:=h2.1 u g1
   omega
  simp only[qs]
  split
  ·rw[yK (fun z hz=>by have:=ha z hz;omega)]
   exact .keep (.drop _ hs) rfl (Nat.le_refl _)
  ·split
   ·rw[yK (fun z hz=>by have:=ha z hz;omega)]
    exact .keep hs rfl (Nat.le_refl _)
   ·exact .drop _ (ih h2.2)
 | @keep a b x y hs h1 h3 ih =>
  intro hb
  have h2:=List.pairwise_cons.1 hb
  simp only[qs,h1]
  split
  ·exact .keep (.keep hs h1 h3) rfl (Nat.le_refl _)
  ·split
   ·exact .keep hs rfl (Nat.le_refl _)
   ·exact .keep (ih h2.2) h1 h3
theorem Shr.filter (k:Nat):∀ l:List (Nat × List UInt8),Shr (l.filter fun x=>x.1 != k) l
 | []=>.nil
 | x::l=>by
  rw[List.filter_cons]
  split
  ·exact .keep (Shr.filter k l) rfl (Nat.le_refl _)
  ·exact .drop _ (Shr.filter k l)
theorem Shr.put {k:Nat} {p:List UInt8}:∀ {l:List (Nat × List UInt8)} {x:Nat × List UInt8},l.Pairwise (fun x y=>x.1<y.1)->l.find? (fun x=>x.1==k)=some x->p.length<=x.2.length->Shr (qs k p (l.filter fun x=>x.1 != k)) l
 | [],x,_,h,_=>by cases h
 | y::l,x,hs,h,hp=>by
  have h2:=List.pairwise_cons.1 hs
  rw[List.find?_cons] at h
  by_cases hy:y.1=k
  ·have e:(y.1==k)=true:=by simpa using hy
   rw[e] at h
   simp only[Option.some.injEq] at h
   subst h
   rw[List.filter_cons]
   simp only[bne,e,Bool.not_true,Bool.false_eq_true,if_false]
   have hl:∀ z ∈ l,k<z.1:=fun z hz=>by have:=h2.1 z hz;omega
   rw[List.filter_eq_self.2 (fun z hz=>by have:=hl z hz;simp;omega),yK hl]
   exact .keep (Shr.refl l) hy.symm hp
  ·have e:(y.1==k)=false:=by simpa using hy
   rw[e] at h
   rw[List.filter_cons]
   simp only[bne,e,Bool.not_false,if_true]
   have ih:=Shr.put (p:=p) h2.2 h hp
   simp only[qs]
   have hxm:=List.mem_of_find?_eq_some h
   have hxk:x.1=k:=by simpa using List.find?_some h
   have:=h2.1 x hxm
   rw[if_neg zH,if_neg zH]
   exact .keep ih rfl (Nat.le_refl _)
theorem Ver.addTag_sorted (v:Ver) (fx d:Bool) (p:List UInt8) (h:tags.Pairwise (fun x y=>x.1<y.1)):(v.addTag fx d p tags).Pairwise (fun x y=>x.1<y.1):=by
 unfold Ver.addTag
 split
 ·split
  ·exact jV _ _ _ h
  ·exact h
 ·exact h
theorem Flds.good_shr (fx:Bool) (ver:Nat):∀ (fs:Flds) (l:List D) {a b:List (Nat × List UInt8)},Shr a b->b.Pairwise (fun x y=>x.1<y.1)->fs.good fx ver l b->fs.good fx ver l a/\(fs.wr fx ver l a).length<=(fs.wr fx ver l b).length
 | .nil _,[],a,b,hs,hb,h=>by
  simp only[Flds.good] at h ⊢
  cases fx with
  | true =>
   simp only[if_true] at h ⊢
   obtain ⟨⟨h1,h2⟩,h3,h4⟩:=h
   have hl:=hs.len
   refine ⟨⟨⟨hs.sorted h1,fun y hy=>?_⟩,by omega,fun y hy=>?_⟩,?_⟩
   ·obtain ⟨u,g1,g2,_⟩:=hs.mem y hy;have:=h2 u g1;omega
   ·obtain ⟨u,g1,_,g3⟩:=hs.mem y hy;have:=h4 u g1;omega
   ·have:=hs.sum h4
    have h5:=uvar_le (n:=a.length) (k:=b.length) zH hl
    simp only[Flds.wr,if_true,xU,List.length_append]
    unfold zW at this
    omega
  | false =>
   simp only[Bool.false_eq_true,if_false] at h ⊢
   subst h
   have:=hs.len
   simp only[List.length_nil,Nat.le_zero,List.length_eq_zero_iff] at this
   exact ⟨this,by simp[Flds.wr]⟩
 | .nil _,_::_,a,b,hs,hb,h=>by simp[Flds.good] at h
 | .cons v t r,[],a,b,hs,hb,h=>by simp[Flds.good] at h
 | .cons v t r,d::l,a,b,hs,hb,h=>by
  simp only[Flds.good] at h ⊢
  have hs':Shr (v.addTag fx (t.isD d) (t.wr fx ver d) a) (v.addTag fx (t.isD d) (t.wr fx ver d) b):=by
   unfold Ver.addTag
   split
   ·split
    ·exact hs.set _ _ hb
    ·exact hs
   ·exact hs
  have ih:=Flds.good_shr fx ver r l hs' (v.addTag_sorted fx _ _ hb) h.2
  refine ⟨⟨?_,ih.1⟩,?_⟩
  ·cases hv:v.has ver with
   | true=>simpa [hv] using h.1
   | false =>
    have h1:=h.1
    simp only[hv,Bool.false_eq_true,if_false] at h1 ⊢
    cases v with
    | tag k lb =>
     refine ⟨h1.1,fun y hy=>?_⟩
     obtain ⟨u,g1,g2,_⟩:=hs.mem y hy
     have:=h1.2 u g1
     omega
    | _=>exact h1
  ·simp only[Flds.wr,List.length_append]
   have:=ih.2
   omega
theorem Ty.dfG_ok {t:Ty} (h:t.dfG=true):t.good fx ver t.dflt/\∀ d,t.good fx ver d->t.isD d=true->d=t.dflt:=by
 cases t with
 | scal c df =>
  have h:(c.rd (c.wr df,false)).1=df:=by simpa [Ty.dfG] using h
  refine ⟨by simp only[Ty.dflt,Ty.good];rw[← h];exact c.rd_ok _,fun d hd hi=>?_⟩
  cases d<;>simp only[Ty.good] at hd
  simp only[Ty.isD,beq_iff_eq] at hi
  simp[Ty.dflt,hi]
 | list TS null e =>
  cases null with
  | none =>
   refine ⟨.inl rfl,fun d hd hi=>?_⟩
   cases d with
   | list o =>
    cases o with
    | none=>rfl
    | some l =>
     simp only[Ty.good] at hd
     simp only[Ty.isD,Option.getD_some,List.isEmpty_iff] at hi
     exact absurd hi (hd.1 trivial)
   | _=>simp only[Ty.good] at hd
  | some N=>cases h
 | struct TP TU FD fs =>
  obtain ⟨_,_,_,e⟩:=vU h
  cases e
  have h0:Scal.i32.ok 0:=⟨by omega,by omega⟩
  refine ⟨?_,fun d hd hi=>?_⟩
  ·refine ⟨by simp only[Ver.has,if_true];exact h0,by simp only[Ver.has,if_true];exact h0,?_⟩
   cases fx
   ·rfl
   ·show kO []
    exact ⟨⟨List.Pairwise.nil,by simp⟩,by simp,by simp⟩
  ·cases d with
   | obj l tags =>
    rcases l with _ | ⟨d1,_ | ⟨d2,_ | ⟨d3,l⟩⟩⟩
    ·cases hi
    ·cases d1<;>cases hi
    ·cases d1<;>cases d2<;>first | cases hi;done | skip
     simp only[Ty.isD,Bool.and_eq_true,beq_iff_eq,List.isEmpty_iff] at hi
     obtain ⟨⟨rfl,rfl⟩,rfl⟩:=hi
     rfl
    ·cases d1<;>cases d2<;>cases hi
   | _=>cases hi
 | _=>cases h
theorem Flds.rd_noTags (ver:Nat):∀ (fs:Flds) (ck:Nat->List UInt8->Bool) (st:RSt),(fs.rd false ver ck st).2.1=[]
 | .nil _,ck,st=>by simp[Flds.rd]
 | .cons v t r,ck,st=>by
  simp only[Flds.rd]
  split
  ·exact Flds.rd_noTags ver r ck _
  ·unfold Ver.dropT
   split
   ·simp only[Flds.rd_noTags ver r,List.filter_nil]
   ·exact Flds.rd_noTags ver r _ _
theorem Flds.rd_sorted (fx:Bool) (ver:Nat):∀ (fs:Flds) (ck:Nat->List UInt8->Bool) (st:RSt),(fs.rd fx ver ck st).2.1.Pairwise (fun x y=>x.1<y.1)
 | .nil _,ck,st=>by
  simp only[Flds.rd]
  split
  ·exact yW _ _ _ List.Pairwise.nil
  ·exact List.Pairwise.nil
 | .cons v t r,ck,st=>by
  simp only[Flds.rd]
  split
  ·exact Flds.rd_sorted fx ver r ck _
  ·unfold Ver.dropT
   split
   ·exact (Flds.rd_sorted fx ver r _ _).filter _
   ·exact Flds.rd_sorted fx ver r _ _
theorem Flds.rd_ck (ver:Nat):∀ (fs:Flds) (ck:Nat->List UInt8->Bool) (st:RSt),(fs.rd true ver ck st).2.2.2=false->∀ x ∈ (fs.rd true ver ck st).2.1,ck x.1 x.2=true
 | .nil _,ck,st,h=>by
  simp only[Flds.rd,if_true] at h ⊢
  exact rdTagsNK_ck _ _ _ h (fun x hx=>by simp at hx)
 | .cons v t r,ck,st,h=>by
  simp only[Flds.rd] at h ⊢
  split
  ·rename_i hv
   rw[if_pos hv] at h
   exact Flds.rd_ck ver r ck _ h
  ·rename_i hv
   rw[if_neg hv] at h
   have ih:=Flds.rd_ck ver r _ _ h
   cases v with
   | tag k lb =>
    intro x hx
    simp only[Ver.dropT,List.mem_filter] at hx
    have:=ih x hx.1
    have hne:x.1≠k:=by simpa using hx.2
    simpa only[Ver.ckT,if_neg hne] using this
   | _=>exact ih
theorem rdMany_good {f:RSt->D × RSt} {g:D->List UInt8} {p:D->Prop} (hm:∀ st,(f st).2.2=false->st.2=false) (hf:∀ st,(f st).2.2=false->p (f st).1/\(g (f st).1).length+(f st).2.1.length<=st.1.length) :
  ∀ (n:Nat) (st:RSt),(xg f n st).2.2=false->(∀ d ∈ (xg f n st).1,p d)/\((xg f n st).1.map g).flatten.length+(xg f n st).2.1.length<=st.1.length
 | 0,st,h=>by simp[xg]
 | n+1,st,h=>by
  simp only[xg] at h ⊢
  have ih:=rdMany_good hm hf n _ h
  have h1:=hf st (vq hm n _ h)
  refine ⟨fun d hd=>?_,?_⟩
  ·rcases List.mem_cons.1 hd with rfl | hd
   ·exact h1.1
   ·exact ih.1 d hd
  ·simp only[List.map_cons,List.flatten_cons,List.length_append]
   have:=ih.2
   have:=h1.2
   omega
theorem wv (f:RSt->D × RSt):∀ (n:Nat) (st:RSt),(xg f n st).1.length=n
 | 0,_=>rfl
 | n+1,st=>by simp[xg,wv f n]
theorem wL {p:Int × RSt} (h:(x6 p).2.2=false):(p.1<0/\x6 p=(none,p.2))\/∃ l:List UInt8,(l.length:Int)=p.1/\(x6 p).1=some l/\l.length+(x6 p).2.1.length<=p.2.1.length:=by
 unfold x6 at h ⊢
 by_cases hp:p.1<0
 ·rw[if_pos hp];exact .inl ⟨hp,rfl⟩
 ·rw[if_neg hp] at h ⊢
  have:=jM h
  exact .inr ⟨_,this.1,rfl,this.2⟩
theorem Scal.rd_len {k:Scal} (h:(k.rd st).2.2=false):(k.wr (k.rd st).1).length+(k.rd st).2.1.length<=st.1.length:=by
 cases k<;>(have h':=vY h;simp only[Scal.rd,Scal.wr,qO,List.length_cons,List.length_nil];exact h')
mutual
theorem Ty.rd_good (fx:Bool) (ver:Nat):∀ (t:Ty) (st:RSt),t.lp fx ver=true->(t.rd fx ver st).2.2=false->t.good fx ver (t.rd fx ver st).1/\(t.wr fx ver (t.rd fx ver st).1).length+(t.rd fx ver st).2.1.length<=st.1.length
 | .scal s _,st,hp,h | .named s _ _,st,hp,h=>by
  simp only[Ty.rd] at h ⊢
  exact ⟨s.rd_ok st,Scal.rd_len h⟩
 | .uuid,st,hp,h=>by
  simp only[Ty.rd] at h ⊢
  have:=jM h
  refine ⟨?_,?_⟩
  ·simp only[Ty.good];omega
  ·simp only[Ty.wr];omega
 | .text,st,hp,h=>by
  simp only[Ty.rd,zT] at h ⊢
  have h1:=jM h
  have h2:=rdL_len (qZ h) _ h1.1
  refine ⟨gu h1.1,?_⟩
  simp only[Ty.wr,ze,List.length_append]
  omega
 | .ntext,st,hp,h=>by
  simp only[Ty.rd] at h ⊢
  rcases wL h with ⟨h1,e⟩ | ⟨l,h1,e,h2⟩
  ·rw[e] at h ⊢
   refine ⟨trivial,?_⟩
   have:=rdL_min (fx:=fx) h
   simp only[Ty.wr,xV]
   cases fx<;>simp only[Bool.false_eq_true,if_false,if_true,qO,List.length_cons,List.length_nil] at this ⊢<;>omega
  ·have h3:=rdL_len (jw h) _ h1
   rw[e]
   refine ⟨gu h1,?_⟩
   simp only[Ty.wr,xV,ze,List.length_append]
   omega
 | .ntextFrom N,st,hp,h=>by
  simp only[Ty.rd] at h ⊢
  by_cases hN:ver<N
  ·rw[if_pos hN] at h ⊢
   simp only[zT] at h ⊢
   have h1:=jM h
   have h2:=rdL_len (qZ h) _ h1.1
   refine ⟨gu h1.1,?_⟩
   simp only[Ty.wr,if_pos hN,Option.getD_some,ze,List.length_append]
   omega
  ·rw[if_neg hN] at h ⊢
   rcases wL h with ⟨h1,e⟩ | ⟨l,h1,e,h2⟩
   ·rw[e] at h ⊢
    refine ⟨by simp only[Ty.good];omega,?_⟩
    have:=rdL_min (fx:=fx) h
    simp only[Ty.wr,if_neg hN,xV]
    cases fx<;>simp only[Bool.false_eq_true,if_false,if_true,qO,List.length_cons,List.length_nil] at this ⊢<;>omega
   ·have h3:=rdL_len (jw h) _ h1
    rw[e]
    refine ⟨gu h1,?_⟩
    simp only[Ty.wr,if_neg hN,xV,ze,List.length_append]
    omega
 | .bytes,st,hp,h=>by
  simp only[Ty.rd] at h ⊢
  by_cases hn:(zi fx st).1 = -1
  ·have e:xX (zi fx st)=(some [],(zi fx st).2):=by unfold xX;rw[if_pos hn]
   rw[e] at h ⊢
   have:=rdLB_min (fx:=fx) h
   refine ⟨?_,?_⟩
   ·simp only[Ty.good,vx];cases fx<;>simp
   ·simp only[Ty.wr,xn,Option.getD_some,List.append_nil]
    cases fx
    ·simp only[Bool.false_eq_true,if_false,qO] at this ⊢;omega
    ·simp only[if_true] at this ⊢
     have e:(Go.Km.uvar ([]:List UInt8).length.succ).length=1:=by decide
     have e2:(Go.Km.uvar (([]:List UInt8).length+1)).length=1:=by decide
     omega
  ·have e:xX (zi fx st)=(some (qt (zi fx st).1 (zi fx st).2).1,(qt (zi fx st).1 (zi fx st).2).2):=by unfold xX;rw[if_neg hn]
   rw[e] at h ⊢
   have h1:=jM h
   have h2:=rdLB_len (qZ h) _ h1.1
   refine ⟨octOk_of h1.1,?_⟩
   simp only[Ty.wr,xn,Option.getD_some,List.length_append]
   have:=h1.2
   omega
 | .nbytes,st,hp,h=>by
  simp only[Ty.rd] at h ⊢
  rcases wL h with ⟨h1,e⟩ | ⟨l,h1,e,h2⟩
  ·rw[e] at h ⊢
   refine ⟨trivial,?_⟩
   have:=rdLB_min (fx:=fx) h
   simp only[Ty.wr,xz]
   cases fx<;>simp only[Bool.false_eq_true,if_false,if_true,qO,List.length_cons,List.length_nil] at this ⊢<;>omega
  ·have h3:=rdLB_len (jw h) _ h1
   rw[e]
   refine ⟨octOk_of h1,?_⟩
   simp only[Ty.wr,xz,xn,List.length_append]
   omega
 | .list TS null e,st,hp,h=>by
  simp only[Ty.lp,Bool.and_eq_true] at hp
  have hnb:(xy fx st).2.2=false:=by
   simp only[Ty.rd] at h
   split at h
   ·exact h
   ·rename_i hh;simpa using hh
  have hmin:=rdCn_min hnb
  have e0:(Go.Km.uvar (0+1)).length=1:=by decide
  by_cases hl:(xy fx st).1<=0
  ·have e:(Ty.list TS null e).rd fx ver st=(if jd null ver (xy fx st).1 then .list (some []) else .list none,(xy fx st).2):=by
    simp only[Ty.rd,hnb,Bool.false_eq_true,if_false]
    rw[if_pos hl]
   rw[e]
   simp only
   by_cases he:jd null ver (xy fx st).1=true
   ·rw[if_pos he]
    refine ⟨⟨fun hn=>?_,by simp,fun d hd=>by simp at hd⟩,?_⟩
    ·subst hn;simp[jd] at he
    ·simp only[Ty.wr,zu,List.length_nil,List.map_nil,List.flatten_nil,List.append_nil]
     cases fx<;>simp only[Bool.false_eq_true,if_false,if_true,qO] at hmin ⊢<;>omega
   ·rw[if_neg he]
    refine ⟨?_,?_⟩
    ·simp only[Ty.good]
     cases null with
     | none=>exact .inl rfl
     | some N =>
      refine .inr ⟨N,rfl,?_⟩
      simp only[jd,Bool.or_eq_true,decide_eq_true_eq,not_or] at he
      omega
    ·simp only[Ty.wr]
     split
     ·simp only[jl]
      cases fx<;>simp only[Bool.false_eq_true,if_false,if_true,qO,List.length_cons,List.length_nil] at hmin ⊢<;>omega
     ·simp only[zu]
      cases fx<;>simp only[Bool.false_eq_true,if_false,if_true,qO] at hmin ⊢<;>omega
  ·have e1:(Ty.list TS null e).rd fx ver st=(.list (some (xg (fun s=>e.rd fx ver s) (xy fx st).1.toNat (xy fx st).2).1),(xg (fun s=>e.rd fx ver s) (xy fx st).1.toNat (xy fx st).2).2):=by
    simp only[Ty.rd,hnb,Bool.false_eq_true,if_false]
    rw[if_neg hl]
   rw[e1] at h ⊢
   have hg:=rdMany_good (f:=fun s=>e.rd fx ver s) (g:=fun d=>e.wr fx ver d) (p:=fun d=>e.good fx ver d) (fun st h=>Ty.rd_mono fx ver e st h) (fun st h=>Ty.rd_good fx ver e st hp.2 h) _ _ h
   have hlen:=wv (fun s=>e.rd fx ver s) (xy fx st).1.toNat (xy fx st).2
   have hr:=rdCn_rng hnb
   have hcl:=rdCn_len hnb (xy fx st).1.toNat zH
   refine ⟨⟨fun _ hn=>?_,by rw[hlen];omega,hg.1⟩,?_⟩
   ·rw[hn] at hlen;simp at hlen;omega
   ·simp only[Ty.wr,List.length_append]
    rw[hlen]
    have:=hg.2
    omega
 | .struct _ _ _ fs,st,hp,h=>by
  simp only[Ty.rd] at h ⊢
  simp only[Ty.lp] at hp
  have:=Flds.rd_good fx ver fs noK st hp h
  exact ⟨this.1,this.2⟩
 | .nstruct _ _ _ fs _,st,hp,h=>by
  simp only[Ty.lp] at hp
  by_cases hc:(Scal.i8.rd st).1 = -1\/(Scal.i8.rd st).2.2=true
  ·simp only[Ty.rd,if_pos hc] at h ⊢
   have:=Scal.rd_len (k:=.i8) h
   refine ⟨trivial,?_⟩
   simp only[Scal.wr,qO] at this
   simp only[Ty.wr,List.length_cons,List.length_nil]
   exact this
  ·simp only[Ty.rd,if_neg hc] at h ⊢
   have h0:=Flds.rd_mono fx ver fs _ h
   have h1:=Scal.rd_len (k:=.i8) h0
   have h2:=Flds.rd_good fx ver fs noK _ hp h
   refine ⟨h2.1,?_⟩
   simp only[Scal.wr,qO] at h1
   have h3:=h2.2
   simp only[Ty.wr,List.length_cons]
   omega
theorem Flds.rd_good (fx:Bool) (ver:Nat):∀ (fs:Flds) (ck:Nat->List UInt8->Bool) (st:RSt),fs.lp fx ver=true->(fs.rd fx ver ck st).2.2.2=false->fs.good fx ver (fs.rd fx ver ck st).1 (fs.rd fx ver ck st).2.1/\(fs.wr fx ver (fs.rd fx ver ck st).1 (fs.rd fx ver ck st).2.1).length+(fs.rd fx ver ck st).2.2.1.length<=st.1.length
 | .nil _,ck,st,hp,h=>by
  cases fx with
  | true =>
   simp only[Flds.rd,if_true] at h ⊢
   have hk:=rdTagsK_of h
   rw[hk] at h ⊢
   have:=rdTags_good h
   refine ⟨?_,?_⟩
   ·simp only[Flds.good,if_true];exact this.1
   ·simp only[Flds.wr,if_true];exact this.2
  | false=>simp[Flds.rd,Flds.good,Flds.wr]
 | .cons v t r,ck,st,hp,h=>by
  simp only[Flds.lp,Bool.and_eq_true,Bool.or_eq_true,Bool.not_eq_true'] at hp
  cases hv:v.has ver with
  | true =>
   have hnt:=Ver.has_noTag hv
   have hpt:t.lp fx ver=true:=by
    rcases hp.1.1 with h | h
    ·rw[hv] at h;cases h.1
    ·exact h
   have e:(Flds.cons v t r).rd fx ver ck st=((t.rd fx ver st).1::(r.rd fx ver ck (t.rd fx ver st).2).1,(r.rd fx ver ck (t.rd fx ver st).2).2):=by simp only[Flds.rd,hv,if_true]
   rw[e] at h ⊢
   have h1:=Flds.rd_good fx ver r ck _ hp.2 h
   have h2:=Ty.rd_good fx ver t st hpt (Flds.rd_mono fx ver r _ h)
   refine ⟨?_,?_⟩
   ·simp only[Flds.good,hv,if_true,Ver.addTag_no hnt]
    exact ⟨h2.1,h1.1⟩
   ·simp only[Flds.wr,hv,if_true,List.length_append,Ver.addTag_no hnt]
    have:=h1.2
    have:=h2.2
    omega
  | false =>
   cases htg:v.isTag with
   | false =>
    have e:(Flds.cons v t r).rd fx ver ck st=(t.dflt::(r.rd fx ver ck st).1,(r.rd fx ver ck st).2):=by simp only[Flds.rd,hv,Bool.false_eq_true,if_false,Ver.ckT_no htg,Ver.getT_no htg,Ver.dropT_no htg]
    rw[e] at h ⊢
    have h1:=Flds.rd_good fx ver r ck _ hp.2 h
    refine ⟨?_,?_⟩
    ·simp only[Flds.good,hv,Bool.false_eq_true,if_false,Ver.addTag_no htg]
     exact ⟨(Ver.okD_no htg).2 trivial,h1.1⟩
    ·simp only[Flds.wr,hv,Bool.false_eq_true,if_false,List.nil_append,Ver.addTag_no htg]
     exact h1.2
   | true =>
    cases v with
    | tag k lb =>
     have hpt:t.lp fx ver=true:=by
      rcases hp.1.1 with h | h
      ·cases h.2
      ·exact h
     have hdf:t.dfG=true:=by
      rcases hp.1.2 with h | h
      ·cases h
      ·exact h
     have hdg:=Ty.dfG_ok (fx:=fx) (ver:=ver) hdf
     simp only[Flds.rd,Ver.has,Bool.false_eq_true,if_false,Ver.dropT] at h ⊢
     generalize hck':(Ver.tag k lb).ckT (fun p=>!(t.rd fx ver (p,false)).2.2) ck=ck' at h ⊢
     have h1:=Flds.rd_good fx ver r ck' st hp.2 h
     have hsrt:=Flds.rd_sorted fx ver r ck' st
     have hnk:∀ x ∈ (r.rd fx ver ck' st).2.1.filter (fun x=>x.1 != k),x.1≠k:=fun x hx=>by simpa using (List.mem_filter.1 hx).2
     cases fx with
     | false =>
      have h0:=Flds.rd_noTags ver r ck' st
      simp only[Flds.good,Flds.wr,Ver.has,Bool.false_eq_true,if_false,Ver.okD,Ver.addTag,Bool.false_and,List.nil_append,h0,List.filter_nil,Ver.getT,List.find?_nil] at h1 ⊢
      exact ⟨⟨⟨trivial,fun x hx=>by simp at hx⟩,h1.1⟩,h1.2⟩
     | true =>
      have hfin:∀ (d:D) (tags2:List (Nat × List UInt8)),t.good true ver d->tags2=(if true && !t.isD d then qs k (t.wr true ver d) ((r.rd true ver ck' st).2.1.filter (fun x=>x.1 != k)) else (r.rd true ver ck' st).2.1.filter (fun x=>x.1 != k))->Shr tags2 (r.rd true ver ck' st).2.1 →
        (Flds.cons (.tag k lb) t r).good true ver (d::(r.rd true ver ck' st).1) ((r.rd true ver ck' st).2.1.filter (fun x=>x.1 != k))/\((Flds.cons (.tag k lb) t r).wr true ver (d::(r.rd true ver ck' st).1) ((r.rd true ver ck' st).2.1.filter (fun x=>x.1 != k))).length+(r.rd true ver ck' st).2.2.1.length<=st.1.length:=by
       intro d tags2 hgd ht2 hshr
       have hg2:=Flds.good_shr true ver r _ hshr hsrt h1.1
       rw[ht2] at hg2
       refine ⟨?_,?_⟩
       ·simp only[Flds.good,Ver.has,Bool.false_eq_true,if_false,Ver.okD,Ver.addTag]
        exact ⟨⟨by simp only[if_true];exact ⟨hgd,hdg.2 d hgd⟩,hnk⟩,hg2.1⟩
       ·simp only[Flds.wr,Ver.has,Bool.false_eq_true,if_false,Ver.addTag,List.nil_append]
        have:=hg2.2
        have:=h1.2
        omega
      cases hf:(r.rd true ver ck' st).2.1.find? (fun x=>x.1==k) with
      | none =>
       have hd:(Ver.tag k lb).getT t.dflt (fun p=>(t.rd true ver (p,false)).1) (r.rd true ver ck' st).2.1=t.dflt:=by simp only[Ver.getT,hf]
       rw[hd]
       have hnf:∀ x ∈ (r.rd true ver ck' st).2.1,x.1≠k:=fun x hx=>by simpa using List.find?_eq_none.1 hf x hx
       have hDD:t.isD t.dflt=true:=by
        cases t with
        | struct TP TU FD fs =>
         obtain ⟨_,_,_,e⟩:=vU hdf
         cases e
         rfl
        | _=>simp_all [Ty.dfG,Ty.isD,Ty.dflt,Ty.two]
       refine hfin t.dflt _ hdg.1 rfl ?_
       rw[hDD]
       exact Shr.filter k _
      | some x =>
       have hd:(Ver.tag k lb).getT t.dflt (fun p=>(t.rd true ver (p,false)).1) (r.rd true ver ck' st).2.1=(t.rd true ver (x.2,false)).1:=by simp only[Ver.getT,hf]
       rw[hd]
       have hx:=List.mem_of_find?_eq_some hf
       have hxk:x.1=k:=by simpa using List.find?_some hf
       have hckx:=Flds.rd_ck ver r ck' st h x hx
       rw[← hck'] at hckx
       simp only[Ver.ckT,hxk,if_true,Bool.not_eq_true'] at hckx
       have hg:=Ty.rd_good true ver t (x.2,false) hpt hckx
       refine hfin _ _ hg.1 rfl ?_
       split
       ·exact Shr.put hsrt hf (by have:=hg.2;simp only at this;omega)
       ·exact Shr.filter k _
    | _=>cases htg
end
section
attribute [local irreducible] vc rO_ qz qP qJ
theorem back_again {m:Msg} (hk:m.kept=false) (hl:m.fs.lp (m.isFlex ver) ver=true) {a:List UInt8} (h:m.back ver l=some a):m.back ver a=some a/\a.length<=l.length:=by
 have e:∀ x,m.rst x=(x,false):=fun x=>by simp[Msg.rst,hk]
 have hw:m.wfs=m.fs:=by simp[Msg.wfs,hk]
 have ho:∀ ds tags,m.out ver ds tags=m.fs.wr (m.isFlex ver) ver ds tags:=fun ds tags=>by simp[Msg.out,Msg.wdat,hw,hk]
 unfold Msg.back at h ⊢
 simp only[e,ho,Msg.rdv] at h ⊢
 cases hb:(m.fs.rd (m.isFlex ver) ver noK (l,false)).2.2.2 with
 | true=>rw[hb] at h;simp at h
 | false =>
  rw[hb] at h
  simp only[Bool.false_eq_true,if_false,Option.some.injEq] at h
  have hg:=Flds.rd_good (m.isFlex ver) ver m.fs noK (l,false) hl hb
  have hr:=Flds.rd_wr (m.isFlex ver) ver m.fs _ _ [] noK hl hg.1 (fun _ _ _=>rfl)
  rw[h,List.append_nil] at hr
  rw[hr]
  refine ⟨?_,?_⟩
  ·simp only[Bool.false_eq_true,if_false,h]
  ·have:=hg.2
   rw[h] at this
   simp only at this
   omega
theorem back_wr {m:Msg} (hk:m.kept=false) (hl:m.fs.lp (m.isFlex ver) ver=true) {ds:List D} (h:m.fs.good (m.isFlex ver) ver ds tags):m.back ver (m.fs.wr (m.isFlex ver) ver ds tags)=some (m.fs.wr (m.isFlex ver) ver ds tags):=by
 have e:∀ x,m.rst x=(x,false):=fun x=>by simp[Msg.rst,hk]
 have hw:m.wfs=m.fs:=by simp[Msg.wfs,hk]
 have ho:∀ ds tags,m.out ver ds tags=m.fs.wr (m.isFlex ver) ver ds tags:=fun ds tags=>by simp[Msg.out,Msg.wdat,hw,hk]
 have hr:=Flds.rd_wr (m.isFlex ver) ver m.fs ds tags [] noK hl h (fun _ _ _=>rfl)
 rw[List.append_nil] at hr
 unfold Msg.back
 simp only[e,ho,Msg.rdv,hr,Bool.false_eq_true,if_false]
def xu (P:Program) (E:Env) (W:World) (sv:Value) (l:List UInt8):Prop :=
 (∃ ad cap,sv=.slice ad l.length cap)/\∀ w',Below W.heap.size W w'->Src P 1 E.tB sv l.length (l.map bv) w'
theorem xA.bytesIn (HB:xo P E.tB E.tU8 1=true) {sv:Value} (h:xA W sv l):xu P E W sv l :=
 ⟨h.form,fun w' hb=>(h.below hb).src (rB HB)⟩
theorem xu.below {W':World} {sv:Value} (h:xu P E W sv l) (hb:Below W.heap.size W W'):xu P E W' sv l :=
 ⟨h.1,fun w' hb'=>h.2 w' (hb.trans (hb'.mono hb.size))⟩
def AgainC (P:Program) (E:Env) (m:Msg) (f:FuncId) (mx:Nat):Prop :=
 ∀ (ver:Nat) (l:List UInt8) (sv ev:Value) (W:World),ver<=mx->xu P E W sv l->l.length<=big->W.cell? ⟨E.vErr,0,none⟩=some ev->(∃ u z,ev=.iface u z) →
  qa P f #[.int .i64 ver,sv] W fun r w'=>BackV E (m.back ver l) W w' r
def lpB (m:Msg) (mx:Nat):Bool:=(List.range (mx+1)).all fun v=>m.fs.lp (m.isFlex v) v
theorem lpB_at {m:Msg} {mx:Nat} (h:lpB m mx=true) (hv:ver<=mx):m.fs.lp (m.isFlex ver) ver=true:=List.all_eq_true.1 h ver (List.mem_range.2 zH)
theorem againC {T:List (Nat × List UInt8)->Prop} (HW:EnvW P E T) (HI:EnvI P E) (HB:xo P E.tB E.tU8 1=true) (i16:qu P E.tI16=some .i16) (ii:qu P E.tI=some .i64) (o16:qW P E.tI16=true) (oE:jH P E.tErr=true) {m:Msg} {N:MR} {np nt nps nts npa nta mx:Nat} (ht:Text P N.again np nt #[.tmp 4,.tmp 5] (c_again E m N)) (hn:19<=nt) (hN:NewC P N.newPtr m) (hs:Text P N.setV nps nts #[] (c_setV E m)) (hns:8<=nts) (ho:qh P m.TU 0=some 0) (hR:ReadC P E T m N.rd) (ha:Text P N.app npa nta #[.tmp 4] (m.wcode E)) (hna:m.wtop<=nta) (hokw:m.okW P E=true) (hk:m.kept=false) (hmx:mx<32768) (hlp:lpB m mx=true):AgainC P E m N.again mx :=
 fun ver l sv ev W hv hin hl he hev=>c_again_ok HW HI HB i16 ii o16 oE ht hn hN hs hns ho hR ha hna hokw hk zH hin.2 hl he hev (fun x hx=>Nat.le_trans (back_again hk (lpB_at hlp hv) hx).2 hl)
def c_implMaxA (E:Env) (m:Msg) (np mv:FuncId):Code :=
 sq [rg [qc 0 (.const (.int .i64 0)) E.tI],rg [xj (some 1) np #[] #[] m.TP,xj (some 2) mv #[.tmp 1] #[m.TP] E.tI16,vy 3 E.tI16 E.tI (.tmp 2),qc 0 (.tmp 3) E.tI],.ret]
theorem c_implMaxA_ok {m:Msg} {npf mvf:FuncId} {np nt mx:Nat} (i16:qu P E.tI16=some .i16) (ii:qu P E.tI=some .i64) (ht:Text P F np nt #[.tmp 0] (c_implMaxA E m npf mvf)) (hn:4<=nt) (hN:NewC P npf m) (hM:∀ x w,qa P mvf #[x] w fun v w'=>v=.int .i16 mx/\w'=w) (hmx:mx<32768) (w:World):
  qa P F #[] w fun v w'=>v=.int .i64 mx/\Below w.heap.size w w':=by
 refine qa.enter ht zS ?_
 intro a hsz hdf harg
 unfold c_implMaxA
 refine vX (rA (dn (vX ?_)))
 refine q8 (args:=#[]) zS (hN w) ?_
 rintro v w1 ⟨rfl,hb1,_⟩
 refine q8 (args:=#[.pointer (some ⟨w.heap.size,0,none⟩)]) ?_ (hM _ w1) ?_
 ·simp only[lM]
  exact zE
 rintro v w2 ⟨rfl,rfl⟩
 refine qY (k:=.i16) (k':=.i64) (m:=(mx:Int)) i16 ii zE ?_
 rw[wrap_i64 zH zH]
 refine rA (dn (vS (vT ?_)))
 exact ⟨by simp only[dF];exact hdf,.int .i64 mx,rO zE,rfl,hb1⟩
end
section
open Go.ChangeShapes Go.WideShapes Go.ChangeAt
section
variable {H : Type} {enc : TypeId × Value → H}
theorem u8_nat' {a:Int} (h:(Lit.int .u8 a).wf=true):∃ n:Nat,a=(n:Int)/\n<256:=by
 have h2:IntKind.u8.min<=a/\a<=IntKind.u8.max:=by
  simpa [Lit.wf] using h
 have e1:IntKind.u8.min=0:=by decide
 have e2:IntKind.u8.max=255:=by decide
 rw[e1,e2] at h2
 exact ⟨a.toNat,by omega,by omega⟩
theorem ws (hl:laidOutB P=true) {W W':World} (hb:Below W.heap.size W W'):∀ {ts:List TypeId} {vs:List Value} {ds:List (DataW H)} {ps:List MemPlace},
  (∀ t ∈ ts,P.readableRec t=true/\t<P.types.size)->DataW.TrodAll enc P W 0 (fun _=>true) true ts vs ds ps->(∀ x ∈ ps,x.block<W.heap.size)->DataW.TrodAll enc P W' 0 (fun b=>decide (b<W.heap.size)) true ts vs ds ps
 | [],vs,ds,ps,_,h,_=>by
  obtain ⟨rfl,rfl,rfl⟩:=trodAll_nil h
  exact trodAll_mk0
 | t::ts,vs,ds,ps,hr,h,hlt=>by
  obtain ⟨v,vs',d,ds',p,q,rfl,rfl,rfl,h1,h2⟩:=trodAll_cons h
  have ht:=hr t zS
  exact trodAll_cons_mk (Below.trod hl ht.1 ht.2 h1 hb (fun x hx=>hlt x (by simp[hx]))) (ws hl hb (fun t ht=>hr t (by simp[ht])) h2 (fun x hx=>hlt x (by simp[hx])))
theorem y4 {f:Func} {s:ChangeSpec} {apart:Bool} {W':World} {args:Array Value} {ds gs:List (DataW H)} {before:List MemPlace} {tb:TypeId} (hW:DataW.Whole enc P f.params.toList s.vars apart W args.toList ds gs before) (hvars:s.vars=[]) (hl:laidOutB P=true) (hr:∀ t ∈ f.params.toList,P.readableRec t=true/\t<P.types.size) (hb:Below W.heap.size W W') (hrt:f.resultTypes=#[tb]) (hub:P.underlying tb=some .bool) (hfn:s.fn H ds={ results:=[.lit (.bool true)],args:=ds }):
  s.post enc P f apart true false false W args (.bool true) W':=by
 have hW':=hW
 have hlt:=hW.lt
 obtain ⟨p,q,hA,hV,rfl,_,_⟩:=hW
 rw[hvars] at hV
 obtain ⟨rfl,rfl⟩:=trodVars_none hV
 refine ⟨ds,[],_,[],p,[],hW',?_,?_,?_,hb.frame _,fun h=>by cases h⟩
 ·rw[List.append_nil,hfn,hrt]
  exact trodAll_mk1 (shut_bool hub _)
 ·rw[List.append_nil,hfn]
  exact ws hl hb hr hA (fun x hx=>hlt x (by simp[hx]))
 ·rw[List.append_nil,hfn,hvars]
  rfl
theorem laid_ev {name nm:String} {d:DataW Unit} {g:Nat} {ti:TypeId} (hg:P.globalNamed name=some g) (hti:(P.globals[g]?).map (·.type)=some ti) (hi:jH P ti=true) (hnh:(DataW.iface nm d:DataW Unit).handleName?.isNone=true) (h:laidMetH P [(name,.iface nm d)] W):∃ ev,W.cell? ⟨g,0,none⟩=some ev/\∃ u z,ev=.iface u z:=by
 rw[MakeChecks.laidMetH_plain _ _ _ (by simpa using hnh)] at h
 obtain ⟨ps,⟨g',t,cs,fuel,p,q,h1,h2,h3,h4,_⟩,_⟩:=h
 rw[hg] at h1
 cases h1
 rw[hti] at h2
 cases h2
 obtain ⟨ms,hu⟩:∃ ms,P.underlying ti=some (.interface ms):=by
  unfold jH at hi
  split at hi
  ·rename_i ms h;exact ⟨ms,h⟩
  ·cases hi
 obtain ⟨_,u,v,hcs,_,_⟩:=iface_of_trod hu h4
 refine ⟨.iface u v,?_,u,v,rfl⟩
 have hcs':cs=#[.iface u v]:=Array.ext' hcs
 subst hcs'
 unfold World.var? at h3
 rw[hg] at h3
 simp only[Option.bind_some] at h3
 split at h3
 ·rename_i c T fr hh
  simp only[Option.some.injEq] at h3
  subst h3
  simp[World.cell?,hh]
 ·cases h3
end
end
section
attribute [local irreducible] vc rO_ qz qP qJ
def j1 (k:Nat):Value:=.int .u32 (k:Int)
def ltU (a b:Nat):Bool:=decide (a<b)
theorem swoU:Go.Sort.SWO ltU:=⟨fun x=>by simp[ltU],fun x y z h1 h2=>by simp only[ltU,decide_eq_true_eq] at *;omega,fun x y z h1 h2=>by simp only[ltU,decide_eq_false_iff_not] at *;omega⟩
structure SortE (P:Program) (E:Env):Prop where
 mixed:P.follows .mixedOrders=true
 row:xo P E.tU32s E.tW 1=true
 oU32s:qW P E.tU32s=true
 zU32s:qQ P E.tU32s=some (.slice none 0 0)
 oU32:qW P E.tW=true
 iu:qu P E.tW=some .u32
 L:∃ ρ:Go.Shelf.Ren,Go.Proofs.LaysGg.n6 P ρ/\ρ.f 6=E.sortSlice
 enters:Enters P E.sortSlice
 info:∃ i ie,P.info? E.tU32s=some i/\i.desc=.slice E.tW/\P.packed E.tU32s=false/\P.info? E.tW=some ie/\ie.size=1/\ie.hasPointers=false/\ie.bytes=4
 kind:∀ w,(Extern.Rtype.kind E.tW).run P w=.ok 10 w
 sw2:∃ f,P.funcs.findIdx? (·.name == "internal/reflectlite" ++ ".Swapper$"++toString 2)=some f
 sw6:∃ f gS,P.funcs.findIdx? (·.name == "internal/reflectlite" ++ ".Swapper$"++toString 6)=some f/\∀ args W,(callFunc f args).run P W=((Extern.ReflectliteSwapper.swap gS args).run P W).andThen fun v w'=>.ok (.value v) w'
 less:Text P E.gAll1 2 15 #[.tmp 5] (c_gAll1 E)
theorem yb {q:Nat} (h:w'=W.drewN q) (a:Addr):w'.cell? a=W.cell? a:=by subst h;rfl
theorem k_gAll1 (H:SortE P E) {ob blk size c:Nat} {G:Nat->Nat} (hs:W.cell? ⟨ob,0,none⟩=some (.slice (some ⟨blk,0,none⟩) size c)) (hc:∀ t,t<size->W.cell? ⟨blk,0+t,none⟩=some (j1 (G t))) {i j:Nat} (hi:i<size) (hj:j<size):
  qa P E.gAll1 #[.int .i64 i,.int .i64 j,.pointer (some ⟨ob,0,none⟩)] W fun v w'=>v=.bool (ltU (G i) (G j))/\∃ q,w'=W.drewN q:=by
 refine qa.enter H.less zS ?_
 intro a hsz hdf harg
 have e0:=harg 0 (.int .i64 i) zS
 have e1:=harg 1 (.int .i64 j) zS
 have e2:=harg 2 (.pointer (some ⟨ob,0,none⟩)) zS
 unfold c_gAll1
 refine vX (rA (dn ?_))
 have hst:(∃ q,({ W with drawn:=W.drawn+1 }:World)=W.drewN q):=⟨1,rfl⟩
 generalize hA:Act.put a _ _=A
 have hsA:A.tmps.size=15:=by rw[← hA,zP];exact hsz
 have hdA:A.defers=[]:=by rw[← hA,dF];exact hdf
 have k0:A.eval (.tmp 0)=.int .i64 i:=by rw[← hA];exact zA
 have k1:A.eval (.tmp 1)=.int .i64 j:=by rw[← hA];exact zA
 have k2:A.eval (.tmp 2)=.pointer (some ⟨ob,0,none⟩):=by rw[← hA];exact zA
 clear hA
 refine vS (xq [(0,true),(1,true),(2,true),(3,true),(4,true),(5,true),(6,true),(7,true),(8,true),(9,true)] (fun W'=>∃ q,W'=W.drewN q) H.mixed (by kernel_rfl) rfl (by kernel_rfl) (fun _ _ _ _ h=>False.elim h) ?_)
 have e1o:qb W 0 0 []:=fun i v h=>by simp at h
 refine dP rfl rfl rfl (wN rfl) (by simp only[zP,hsA];omega) hst (fun w' ⟨q,hq⟩=>rL (b:=ob) (o:=0) (v:=.slice (some ⟨blk,0,none⟩) size c) zA H.oU32s (by rw[yb hq];exact hs) (dn ⟨rfl,rfl,rfl⟩)) ?_
 refine dP rfl rfl rfl (wN rfl) (by simp only[zP,hsA];omega) hst (fun w' _=>rM (dn ⟨rfl,rfl,rfl⟩)) ?_
 refine dP rfl rfl rfl (wN rfl) (by simp only[zP,hsA];omega) hst (fun w' _=>qH (b:=blk) (o:=0) (len:=size) (cap:=c) (k:=.i64) (j:=i) (rB H.row) zE zA hi (dn ⟨rfl,rfl,rfl⟩)) ?_
 refine dP rfl rfl rfl (wN rfl) (by simp only[zP,hsA];omega) hst (fun w' ⟨q,hq⟩=>rL (b:=blk) (o:=0+i*1) (v:=j1 (G i)) zE H.oU32 (by rw[yb hq,Nat.mul_one];exact hc i hi) (dn ⟨rfl,rfl,rfl⟩)) ?_
 refine dP rfl rfl rfl (wN rfl) (by simp only[zP,hsA];omega) hst (fun w' ⟨q,hq⟩=>rL (b:=ob) (o:=0) (v:=.slice (some ⟨blk,0,none⟩) size c) zA H.oU32s (by rw[yb hq];exact hs) (dn ⟨rfl,rfl,rfl⟩)) ?_
 refine dP rfl rfl rfl (wN rfl) (by simp only[zP,hsA];omega) hst (fun w' _=>rM (dn ⟨rfl,rfl,rfl⟩)) ?_
 refine dP rfl rfl rfl (wN rfl) (by simp only[zP,hsA];omega) hst (fun w' _=>qH (b:=blk) (o:=0) (len:=size) (cap:=c) (k:=.i64) (j:=j) (rB H.row) zE zA hj (dn ⟨rfl,rfl,rfl⟩)) ?_
 refine dP rfl rfl rfl (wN rfl) (by simp only[zP,hsA];omega) hst (fun w' ⟨q,hq⟩=>rL (b:=blk) (o:=0+j*1) (v:=j1 (G j)) zE H.oU32 (by rw[yb hq,Nat.mul_one];exact hc j hj) (dn ⟨rfl,rfl,rfl⟩)) ?_
 refine dP rfl rfl rfl (wN rfl) (by simp only[zP,hsA];omega) hst (fun w' _=>xm (k:=.u32) (m:=(G i:Int)) (n:=(G j:Int)) zM zM (dn ⟨rfl,rfl,rfl⟩)) ?_
 refine dP rfl rfl rfl (wN rfl) (by simp only[zP,hsA];omega) hst (fun w' _=>rA (dn ⟨rfl,rfl,rfl⟩)) ?_
 refine xI ?_
 refine vS (vT ?_)
 refine ⟨by simp only[dF];exact hdA,.bool (ltU (G i) (G j)),rO ?_,rfl,1,rfl⟩
 simp (disch:=(try simp only[sP]);omega) only[eV]
 simp[ltU]
theorem eff_sorted {blk:Nat} {d:Array Nat} {os:Array Obj}:Eff (fun k _=>k=blk) w (Go.Sort.grow (Go.Sort.putRow j1 (Go.Sort.ahead w n) blk 0 d) os):=by
 refine ⟨rfl,rfl,rfl,?_,fun k hk=>?_⟩
 ·simp[Go.Sort.grow,Go.Sort.putRow,Go.Sort.mapBlock,Go.Sort.ahead]
 ·have h1:(Go.Sort.grow (Go.Sort.putRow j1 (Go.Sort.ahead w n) blk 0 d) os).heap[k]? = (Go.Sort.putRow j1 (Go.Sort.ahead w n) blk 0 d).heap[k]?:=Go.Sort.heap_grow_old _ _ (by simpa [Go.Sort.putRow,Go.Sort.mapBlock,Go.Sort.ahead] using hk)
  rw[h1]
  show qX (fun _=>k=blk) w.heap[k]? (w.heap.modify blk (Go.Sort.onCells (Go.Sort.putCells j1 0 d)))[k]?
  rw[Array.getElem?_modify]
  by_cases hb:blk=k
  ·subst hb
   simp only[if_true]
   cases hh:w.heap[blk]? with
   | none=>exact qX.refl _ _
   | some x =>
    cases x with
    | cells c T f=>exact ⟨_,rfl,by simp[Go.Sort.putCells],fun i hi=>absurd trivial hi⟩
    | _=>exact qX.refl _ _
  ·simp only[if_neg hb]
   exact qX.refl _ _
theorem getD_toArray (ks:List Nat) (j:Nat) (h:j<ks.length):ks.toArray[j]! = ks[j]:=by simp[h]
theorem k_sort (H:SortE P E) {ob:Nat} {ks:List Nat} (hown:w.ownsRow U E.tW 1 v n (ks.map j1)) (hn:ks.length=n) (h1:1<=n) (hbig:n<=big) (hob:w.cell? ⟨ob,0,none⟩=some v) (hne:∀ a c,v=.slice (some ⟨a,0,none⟩) n c->ob≠a):
  qa P E.sortSlice #[.iface E.tU32s v,.func (.func E.gAll1) #[] #[.pointer (some ⟨ob,0,none⟩)]] w fun _ w'=>∃ (blk cap:Nat) (ks':List Nat),v=.slice (some ⟨blk,0,none⟩) n cap/\U<=blk/\blk<w.heap.size/\ks'.Perm ks/\ks'.Pairwise (·<=·)/\qb w' blk 0 (ks'.map j1)/\Eff (fun k _=>k=blk) w w':=by
 refine ⟨H.enters,?_⟩
 obtain ⟨ρ,L,hρ⟩:=H.L
 obtain ⟨i,ie,hi,hd,hpk,hie,hs1,hptr,hby⟩:=H.info
 have hagg:∀ w,(isAgg E.tW).run P w=.ok false w:=fun w=>kR H.oU32
 rcases hown.2 with ⟨_,h0⟩ | ⟨g,cap,cur,rfl,hbg,hg,hnc,hcm,hcs,htake⟩
 ·omega
 have hglt:g<w.heap.size:=(Array.getElem?_eq_some_iff.1 hg).1
 have hobg:ob≠g:=hne g cap rfl
 have hoblt:ob<w.heap.size:=qi hob
 have hbig':big<=2147483000:=Nat.le_refl _
 have hcells:qb w g 0 (ks.map j1):=by
  intro j u hu
  have:=hown.cells (g:=g) rfl j u hu
  rwa [Addr.add_lit] at this
 by_cases h2:2<=n
 ·have hK:Go.Lib.swapperK n ie 10=6:=by
   have c0:(n==0)=false:=by simp;omega
   have c1:(n==1)=false:=by simp;omega
   simp[Go.Lib.swapperK,hptr,hby,c0,c1]
  obtain ⟨f,gS,hf,hx⟩:=H.sw6
  have hsz:ks.toArray.size=n:=by simpa using hn
  have hH:Go.Sort.Holds j1 w g 0 ks.toArray:=by
   intro j hj
   have hj':j<ks.length:=by simpa using hj
   refine ⟨?_,by simp[World.frozen?,hg]⟩
   rw[getD_toArray ks j hj']
   exact hcells j (j1 ks[j]) (by simp[hj'])
  have hless:Go.Proofs.LessReads P E.gAll1 #[.pointer (some ⟨ob,0,none⟩)] j1 ltU g 0 n w:=by
   intro m os dk hdk x y hx hy
   have hgl:g<(Go.Sort.ahead w m).heap.size:=hglt
   have e:Go.Proofs.sortWorld j1 w g 0 m dk os=Go.Sort.grow (Go.Sort.putRow j1 (Go.Sort.ahead w m) g 0 dk) os:=rfl
   have hsp:(Go.Sort.putRow j1 (Go.Sort.ahead w m) g 0 dk).heap.size=w.heap.size:=by simp[Go.Sort.putRow,Go.Sort.mapBlock,Go.Sort.ahead]
   have hHa:Go.Sort.Holds j1 (Go.Sort.ahead w m) g 0 ks.toArray:=Go.Sort.holds_ahead _ _ _ _ _ _ hH
   have:=(k_gAll1 H (W:=Go.Proofs.sortWorld j1 w g 0 m dk os) (ob:=ob) (blk:=g) (size:=n) (c:=cap) (G:=fun t=>dk[t]!) ?_ ?_ hx hy).2
   ·refine this.mono ?_
    rintro e w' ⟨v,rfl,rfl,q,hq⟩
    exact ⟨rfl,q,hq⟩
   ·rw[e,Go.Sort.cell?_grow _ _ _ (by show ob<_;rw[hsp];exact hoblt),Go.Sort.cell?_putRow_other _ _ g 0 dk _ (Or.inl (by show ob≠g;exact hobg))]
    exact hob
   ·intro t ht
    rw[e,Go.Sort.cell?_grow _ _ _ (by show g<_;rw[hsp];exact hglt)]
    exact Go.Sort.cell?_putRow j1 _ g 0 ks.toArray dk hHa (by rw[hdk,hsz]) t zH
  have hS:=Go.Proofs.Any.sort_Slice_sorted L E.tU32s E.tW i ie hi hd hpk hie 10 H.kind hs1 hagg j1 (fun _=>rfl) ltU swoU E.gAll1 #[.pointer (some ⟨ob,0,none⟩)] (fun args w=>H.less.enters args w) g 0 cap ks.toArray zH zH f
   (by rw[hsz,hK];exact hf) gS hx w (by rw[hsz];exact hless) hH hglt
  rw[hρ,hsz] at hS
  refine hS.mono ?_
  rintro e w' ⟨rfl,d',q,os,hp,hso,rfl⟩
  obtain ⟨hpz,_,hpp⟩:=hp
  have hdz:d'.size=n:=by rw[hpz,hsz]
  refine ⟨_,rfl,g,cap,d'.toList,rfl,hbg,hglt,?_,?_,?_,eff_sorted⟩
  ·have e1:d'.extract 0 n=d':=by rw[← hdz];simp
   have e2:ks.toArray.extract 0 n=ks.toArray:=by rw[← hsz];simp
   rw[e1,e2] at hpp
   simpa using hpp
  ·refine List.pairwise_iff_getElem.2 fun x y hx hy hxy=>?_
   have hx':x<d'.size:=by simpa using hx
   have hy':y<d'.size:=by simpa using hy
   have:=hso x y (Nat.zero_le _) hxy zH
   simp only[ltU,decide_eq_false_iff_not] at this
   rw[getElem!_pos d' x hx',getElem!_pos d' y hy'] at this
   simp only[Array.getElem_toList]
   omega
  ·intro j u hu
   have hj:j<d'.size:=by
    rcases Nat.lt_or_ge j d'.size with h | h
    ·exact h
    ·rw[List.getElem?_eq_none (by simpa using h)] at hu;cases hu
   have hsp:(Go.Sort.putRow j1 (Go.Sort.ahead w q) g 0 d').heap.size=w.heap.size:=by simp[Go.Sort.putRow,Go.Sort.mapBlock,Go.Sort.ahead]
   have hHa:Go.Sort.Holds j1 (Go.Sort.ahead w q) g 0 ks.toArray:=Go.Sort.holds_ahead _ _ _ _ _ _ hH
   rw[Go.Sort.cell?_grow _ _ _ (by show g<_;rw[hsp];exact hglt),Go.Sort.cell?_putRow j1 _ g 0 ks.toArray d' hHa (by rw[hdz,hsz]) j hj,getElem!_pos d' j hj]
   simp only[List.getElem?_map,Array.getElem?_toList,Array.getElem?_eq_getElem hj,Option.map_some,Option.some.injEq] at hu
   rw[hu]
 ·have hn1:n=1:=by omega
  subst hn1
  obtain ⟨f,hf⟩:=H.sw2
  have hK:Go.Lib.swapperK 1 ie 10=2:=by simp[Go.Lib.swapperK]
  have hS:=Go.Proofs.Any.sort_Slice_tiny L E.tU32s E.tW i ie hi hd hpk hie 10 H.kind (some ⟨g,0,none⟩) 1 cap (Nat.le_refl _) f (by rw[hK];exact hf) (.func E.gAll1) #[] #[.pointer (some ⟨ob,0,none⟩)] w
  rw[hρ] at hS
  refine hS.mono ?_
  rintro e w' ⟨rfl,os,rfl⟩
  refine ⟨_,rfl,g,cap,ks,rfl,hbg,hglt,List.Perm.refl _,?_,?_,?_⟩
  ·match ks,hn with
   | [x],_=>exact List.pairwise_singleton _ _
  ·intro j u hu
   rw[Go.Sort.cell?_grow _ _ _ hglt]
   exact hcells j u hu
  ·refine ⟨rfl,rfl,rfl,by simp[Go.Sort.grow],fun k hk=>qX.of_eq (Go.Sort.heap_grow_old _ _ hk)⟩
theorem kJ (h:w.ownsRow B e s v n xs) (hk:∀ g,v.ownBlock=some g->w'.heap[g]? = w.heap[g]?):w'.ownsRow B e s v n xs:=by
 refine ⟨h.1,?_⟩
 rcases h.2 with h | ⟨g,cap,cur,rfl,h2,h3,h4⟩
 ·exact .inl h
 ·exact .inr ⟨g,cap,cur,rfl,h2,by rw[hk g rfl];exact h3,h4⟩
theorem own_lt (h:w.ownsRow B e s v n xs):∀ g,v.ownBlock=some g->B<=g/\g<w.heap.size:=by
 intro g hg
 rcases h.2 with ⟨rfl,_⟩ | ⟨g',cap,cur,rfl,h2,h3,h4⟩
 ·cases hg
 ·simp only[Value.ownBlock,Option.some.injEq] at hg
  subst hg
  exact ⟨h2,(Array.getElem?_eq_some_iff.1 h3).1⟩
theorem gG (h:w.ownsRow B e s v n xs):v.oneCell'=true/\v.cells=#[v]:=by
 rcases h.2 with ⟨rfl,_⟩ | ⟨g',cap,cur,rfl,h2,h3,h4⟩<;>exact ⟨rfl,rfl⟩
structure DSt (E:Env) (U db:Nat) (w:World) (dv:Value) (xs:List UInt8):Prop where
 cell:w.cell? ⟨db,0,none⟩=some dv
 free:qr w db 0
 own:w.ownsRow U E.tU8 1 dv xs.length (xs.map bv)
 ne:dv.ownBlock≠some db
 U:U<=db
structure DKeep (U db:Nat) (w:World) (dv:Value) (w':World) (dv':Value):Prop where
 below:Below U w w'
 same:∀ k,k<w.heap.size->k≠db->dv.ownBlock≠some k->w'.heap[k]? = w.heap[k]?
 row:∀ g,dv'.ownBlock=some g->dv.ownBlock=some g\/w.heap.size<=g
theorem DKeep.refl (U db:Nat) (w:World) (dv:Value):DKeep U db w dv w dv:=⟨Below.refl _ _,fun _ _ _ _=>rfl,fun _ h=>.inl h⟩
theorem DKeep.trans {U db:Nat} {w w1 w2:World} {dv d1 d2:Value} (h:DKeep U db w dv w1 d1) (k:DKeep U db w1 d1 w2 d2):DKeep U db w dv w2 d2:=by
 have hz:=h.below.size
 refine ⟨h.below.trans k.below,fun j hj hd hr=>?_,fun g hg=>?_⟩
 ·rw[k.same j zH hd (fun e=>?_),h.same j hj hd hr]
  rcases h.row j e with h1 | h1
  ·exact hr h1
  ·omega
 ·rcases k.row g hg with h1 | h1
  ·exact h.row g h1
  ·exact .inr zH
theorem DSt.step {db:Nat} {w1:World} {dv d1:Value} {xs ys:List UInt8} (h:DSt E U db w dv xs) (ho:w1.ownsRow U E.tU8 1 d1 ys.length (ys.map bv)) (hb:Below U w w1) (hk:Keep w dv d1 w1):qr w1 db 0/\DSt E U db (w1.setCell ⟨db,0,none⟩ d1) d1 ys/\DKeep U db w dv (w1.setCell ⟨db,0,none⟩ d1) d1:=by
 have hdb:db<w.heap.size:=qi h.cell
 have hz:=hb.size
 have hf1:qr w1 db 0:=zC (hk.1 db hdb h.ne) h.free
 have hne:d1.ownBlock≠some db:=fun e=>by
  rcases hk.2 db e with h1 | h1
  ·exact h.ne h1
  ·omega
 refine ⟨hf1,⟨qo _ hf1.1,hf1.eff ((Eff.refl (fun k _=>k=db) _).setCell _ _ _ (fun _=>rfl)),kJ ho (fun g hg=>Below.heap_setCell _ _ _ _ (fun e=>hne (by rw[hg,e]))),hne,h.U⟩,hb.setCell (p:=⟨db,0,none⟩) h.U _,fun k hk1 hk2 hk3=>?_,hk.2⟩
 rw[Below.heap_setCell _ _ _ _ hk2]
 exact hk.1 k hk1 hk3
theorem k_gEach1 (ht:Text P E.gEach1 2 16 #[] (pa E)) (huv:∀ (n:Nat) U w,n<4294967296->Wr1K P E E.wUvarint U [.int .u32 n] (Go.Km.uvar n) w) (HB:xo P E.tB E.tU8 1=true) (oB:qW P E.tB=true) (iu:qu P E.tW=some .u32) (ii:qu P E.tI=some .i64) {db:Nat} {dv val:Value} {xs:List UInt8} (hd:DSt E U db w dv xs) (hk:k<4294967296) (hv:∃ ad cap,val=.slice ad l.length cap) (hsrc:∀ w',Below U w w'->Src P 1 E.tB val l.length (l.map bv) w') (hb:xs.length+(qV (k,l)).length<=big):
  qa P E.gEach1 #[.int .u32 (k:Int),val,.pointer (some ⟨db,0,none⟩)] w fun _ w'=>∃ dv',DSt E U db w' dv' (xs++qV (k,l))/\DKeep U db w dv w' dv':=by
 have hbig:big<=2147483000:=Nat.le_refl _
 have hwr:(qV (k,l)).length=(Go.Km.uvar k).length+(Go.Km.uvar l.length).length+l.length:=by simp[qV];omega
 obtain ⟨ad,cap,hval⟩:=hv
 refine qa.enter ht zS ?_
 intro a hsz hdf harg
 have e0:=harg 0 (.int .u32 (k:Int)) zS
 have e1:=harg 1 val zS
 have e2:=harg 2 (.pointer (some ⟨db,0,none⟩)) zS
 have hUw:U<=w.heap.size:=by have:=qi hd.cell;have:=hd.U;omega
 unfold pa
 refine vX ?_
 refine rL (b:=db) (o:=0) (v:=dv) zA oB hd.cell ?_
 refine rM ?_
 refine q8 (args:=#[dv,.int .u32 (k:Int)]) ?_ (huv k U w hk dv xs hd.own hUw zH) ?_
 ·simp only[lM]
  simp (disch:=(try simp only[sP]);omega) only[eV,e0]
 rintro d1 w1 ⟨ho1,hb1,hk1⟩
 obtain ⟨hf1,hd1,hkp1⟩:=hd.step ho1 hb1 hk1
 refine xC (b:=db) (o:=0) (v:=d1) zA zE (gG ho1).1 oB hf1 ?_
 refine dn ?_
 generalize w1.setCell ⟨db,0,none⟩ d1=w2 at *
 have hUw2:U<=w2.heap.size:=by have:=hkp1.below.size;omega
 refine vX ?_
 refine rL (b:=db) (o:=0) (v:=d1) zA oB hd1.cell ?_
 refine rM ?_
 refine xh (ad:=ad) (n:=l.length) (c:=cap) (rB HB) (by simp (disch:=(try simp only[sP]);omega) only[eV,e1,hval]) ?_
 refine qY (k:=.i64) (k':=.u32) (m:=(l.length:Int)) ii iu zE ?_
 rw[wrapu32 zH zH]
 refine q8 (args:=#[d1,.int .u32 (l.length:Int)]) ?_ (huv l.length U w2 zH d1 _ hd1.own hUw2 (by simp only[List.length_append];omega)) ?_
 ·simp only[lM]
  exact zE
 rintro d2 w3 ⟨ho2,hb2,hk2⟩
 obtain ⟨hf2,hd2,hkp2⟩:=hd1.step ho2 hb2 hk2
 refine xC (b:=db) (o:=0) (v:=d2) zA zE (gG ho2).1 oB hf2 ?_
 refine dn ?_
 generalize w3.setCell ⟨db,0,none⟩ d2=w4 at *
 have hkp12:=hkp1.trans hkp2
 have hUw4:U<=w4.heap.size:=by have:=hkp12.below.size;omega
 refine vX ?_
 refine rL (b:=db) (o:=0) (v:=d2) zA oB hd2.cell ?_
 refine rM ?_
 refine r_appendK (U:=U) (v:=d2) (n:=(xs++Go.Km.uvar k++Go.Km.uvar l.length).length) (xs:=(xs++Go.Km.uvar k++Go.Km.uvar l.length).map bv) (u:=val) (m:=l.length) (news:=l.map bv) HB zE zA hd2.own hUw4 (hsrc _ hkp12.below) (by simp only[List.length_append];omega) ?_
 intro d3 w5 ho3 hb3 hk3
 have ho3':w5.ownsRow U E.tU8 1 d3 (xs++qV (k,l)).length ((xs++qV (k,l)).map bv):=by
  have e:xs++qV (k,l)=(xs++Go.Km.uvar k++Go.Km.uvar l.length)++l:=by simp[qV,List.append_assoc]
  rw[e,List.length_append,List.map_append]
  exact ho3
 obtain ⟨hf3,hd3,hkp3⟩:=hd2.step ho3' hb3 hk3
 refine xC (b:=db) (o:=0) (v:=d3) zA zE (gG ho3').1 oB hf3 ?_
 refine dn (vN ?_)
 exact ⟨by simp only[dF];exact hdf,.tuple #[],by simp[results],d3,hd3,hkp12.trans hkp3⟩
section
open Go.ChangeMaps
theorem r_callF {d f x xs ts ty p af g pre post args} (hx:a.eval x=.func (.func f) pre post) (ha:pre++xs.map a.eval++post=args) (h:qa P f args w S) (hn:∀ v w',S v w'->rO_ P Q r (a.put d v) w'):
  rO_ P Q (⟨d,.call { callee:=.value x,args:=xs,argTypes:=ts },ty,p,af,g⟩::r) a w:=by
 refine st ?_
 obtain ⟨he,hc⟩:=h
 have h3:(callFunc f (pre++xs.map a.eval++post)).run P w=.ok (.enter f args) w:=by rw[ha];exact he args w
 simp only[Oper.wp,execOp,resolve,hx,Deferred.ofValue,Sem.run_bind,Sem.run_pure,Result.andThen_ok,invoke]
 simp only[Oper.upon,h3]
 refine hc.mono ?_
 rintro e w' ⟨v,rfl,hs⟩
 exact hn v w' hs
theorem r_range {d t x ty p af g q es clock kt et} (ht:P.underlying t=some (.map kt et)) (hx:a.eval x=.map (some q)) (hq:w.heap[q]? = some (.map es clock)) (h:rO_ P Q r (a.put (some d) (.pointer (some ⟨w.heap.size,0,none⟩))) (w.alloc (.mapIter (some q) clock #[] clock))):
  rO_ P Q (⟨some d,.range t x,ty,p,af,g⟩::r) a w:=by
 refine st ?_
 simp only[Oper.wp,execOp,hx,Sem.run_bind,run_range_map w t kt et q es clock ht hq,Sem.run_pure,Result.andThen_ok,Oper.upon_value]
 exact h
theorem r_next {d x ty p af g rr q es clock seen} (hx:a.eval x=.pointer (some ⟨rr,0,none⟩)) (hr:w.heap[rr]? = some (.mapIter (some q) clock seen clock)) (hq:w.heap[q]? = some (.map es clock)) (hold:∀ e ∈ es.toList,e.born<clock) (h0:(leftOf es seen).size=0->rO_ P Q r (a.put (some d) (.tuple #[.bool false])) w) (h1:∀ e ∈ (leftOf es seen).toList,∀ w1:World,(w1=w\/w1=w.drew)->rO_ P Q r (a.put (some d) (.tuple #[.bool true,e.key,e.val])) (setBlock w1 rr (.mapIter (some q) clock (seen.push e.born) clock))):
  rO_ P Q (⟨some d,.next x false,ty,p,af,g⟩::r) a w:=by
 refine st ?_
 rcases run_next_at (P:=P) w ty rr q clock clock seen es clock hr hq hold (Nat.le_refl _) with ⟨hz,hrun⟩ | ⟨e,he,w1,hw1,hrun⟩
 ·simp only[Oper.wp,execOp,hx,Sem.run_bind,hrun,Sem.run_pure,Result.andThen_ok,Oper.upon_value]
  exact h0 hz
 ·simp only[Oper.wp,execOp,hx,Sem.run_bind,hrun,Sem.run_pure,Result.andThen_ok,Oper.upon_value]
  exact h1 e he w1 hw1
theorem r_entry {d x ty p af g rr q since} {seen:Array Nat} {es:Array MapEntry} {clock:Nat} {e:MapEntry} (hx:a.eval x=.pointer (some ⟨rr,0,none⟩)) (hr:w.heap[rr]? = some (.mapIter (some q) since (seen.push e.born) clock)) (hq:w.heap[q]? = some (.map es clock)) (he:e ∈ es.toList) (hn:(es.toList.map (·.born)).Nodup) (h:rO_ P Q r (a.put (some d) (.tuple #[e.key,e.val])) w):rO_ P Q (⟨some d,.entry x,ty,p,af,g⟩::r) a w:=by
 refine st ?_
 simp only[Oper.wp,execOp,hx,Sem.run_bind,run_entry_at (P:=P) w rr q since seen es clock e hr hq he hn,Sem.run_pure,Result.andThen_ok,Oper.upon_value]
 exact h
theorem r_lookup {d t x i ty p af g kt et q es clock k j e} {l:List (Nat × List UInt8)} (ht:P.underlying t=some (.map kt et)) (hk:P.underlying kt=some (.int .u32)) (hx:a.eval x=.map (some q)) (hi:a.eval i=.int .u32 ((k:Nat):Int)) (hq:w.heap[q]? = some (.map es clock)) (hl:l.length=es.size) (hkeys:∀ (i:Nat) x,l[i]? = some x->∃ e:MapEntry,es[i]? = some e/\e.key=.int .u32 (x.1:Int)) (hf:l.findIdx? (·.1==k)=some j) (he:es[j]? = some e) (h:rO_ P Q r (a.put (some d) e.val) w):rO_ P Q (⟨some d,.lookup t x i false,ty,p,af,g⟩::r) a w:=by
 refine st ?_
 have hg:(getObj q).run P w=.ok (.map es clock) w:=by simp[getObj,Sem.run,hq]
 have hfk:=run_findKey (P:=P) (k:=k) (w:=w) (es:=es.toList) (l:=l) hk (by simpa using hl) (fun i x hx=>by obtain ⟨e,e1,e2⟩:=hkeys i x hx;exact ⟨e,by simpa using e1,e2⟩)
 rw[hf] at hfk
 simp only[Option.bind_some,Array.getElem?_toList,he,Option.map_some] at hfk
 have hr:(Instr.lookup t (.map (some q)) (.int .u32 ((k:Nat):Int)) false).run P w=.ok e.val w:=by
  simp[Instr.lookup,run_underlying ht,hg,yL hk,hfk]
 simp only[Oper.wp,execOp,hx,hi,Sem.run_bind,hr,Sem.run_pure,Result.andThen_ok,Oper.upon_value]
 exact h
theorem r_makeIface {d t x ty p af g e} (ht:P.underlying t=some (.slice e)) (h:rO_ P Q r (a.put (some d) (.iface t (a.eval x))) w):rO_ P Q (⟨some d,.makeInterface t x,ty,p,af,g⟩::r) a w:=by
 refine st ?_
 have hr:(Instr.makeInterface t (a.eval x)).run P w=.ok (.iface t (a.eval x)) w:=by simp[Instr.makeInterface,run_underlying ht]
 simp only[Oper.wp,execOp,Sem.run_bind,hr,Sem.run_pure,Result.andThen_ok,Oper.upon_value]
 exact h
theorem r_makeSlice {d t l c ty p af g e s} (hB:xo P t e s=true) (hl:a.eval l=.int .i64 0) (hc:a.eval c=.int .i64 (n:Int)) (hn:n<=big) (h:∀ w',w'.ownsRow w.heap.size e s (.slice (some ⟨w.heap.size,0,none⟩) 0 n) 0 []->Below w.heap.size w w'->w'.heap.size=w.heap.size+1->rO_ P Q r (a.put (some d) (.slice (some ⟨w.heap.size,0,none⟩) 0 n)) w'):
  rO_ P Q (⟨some d,.makeSlice t l c,ty,p,af,g⟩::r) a w:=by
 refine st ?_
 obtain ⟨hu,i,z,hi,hsz,hs0,hz,hzs,hby⟩:=xW hB
 have hbig:big<=2147483000:=Nat.le_refl _
 have hbytes:i.bytes*n<=281474976710656:=by
  have:=Nat.mul_le_mul hby hn
  unfold big at this
  omega
 have h63:(n:Int)<=9223372036854775807:=by omega
 have hb':(i.bytes:Int)*(n:Int)<=281474976710656:=by
  have h:((i.bytes*n:Nat):Int)<=281474976710656:=by omega
  rwa [Int.natCast_mul] at h
 have hr:=run_make (P:=P) w t e i z hu hi hz .i64 .i64 0 n (Int.le_refl _) zH hb' h63
 simp only[Int.toNat_zero,Int.toNat_natCast] at hr
 simp only[Oper.wp,execOp,hl,hc,Sem.run_bind,hr,Sem.run_pure,Result.andThen_ok,Oper.upon_value]
 refine h _ ?_ ((Below.refl w.heap.size w).alloc (o:=.cells _ _) (Nat.le_refl _)) zS
 rw[hsz]
 exact World.ownsRow_made w _ n (Nat.le_refl _) (by unfold maxLen;omega) (size_madeCells _ _)
theorem perm_left:∀ (L:List MapEntry) (e:MapEntry),(L.map (·.born)).Nodup->e ∈ L->L.Perm (e::L.filter (fun x=>x.born != e.born))
 | [],e,_,h=>by simp at h
 | x::L,e,hn,h=>by
  simp only[List.map_cons] at hn
  have hn2:=List.nodup_cons.1 hn
  rcases List.mem_cons.1 h with rfl | h
  ·have:L.filter (fun x=>x.born != e.born)=L:=by
    refine List.filter_eq_self.2 fun y hy=>?_
    have:y.born≠e.born:=fun hh=>hn2.1 (by rw[← hh];exact List.mem_map.2 ⟨y,hy,rfl⟩)
    simpa using this
   rw[List.filter_cons_of_neg zS,this]
  ·have hne:x.born≠e.born:=fun hh=>hn2.1 (by rw[hh];exact List.mem_map.2 ⟨e,h,rfl⟩)
   rw[List.filter_cons_of_pos (by simpa using hne)]
   exact ((perm_left L e hn2.2 h).cons x).trans (List.Perm.swap _ _ _)
theorem left_push (es:Array MapEntry) (seen:Array Nat) (e:MapEntry):(leftOf es (seen.push e.born)).toList=(leftOf es seen).toList.filter (fun x=>x.born != e.born):=by
 unfold leftOf
 simp only[Array.toList_filter,List.filter_filter]
 congr 1
 funext x
 rw[Array.contains_push]
 cases h1:seen.contains x.born<;>cases h2:(x.born==e.born)<;>simp[bne,h1,h2]
theorem left_step {es:Array MapEntry} {seen:Array Nat} {e:MapEntry} (hn:(es.toList.map (·.born)).Nodup) (he:e ∈ (leftOf es seen).toList):(leftOf es seen).toList.Perm (e::(leftOf es (seen.push e.born)).toList):=by
 rw[left_push]
 refine perm_left _ e ?_ he
 unfold leftOf
 rw[Array.toList_filter]
 exact hn.sublist (List.filter_sublist.map _)
def ky (e:MapEntry):Nat:=match e.key with | .int _ n=>n.toNat | _=>0
theorem keyOf_eq {e:MapEntry} (h:e.key=.int .u32 (n:Int)):ky e=n:=by simp[ky,h]
theorem keys_eq {es:Array MapEntry} {l:List (Nat × List UInt8)} (hl:l.length=es.size) (h:∀ (i:Nat) x,l[i]? = some x->∃ e:MapEntry,es[i]? = some e/\e.key=.int .u32 (x.1:Int)):es.toList.map ky=l.map (·.1):=by
 apply List.ext_getElem?
 intro i
 simp only[List.getElem?_map,Array.getElem?_toList]
 rcases Nat.lt_or_ge i l.length with hi | hi
 ·obtain ⟨e,h1,h2⟩:=h i l[i] (List.getElem?_eq_getElem hi)
  rw[h1,List.getElem?_eq_getElem hi]
  simp[keyOf_eq h2]
 ·rw[List.getElem?_eq_none hi,Array.getElem?_eq_none zH]
  rfl
theorem key_enc {es:Array MapEntry} {l:List (Nat × List UInt8)} (hl:l.length=es.size) (h:∀ (i:Nat) x,l[i]? = some x->∃ e:MapEntry,es[i]? = some e/\e.key=.int .u32 (x.1:Int)) {e:MapEntry} (he:e ∈ es.toList):e.key=j1 (ky e):=by
 obtain ⟨i,hi,rfl⟩:=List.mem_iff_getElem.1 he
 have hi':i<es.size:=by simpa using hi
 obtain ⟨e',h1,h2⟩:=h i (l[i]'zH) (List.getElem?_eq_getElem zH)
 have h3:es.toList[i]=e':=by
  rw[Array.getElem?_eq_getElem hi'] at h1
  simpa using h1
 rw[h3,keyOf_eq h2,h2]
 rfl
end
section
open Go.ChangeMaps
theorem vw:∀ (a b:List Nat),a.Perm b->a.Pairwise (·<=·)->b.Pairwise (· < ·)->a=b
 | [],b,h,_,_=>(List.nil_perm.1 h).symm
 | x::a,[],h,_,_=>by have:=h.length_eq;simp at this
 | x::a,y::b,h,h1,h2=>by
  have h3:=List.pairwise_cons.1 h1
  have h4:=List.pairwise_cons.1 h2
  have hx:x ∈ y::b:=h.mem_iff.1 zS
  have hy:y ∈ x::a:=h.mem_iff.2 zS
  have e:x=y:=by
   rcases List.mem_cons.1 hx with rfl | hx
   ·rfl
   ·rcases List.mem_cons.1 hy with rfl | hy
    ·rfl
    ·have:=h4.1 x hx
     have:=h3.1 y hy
     omega
  subst e
  rw[vw a b h.cons_inv h3.2 h4.2]
theorem tag_unique (h:tags.Pairwise (fun x y=>x.1<y.1)) {x y:Nat × List UInt8} (hx:x ∈ tags) (hy:y ∈ tags) (e:x.1=y.1):x=y:=by
 induction tags with
 | nil=>simp at hx
 | cons z l ih =>
  have h2:=List.pairwise_cons.1 h
  rcases List.mem_cons.1 hx with hx1 | hx1
  ·rcases List.mem_cons.1 hy with hy1 | hy1
   ·rw[hx1,hy1]
   ·have:=h2.1 y hy1;rw[hx1] at e;omega
  ·rcases List.mem_cons.1 hy with hy1 | hy1
   ·have:=h2.1 x hx1;rw[hy1] at e;omega
   ·exact ih h2.2 hx1 hy1
theorem tag_find {l:List (Nat × List UInt8)} (hp:l.Perm tags) (h:tags.Pairwise (fun x y=>x.1<y.1)) {x:Nat × List UInt8} (hx:x ∈ tags):∃ j,l.findIdx? (·.1==x.1)=some j/\l[j]? = some x:=by
 have hxl:x ∈ l:=hp.mem_iff.2 hx
 cases hf:l.findIdx? (·.1==x.1) with
 | none =>
  have:=List.findIdx?_eq_none_iff.1 hf x hxl
  simp at this
 | some j =>
  obtain ⟨hj,hk,_⟩:=List.findIdx?_eq_some_iff_getElem.1 hf
  have hk:(l[j]).1=x.1:=by simpa using hk
  refine ⟨j,rfl,?_⟩
  rw[List.getElem?_eq_getElem hj,tag_unique h (hp.mem_iff.1 (List.getElem_mem hj)) hx hk]
def TagIn (P:Program) (E:Env) (w:World) (U:Nat) (v:Value) (tags:List (Nat × List UInt8)):Prop :=
 gf tags/\((v=.map none/\tags=[])\/∃ (q:Nat) (es:Array MapEntry) (clock:Nat) (l:List (Nat × List UInt8)),v=.map (some q)/\q<U/\w.heap[q]? = some (.map es clock)/\(∀ e ∈ es.toList,e.born<clock)/\(es.toList.map (·.born)).Nodup/\l.Perm tags/\l.length=es.size ∧
  ∀ (i:Nat) (x:Nat × List UInt8),l[i]? = some x->∃ e:MapEntry,es[i]? = some e/\e.key=.int .u32 (x.1:Int)/\(∃ ad cap,e.val=.slice ad x.2.length cap)/\∀ w',Below U w w'->Src P 1 E.tB e.val x.2.length (x.2.map bv) w')
theorem flat_take {i:Nat} (hi:i<tags.length):((tags.take i).map qV).flatten.length+(qV tags[i]).length<=(tags.map qV).flatten.length:=by
 have e:tags=tags.take i++tags[i]::tags.drop (i+1):=by
  rw[List.getElem_cons_drop,List.take_append_drop]
 have:=congrArg (fun t=>(t.map qV).flatten.length) e
 simp only[List.map_append,List.map_cons,List.flatten_append,List.flatten_cons,List.length_append] at this
 omega
theorem k_gAll (HT:TagT P E) (HS:SortE P E) (ht:Text P E.gAll 2 53 #[] (gc E)) (ii:qu P E.tI=some .i64) (hg1:∀ {w:World} {U db k:Nat} {dv val:Value} {xs l:List UInt8},DSt E U db w dv xs->k<4294967296->(∃ ad cap,val=.slice ad l.length cap)->(∀ w',Below U w w'->Src P 1 E.tB val l.length (l.map bv) w')->xs.length+(qV (k,l)).length<=big →
   qa P E.gEach1 #[.int .u32 (k:Int),val,.pointer (some ⟨db,0,none⟩)] w fun _ w'=>∃ dv',DSt E U db w' dv' (xs++qV (k,l))/\DKeep U db w dv w' dv') {db:Nat} {dv:Value} {xs:List UInt8} (hcv:w.cell? ⟨b,o,none⟩=some v) (hbn:b≠db/\dv.ownBlock≠some b) (htg:TagIn P E w U v tags) (hd:DSt E U db w dv xs) (hn32:tags.length<=big) (hbg:xs.length+(tags.map qV).flatten.length<=big):
  qa P E.gAll #[.pointer (some ⟨b,o,none⟩),.func (.func E.gEach1) #[] #[.pointer (some ⟨db,0,none⟩)]] w fun _ w'=>∃ dv',DSt E U db w' dv' (xs++(tags.map qV).flatten)/\Below U w w'/\∀ k,k<w.heap.size->k≠db->dv.ownBlock≠some k->w'.heap[k]? = w.heap[k]?:=by
 obtain ⟨hok,htg⟩:=htg
 have hbig:big<=2147483000:=Nat.le_refl _
 have hdb:db<w.heap.size:=qi hd.cell
 have hUdb:=hd.U
 have hlen:(v=.map none/\tags.length=0)\/∃ q es clock,v=.map (some q)/\w.heap[q]? = some (.map es clock)/\es.size=tags.length:=by
  rcases htg with ⟨h1,rfl⟩ | ⟨q,es,clock,l,h1,_,h2,_,_,hp,hl,_⟩
  ·exact .inl ⟨h1,rfl⟩
  ·exact .inr ⟨q,es,clock,h1,h2,by rw[← hl];exact hp.length_eq⟩
 refine qa.enter ht zS ?_
 intro a hsz hdf harg
 have e0:=harg 0 (.pointer (some ⟨b,o,none⟩)) zS
 have e1:=harg 1 (.func (.func E.gEach1) #[] #[.pointer (some ⟨db,0,none⟩)]) zS
 generalize hfv:Value.func (.func E.gEach1) #[] #[.pointer (some ⟨db,0,none⟩)]=fv at *
 unfold gc
 refine vS (vX (rM ?_))
 refine xe (ad:=⟨b,o,none⟩) zA ?_
 refine rF (b:=b) (o:=o) zE HT.f0 ?_
 refine rL (b:=b) (o:=o+0) (v:=v) zE HT.oMap hcv ?_
 refine yv (v:=v) (n:=tags.length) HT.map zE hlen ?_
 refine xG (k:=.i64) (m:=((tags.length:Nat):Int)) (n:=0) zE rfl ?_
 refine dn ?_
 refine vS (vC (t:=(((tags.length:Nat):Int)==0)) zE ?_ ?_)
 ·intro h
  have h0:tags=[]:=by
   have:tags.length=0:=by simp only[beq_iff_eq] at h;omega
   exact List.eq_nil_of_length_eq_zero this
  subst h0
  refine vT ?_
  exact ⟨by simp only[dF];exact hdf,.tuple #[],by simp[results],dv,by simpa using hd,Below.refl _ _,fun _ _ _ _=>rfl⟩
 intro h
 have hne:1<=tags.length:=by
  rcases Nat.eq_zero_or_pos tags.length with h0 | h0
  ·rw[h0] at h;simp at h
  ·exact h0
 refine vK (vN ?_)
 rcases htg with ⟨_,rfl⟩ | ⟨q,es,clock,l,rfl,hqU,hq,hborn,hnod,hperm,hll,hent⟩
 ·simp at hne
 have hkeys:∀ (i:Nat) x,l[i]? = some x->∃ e:MapEntry,es[i]? = some e/\e.key=.int .u32 (x.1:Int):=fun i x hx=>by obtain ⟨e,h1,h2,_⟩:=hent i x hx;exact ⟨e,h1,h2⟩
 have hqlt:q<w.heap.size:=(Array.getElem?_eq_some_iff.1 hq).1
 have hblt:b<w.heap.size:=qi hcv
 -- the row of numbers
 refine vX (rM ?_)
 refine xe (ad:=⟨b,o,none⟩) zA ?_
 refine rF (b:=b) (o:=o) zE HT.f0 ?_
 refine rL (b:=b) (o:=o+0) (v:=.map (some q)) zE HT.oMap hcv ?_
 refine yv (v:=.map (some q)) (n:=tags.length) HT.map zE hlen ?_
 refine r_makeSlice (n:=tags.length) HS.row rfl zE hn32 ?_
 intro w1 hown1 hb1 hz1
 refine qR HS.zU32s ?_
 have hf1:qr (w1.alloc (.cells (Value.slice none 0 0).cells E.tU32s)) w1.heap.size 0:=qq w1 _ _ (by simp[Value.cells])
 refine xC (b:=w1.heap.size) (o:=0) (v:=.slice (some ⟨w.heap.size,0,none⟩) 0 tags.length) zE zE rfl HS.oU32s hf1 ?_
 refine dn ?_
 have hb2:Below w.heap.size w ((w1.alloc (.cells (Value.slice none 0 0).cells E.tU32s)).setCell ⟨w1.heap.size,0,none⟩ (.slice (some ⟨w.heap.size,0,none⟩) 0 tags.length)) :=
  (hb1.alloc (o:=.cells _ _) zH).setCell (p:=⟨w1.heap.size,0,none⟩) (by show w.heap.size<=w1.heap.size;omega) _
 have hc2:((w1.alloc (.cells (Value.slice none 0 0).cells E.tU32s)).setCell ⟨w1.heap.size,0,none⟩ (.slice (some ⟨w.heap.size,0,none⟩) 0 tags.length)).cell? ⟨w1.heap.size,0,none⟩=some (.slice (some ⟨w.heap.size,0,none⟩) 0 tags.length):=qo _ hf1.1
 have hf2:qr ((w1.alloc (.cells (Value.slice none 0 0).cells E.tU32s)).setCell ⟨w1.heap.size,0,none⟩ (.slice (some ⟨w.heap.size,0,none⟩) 0 tags.length)) w1.heap.size 0:=hf1.eff ((Eff.refl (fun k _=>k=w1.heap.size) _).setCell _ _ _ (fun _=>rfl))
 have hown2:((w1.alloc (.cells (Value.slice none 0 0).cells E.tU32s)).setCell ⟨w1.heap.size,0,none⟩ (.slice (some ⟨w.heap.size,0,none⟩) 0 tags.length)).ownsRow w.heap.size E.tW 1 (.slice (some ⟨w.heap.size,0,none⟩) 0 tags.length) 0 []:=by
  refine kJ (hown1.alloc _) (fun g hg=>Below.heap_setCell _ _ _ _ ?_)
  simp only[Value.ownBlock,Option.some.injEq] at hg
  show g≠w1.heap.size
  omega
 have hz2:((w1.alloc (.cells (Value.slice none 0 0).cells E.tU32s)).setCell ⟨w1.heap.size,0,none⟩ (.slice (some ⟨w.heap.size,0,none⟩) 0 tags.length)).heap.size=w.heap.size+2:=by simp;omega
 generalize (w1.alloc (.cells (Value.slice none 0 0).cells E.tU32s)).setCell ⟨w1.heap.size,0,none⟩ (.slice (some ⟨w.heap.size,0,none⟩) 0 tags.length)=w2 at *
 generalize ha1:Act.put _ (some 4) _=a1
 have hfr1:Fr (fun k=>k<2) a a1:=by
  subst ha1
  exact ((((((((((((((Fr.refl _ a).put _ zH).put _ zH).put _ zH).put _ zH).put _ zH).put _ zH).put _ zH).put _ zH).put _ zH).put _ zH).put _ zH).put _ zH).put _ zH)
 have h14:a1.eval (.tmp 4)=.pointer (some ⟨w1.heap.size,0,none⟩):=by subst ha1;exact zE
 have hs1:=hfr1.size
 clear ha1
 generalize hob:w1.heap.size=ob at *
 have hoB:ob=w.heap.size+1:=by omega
 -- the range
 refine vS (vX (rM ?_))
 refine xe (ad:=⟨b,o,none⟩) (by simp (disch:=(try simp only[sP]);omega) only[eV,hfr1.slot 0 zH,e0]) ?_
 refine rF (b:=b) (o:=o) zE HT.f0 ?_
 refine rL (b:=b) (o:=o+0) (v:=.map (some q)) zE HT.oMap (by rw[hb2.cell (p:=⟨b,o+0,none⟩) hblt];exact hcv) ?_
 refine r_range (q:=q) (es:=es) (clock:=clock) HT.map zE (by rw[hb2.block q hqlt];exact hq) ?_
 refine dn ?_
 have hb3:Below w.heap.size w (w2.alloc (.mapIter (some q) clock #[] clock)):=hb2.alloc (o:=.mapIter _ _ _ _) zH
 have hr3:(w2.alloc (.mapIter (some q) clock #[] clock)).heap[w2.heap.size]? = some (.mapIter (some q) clock #[] clock):=heap_alloc_new w2 _
 have hh3:∀ k,k<w2.heap.size->(w2.alloc (.mapIter (some q) clock #[] clock)).heap[k]? = w2.heap[k]?:=fun k hk=>Below.heap_alloc w2 _ k hk
 generalize w2.alloc (.mapIter (some q) clock #[] clock)=w3 at *
 generalize hrr:w2.heap.size=rr at *
 generalize ha2:Act.put _ (some 24) _=a2
 have hfr2:Fr (fun k=>k<5) a1 a2:=by
  subst ha2
  exact (((((Fr.refl _ a1).put _ zH).put _ zH).put _ zH).put _ zH).put _ zH
 have h24:a2.eval (.tmp 24)=.pointer (some ⟨rr,0,none⟩):=by subst ha2;exact zE
 have hs2:=hfr2.size
 clear ha2
 refine vS (qk (zU (fun A W=>∃ (seen:Array Nat) (ks:List Nat) (sv:Value),A.tmps.size=53/\A.defers=[]/\A.eval (.tmp 0)=.pointer (some ⟨b,o,none⟩)/\A.eval (.tmp 1)=fv/\A.eval (.tmp 4)=.pointer (some ⟨ob,0,none⟩)/\A.eval (.tmp 24)=.pointer (some ⟨rr,0,none⟩) ∧
   Below w.heap.size w W/\rr<W.heap.size/\W.heap[rr]? = some (.mapIter (some q) clock seen clock)/\W.cell? ⟨ob,0,none⟩=some sv/\qr W ob 0/\W.ownsRow w.heap.size E.tW 1 sv ks.length (ks.map j1)/\sv.ownBlock≠some ob/\sv.ownBlock≠some rr/\(ks++(leftOf es seen).toList.map ky).Perm (l.map (·.1)))
  (fun _ W=>match W.heap[rr]? with | some (.mapIter _ _ seen _)=>(leftOf es seen).size | _=>0) ?_ ?_))
 ·refine ⟨#[],[],.slice (some ⟨w.heap.size,0,none⟩) 0 tags.length,by rw[hs2,hs1,hsz],by rw[hfr2.defers,hfr1.defers,hdf],by rw[hfr2.slot 0 zH,hfr1.slot 0 zH];exact e0,by rw[hfr2.slot 1 zH,hfr1.slot 1 zH];exact e1,by rw[hfr2.slot 4 zH];exact h14,h24,hb3,(Array.getElem?_eq_some_iff.1 hr3).1,hr3,by rw[ka (hh3 ob zH)];exact hc2,zC (hh3 ob zH) hf2,kJ hown2 (fun g hg=>?_),?_,?_,?_⟩
  ·simp only[Value.ownBlock,Option.some.injEq] at hg
   exact hh3 g zH
  ·simp only[Value.ownBlock,ne_eq,Option.some.injEq];omega
  ·simp only[Value.ownBlock,ne_eq,Option.some.injEq];omega
  ·have e:(leftOf es #[]).toList=es.toList:=by unfold leftOf;simp
   rw[List.nil_append,e,keys_eq hll hkeys]
 ·rintro A W ⟨seen,ks,sv,hsA,hdA,g0,g1,g4,g24,hbW,hrW,hit,hcs,hfs,hown,hne1,hne2,hpm⟩
  have hqW:W.heap[q]? = some (.map es clock):=by rw[hbW.block q hqlt];exact hq
  refine vX ?_
  refine r_next (rr:=rr) (q:=q) (es:=es) (clock:=clock) (seen:=seen) g24 hit hqW hborn ?_ ?_
  ·intro hz
   refine ql (vs:=#[.bool false]) (v:=.bool false) zE rfl ?_
   refine dn ?_
   refine vS (vC (t:=false) zE (fun h=>by cases h) ?_)
   intro _
   refine xp ?_
   simp only[Exit.then,Exit.inBlock,if_true]
   refine vN ?_
   have hks:ks.Perm (l.map (·.1)):=by
    have e:(leftOf es seen).toList=[]:=by
     have:(leftOf es seen)=#[]:=Array.eq_empty_of_size_eq_zero hz
     rw[this]
    rw[e] at hpm
    simpa using hpm
   have hkn:ks.length=tags.length:=by rw[hks.length_eq,List.length_map,hperm.length_eq]
   -- the sort
   refine vX ?_
   refine rL (b:=ob) (o:=0) (v:=sv) zA HS.oU32s hcs ?_
   refine r_makeIface (xW HS.row).1 ?_
   refine wO ?_
   refine q8 (args:=#[.iface E.tU32s sv,.func (.func E.gAll1) #[] #[.pointer (some ⟨ob,0,none⟩)]]) ?_ (k_sort HS (ob:=ob) (n:=ks.length) (ks:=ks) hown rfl zH zH hcs (fun x c e=>fun e2=>hne1 (by rw[e,← e2];rfl))) ?_
   ·simp only[lM]
    simp (disch:=(try simp only[sP]);omega) only[eV,g4]
   rintro _ w5 ⟨blk,cap,ks',rfl,hUb,hblk,hp',hso,hcel,hE5⟩
   have hks':ks'=tags.map (·.1):=vw _ _ ((hp'.trans hks).trans (hperm.map _)) hso (List.pairwise_map.2 hok.1)
   refine dn ?_
   have hz5:=hE5.size
   have hobk:ob≠blk:=fun e=>hne1 (by rw[e];rfl)
   have hc5:w5.cell? ⟨ob,0,none⟩=some (.slice (some ⟨blk,0,none⟩) ks.length cap):=hE5.cellSome hcs hobk
   have hb5:Below w.heap.size w w5:=hbW.trans (hE5.below hbW.size (by rintro k i hk rfl;omega))
   refine vX ?_
   refine rL (b:=ob) (o:=0) (v:=.slice (some ⟨blk,0,none⟩) ks.length cap) zA HS.oU32s hc5 ?_
   refine xh (ad:=some ⟨blk,0,none⟩) (n:=ks.length) (c:=cap) (rB HS.row) zE ?_
   refine rM (dn ?_)
   generalize hA5:Act.put _ (some 39) _=A5
   have hfr5:Fr (fun k=>k<25) A A5:=by
    subst hA5
    exact ((((((((((Fr.refl _ A).put _ zH).put _ zH).put _ zH).put _ zH).put _ zH).put _ zH).put _ zH).put _ zH).put _ zH)
   have h37:A5.eval (.tmp 37)=.slice (some ⟨blk,0,none⟩) ks.length cap:=by subst hA5;exact zE
   have h38:A5.eval (.tmp 38)=.int .i64 (ks.length:Nat):=by subst hA5;exact zE
   have h39:A5.eval (.tmp 39)=.int .i64 ((0:Nat):Int):=by subst hA5;simp (disch:=(try simp only[sP]);omega) only[eV];rfl
   have hs5:=hfr5.size
   clear hA5
   have hd5:DSt E U db w5 dv xs:=⟨by rw[hb5.cell (p:=⟨db,0,none⟩) hdb];exact hd.cell,zC (hb5.block db hdb) hd.free,kJ hd.own (fun g hg=>hb5.block g (own_lt hd.own g hg).2),hd.ne,hd.U⟩
   have hUw:U<=w.heap.size:=by omega
   refine vS (qk (zU (fun A W=>∃ (i:Nat) (dvi:Value),i<=ks.length/\A.tmps.size=53/\A.defers=[]/\A.eval (.tmp 0)=.pointer (some ⟨b,o,none⟩)/\A.eval (.tmp 1)=fv/\A.eval (.tmp 37)=.slice (some ⟨blk,0,none⟩) ks.length cap/\A.eval (.tmp 38)=.int .i64 (ks.length:Nat)/\A.eval (.tmp 39)=.int .i64 (i:Int) ∧
     DSt E U db W dvi (xs++((tags.take i).map qV).flatten)/\Below U w W/\qb W blk 0 (ks'.map j1)/\w5.heap.size<=W.heap.size/\(∀ g,dvi.ownBlock=some g->dv.ownBlock=some g\/w5.heap.size<=g)/\∀ k,k<w.heap.size->k≠db->dv.ownBlock≠some k->W.heap[k]? = w.heap[k]?)
    (fun A _=>ks.length-(intOf (A.eval (.tmp 39))).toNat) ?_ ?_))
   ·refine ⟨0,dv,Nat.zero_le _,by rw[hs5];exact hsA,by rw[hfr5.defers];exact hdA,by rw[hfr5.slot 0 zH];exact g0,by rw[hfr5.slot 1 zH];exact g1,h37,h38,h39,by simpa using hd5,hb5.mono hUw,hcel,Nat.le_refl _,fun g hg=>.inl hg,fun k hk _ _=>hb5.block k hk⟩
   ·rintro A6 W6 ⟨i,dvi,hi,hsA6,hdA6,k0,k1,k37,k38,k39,hdst,hbW6,hcel6,hz6,hrow6,hkeep6⟩
    refine vX ?_
    refine xm (k:=.i64) (m:=(i:Int)) (n:=(ks.length:Int)) k39 k38 ?_
    refine dn ?_
    refine vS (vC (t:=decide ((i:Int)<(ks.length:Int))) zE ?_ ?_)
    ·intro hlt
     have hlt':i<ks.length:=by simpa using hlt
     have hit':i<tags.length:=by omega
     refine vK ?_
     have hki:(ks'.map j1)[i]? = some (j1 (tags[i]).1):=by
      rw[hks',List.map_map,List.getElem?_map,List.getElem?_eq_getElem hit']
      rfl
     refine vS (qk (vX ?_))
     refine qH (b:=blk) (o:=0) (len:=ks.length) (cap:=cap) (k:=.i64) (j:=i) (rB HS.row) zA zA hlt' ?_
     refine rL (b:=blk) (o:=0+i*1) (v:=j1 (tags[i]).1) zE HS.oU32 (by rw[Nat.mul_one];exact hcel6 i _ hki) ?_
     refine rA (dn ?_)
     obtain ⟨j,hfj,hlj⟩:=tag_find hperm hok.1 (List.getElem_mem hit')
     obtain ⟨e,hej,hek,hev,hsrc⟩:=hent j _ hlj
     refine vX (rM (rM (rM ?_)))
     refine xe (ad:=⟨b,o,none⟩) zA ?_
     refine rF (b:=b) (o:=o) zE HT.f0 ?_
     refine rL (b:=b) (o:=o+0) (v:=.map (some q)) zE HT.oMap (by rw[show o+0=o from rfl,ka (hkeep6 b (qi hcv) hbn.1 hbn.2)];exact hcv) ?_
     refine rM ?_
     refine r_lookup (q:=q) (es:=es) (clock:=clock) (k:=(tags[i]).1) (j:=j) (e:=e) (l:=l) HT.map HT.u32 zE zM (by rw[hbW6.block q hqU];exact hq) hll hkeys hfj hej ?_
     have hlenb:(xs++((tags.take i).map qV).flatten).length+(qV ((tags[i]).1,(tags[i]).2)).length<=big:=by
      have:=flat_take hit'
      rw[List.length_append]
      show _+(qV tags[i]).length<=big
      omega
     refine r_callF (f:=E.gEach1) (pre:=#[]) (post:=#[.pointer (some ⟨db,0,none⟩)]) (args:=#[.int .u32 ((tags[i]).1:Int),e.val,.pointer (some ⟨db,0,none⟩)]) (by rw[hfv];exact zA) ?_
      (hg1 (k:=(tags[i]).1) (l:=(tags[i]).2) hdst (hok.2 _ (List.getElem_mem hit')) hev (fun w' hb'=>hsrc w' (hbW6.trans hb')) hlenb) ?_
     ·simp only[lM]
      simp (disch:=(try simp only[sP]);omega) only[eV]
      rfl
     rintro _ W7 ⟨dv7,hd7,hkp7⟩
     refine dn (vN ?_)
     have hz7:=hkp7.below.size
     have hcel7:qb W7 blk 0 (ks'.map j1):=by
      have hblk6:blk<W6.heap.size:=by omega
      have:=hkp7.same blk hblk6 zH (fun e=>by
       rcases hrow6 blk e with h1 | h1
       ·have:=(own_lt hd.own blk h1).2;omega
       ·omega)
      intro x u hu
      rw[ka this]
      exact hcel6 x u hu
     refine vX ?_
     refine z8 (k:=.i64) (m:=(i:Int)) (n:=1) zA rfl ?_
     rw[wrap_i64 zH zH]
     refine rM (dn (vN ?_))
     generalize hA7:Act.put _ (some 39) _=A7
     have hfr7:Fr (fun k=>k<7\/k=37\/k=38) A6 A7:=by
      subst hA7
      exact (((((((((((((((Fr.refl _ A6).put _ zH).put _ zH).put _ zH).put _ zH).put _ zH).put _ zH).put _ zH).put _ zH).put _ zH).put _ zH).put _ zH).put _ zH).put _ zH).put _ zH).put _ zH
     have h397:A7.eval (.tmp 39)=.int .i64 ((i+1:Nat):Int):=by subst hA7;simp (disch:=(try simp only[sP]);omega) only[eV];rfl
     clear hA7
     refine ⟨⟨i+1,dv7,hlt',by rw[hfr7.size];exact hsA6,by rw[hfr7.defers];exact hdA6,by rw[hfr7.slot 0 zH];exact k0,by rw[hfr7.slot 1 zH];exact k1,by rw[hfr7.slot 37 zH];exact k37,by rw[hfr7.slot 38 zH];exact k38,h397,?_,hbW6.trans hkp7.below,hcel7,by omega,fun g hg=>?_,fun k hk hkd hkv=>?_⟩,?_⟩
     ·have e2:xs++((tags.take (i+1)).map qV).flatten=xs++((tags.take i).map qV).flatten++qV ((tags[i]).1,(tags[i]).2):=by
       rw[List.take_succ_eq_append_getElem hit',List.map_append,List.flatten_append,List.append_assoc]
       simp
      rw[e2]
      exact hd7
     ·rcases hkp7.row g hg with h1 | h1
      ·exact hrow6 g h1
      ·exact .inr zH
     ·have hz56:=hb5.size
      rw[hkp7.same k zH hkd (fun e=>by
       rcases hrow6 k e with h1 | h1
       ·exact hkv h1
       ·omega)]
      exact hkeep6 k hk hkd hkv
     ·show ks.length-(intOf _).toNat<ks.length-(intOf _).toNat
      rw[h397,k39]
      simp only[intOf,Int.toNat_natCast]
      omega
    ·intro hge
     have hin:i=ks.length:=by
      have:¬ ((i:Int)<(ks.length:Int)):=by simpa using hge
      omega
     refine xp ?_
     simp only[Exit.then,Exit.inBlock,if_true]
     refine vN ?_
     have e3:tags.take i=tags:=by rw[hin,hkn];exact List.take_length
     rw[e3] at hdst
     exact ⟨by simp only[dF];exact hdA6,.tuple #[],by simp[results],dvi,hdst,hbW6,hkeep6⟩
  ·intro e he w1' hw1'
   have hheap:w1'.heap=W.heap:=by rcases hw1' with rfl | rfl<;>rfl
   have hees:e ∈ es.toList:=by
    unfold leftOf at he
    rw[Array.toList_filter] at he
    exact (List.mem_filter.1 he).1
   have hbs:Below w.heap.size w (setBlock w1' rr (.mapIter (some q) clock (seen.push e.born) clock)):=by
    have h1:Below w.heap.size w w1':=by rcases hw1' with rfl | rfl;exact hbW;exact ⟨hbW.os,hbW.tape,hbW.output,hbW.size,hbW.block⟩
    exact h1.trans (vm _ zH)
   have hrb:(setBlock w1' rr (.mapIter (some q) clock (seen.push e.born) clock)).heap[rr]? = some (.mapIter (some q) clock (seen.push e.born) clock):=by
    simp only[setBlock]
    rw[Array.getElem?_setIfInBounds_self_of_lt (by rw[hheap];exact hrW)]
   have hkb:∀ k,k≠rr->(setBlock w1' rr (.mapIter (some q) clock (seen.push e.born) clock)).heap[k]? = W.heap[k]?:=fun k hk=>by rw[jz _ hk,hheap]
   have hzb:(setBlock w1' rr (.mapIter (some q) clock (seen.push e.born) clock)).heap.size=W.heap.size:=by rw[jW,hheap]
   generalize setBlock w1' rr (.mapIter (some q) clock (seen.push e.born) clock)=W2 at *
   have hobr:ob≠rr:=by omega
   have hcs2:W2.cell? ⟨ob,0,none⟩=some sv:=by rw[ka (hkb ob hobr)];exact hcs
   have hfs2:qr W2 ob 0:=zC (hkb ob hobr) hfs
   have hown2':W2.ownsRow w.heap.size E.tW 1 sv ks.length (ks.map j1):=kJ hown (fun g hg=>hkb g (fun e=>hne2 (by rw[hg,e])))
   have hke:=key_enc hll hkeys hees
   refine ql (vs:=#[.bool true,e.key,e.val]) (v:=.bool true) zE rfl ?_
   refine dn ?_
   refine vS (vC (t:=true) zE ?_ (fun h=>by cases h))
   intro _
   refine vK ?_
   refine vS (qk (vX ?_))
   refine r_entry (rr:=rr) (q:=q) (since:=clock) (seen:=seen) (es:=es) (clock:=clock) (e:=e) zA hrb (by rw[hbs.block q hqlt];exact hq) hees hnod ?_
   refine ql (vs:=#[e.key,e.val]) (v:=e.key) zE rfl ?_
   refine rA (dn (vX ?_))
   refine rL (b:=ob) (o:=0) (v:=sv) zA HS.oU32s hcs2 ?_
   refine rM ?_
   refine xM (s:=1) (vs:=[j1 (ky e)]) HS.row ?_ rfl (by intro v hv;simp only[List.mem_cons,List.not_mem_nil,or_false] at hv;subst hv;rfl) zH zH ?_
   ·simp only[lM]
    simp (disch:=(try simp only[sP]);omega) only[eV]
    rw[hke]
    rfl
   have hcsl:[j1 (ky e)].flatMap (fun v=>v.cells.toList)=[j1 (ky e)]:=rfl
   rw[hcsl]
   have hkslen:ks.length<=tags.length:=by
    have h1:=hpm.length_eq
    rw[List.length_append,List.length_map,List.length_map,hperm.length_eq] at h1
    omega
   have hkslt:ks.length<tags.length:=by
    have h1:=hpm.length_eq
    rw[List.length_append,List.length_map,List.length_map,hperm.length_eq] at h1
    have h2:0<(leftOf es seen).toList.length:=List.length_pos_of_mem he
    omega
   refine r_appendK (U:=w.heap.size) (v:=sv) (n:=ks.length) (xs:=ks.map j1) (u:=.slice (some ⟨W2.heap.size,0,none⟩) 1 1) (m:=1) (news:=[j1 (ky e)]) HS.row zE zE (hown2'.alloc _) (by simp;have:=hbs.size;omega) ?_ zH ?_
   ·refine zh (rB HS.row) ?_ rfl (by intro u hu;simp only[List.mem_cons,List.not_mem_nil,or_false] at hu;subst hu;rfl)
    intro j u hu
    rw[Nat.zero_add]
    exact qm W2 _ _ (by simpa using hu)
   intro sv' W3 hown3 hb3' hkp3
   have hz3:=hb3'.size
   have hza:(W2.alloc (.cells [j1 (ky e)].toArray E.tW)).heap.size=W2.heap.size+1:=by simp
   have hk3:∀ k,k<W2.heap.size->sv.ownBlock≠some k->W3.heap[k]? = W2.heap[k]?:=fun k hk hn=>by
    rw[hkp3.1 k zH hn]
    exact Below.heap_alloc W2 _ k hk
   have hob2:ob<W2.heap.size:=qi hcs2
   have hf3:qr W3 ob 0:=zC (hk3 ob hob2 hne1) hfs2
   have hsv':sv'.ownBlock≠some ob/\sv'.ownBlock≠some rr:=by
    constructor
    ·intro e9
     rcases hkp3.2 ob e9 with h1 | h1
     ·exact hne1 h1
     ·omega
    ·intro e9
     rcases hkp3.2 rr e9 with h1 | h1
     ·exact hne2 h1
     ·omega
   refine xC (b:=ob) (o:=0) (v:=sv') zA zE (gG hown3).1 HS.oU32s hf3 ?_
   refine dn (vN (vN ?_))
   generalize hA3:Act.put _ (some 32) _=A3
   have hfr3:Fr (fun k=>k<5\/k=24) A A3:=by
    subst hA3
    exact ((((((((Fr.refl _ A).put _ zH).put _ zH).put _ zH).put _ zH).put _ zH).put _ zH).put _ zH).put _ zH |>.put _ zH
   clear hA3
   have hrr3:(W3.setCell ⟨ob,0,none⟩ sv').heap[rr]? = some (.mapIter (some q) clock (seen.push e.born) clock):=by
    rw[Below.heap_setCell _ _ _ _ (by show rr≠ob;omega),hk3 rr zH hne2]
    exact hrb
   have hbW3:Below w.heap.size w (W3.setCell ⟨ob,0,none⟩ sv'):=by
    have h1:Below w.heap.size w W3:=(hbs.alloc (o:=.cells _ _) hbs.size).trans hb3'
    exact h1.setCell (p:=⟨ob,0,none⟩) (by show w.heap.size<=ob;omega) _
   have hpm3:((ks++[ky e])++(leftOf es (seen.push e.born)).toList.map ky).Perm (l.map (·.1)):=by
    refine List.Perm.trans ?_ hpm
    rw[List.append_assoc]
    refine List.Perm.append_left ks ?_
    have:=((left_step hnod he).map ky).symm
    simpa using this
   refine ⟨⟨seen.push e.born,ks++[ky e],sv',by rw[hfr3.size];exact hsA,by rw[hfr3.defers];exact hdA,by rw[hfr3.slot 0 zH];exact g0,by rw[hfr3.slot 1 zH];exact g1,by rw[hfr3.slot 4 zH];exact g4,by rw[hfr3.slot 24 zH];exact g24,hbW3,by simp;omega,hrr3,qo _ hf3.1,hf3.eff ((Eff.refl (fun k _=>k=ob) _).setCell _ _ _ (fun _=>rfl)),?_,hsv'.1,hsv'.2,hpm3⟩,?_⟩
   ·have:W3.ownsRow w.heap.size E.tW 1 sv' (ks++[ky e]).length ((ks++[ky e]).map j1):=by simpa using hown3
    exact kJ this (fun g hg=>Below.heap_setCell _ _ _ _ (fun e9=>hsv'.1 (by rw[hg,e9])))
   ·simp only[hrr3,hit]
    have h1:=(left_step hnod he).length_eq
    simp only[Array.length_toList,List.length_cons] at h1
    omega
end
section
open Go.ChangeMaps
theorem xx.tagIn {W0:World} {sb:Sb} (HB:xK P E.tB=some (E.tU8,1)) (h:xx W0 sb 0 v tags) (hw:Below W0.heap.size W0 w):TagIn P E w W0.heap.size v tags:=by
 obtain ⟨h1,_,h2⟩:=h
 refine ⟨h1,?_⟩
 rcases h2 with h2 | ⟨q,es,clock,hv,_,hq,hm,hb,hn,l,hp,hl,hx⟩
 ·exact .inl h2
 ·refine .inr ⟨q,es,clock,l,hv,hq,by rw[hw.block q hq];exact hm,hb,hn,hp,hl.1,fun i x hi=>?_⟩
  obtain ⟨e,e1,e2,e3⟩:=hx i x hi
  refine ⟨e,e1,e2,?_,?_⟩
  ·rcases e3 with ⟨e3,e4⟩ | ⟨c,o,cap,e3,_⟩
   ·exact ⟨none,0,by rw[e3,e4];rfl⟩
   ·exact ⟨_,cap,e3⟩
  ·intro w' hw'
   rcases e3 with ⟨e3,e4⟩ | ⟨c,o,cap,e3,_,hc,hcs⟩
   ·rw[e3,e4];exact gx HB
   ·rw[e3]
    refine zh HB ?_ zS (xH _)
    intro j u hu
    rw[ka ((hw.trans hw').block c hc)]
    exact hcs j u hu
theorem _root_.Go.World.ownsG.keepB {U:Gd} {e db:Nat} (h:w.ownsG U e s v n xs) (hlt:∀ b o,U.g b=some o->b<db) (hk:∀ k,k<w.heap.size->k≠db->v.ownBlock≠some k->w'.heap[k]? = w.heap[k]?):KeptG w' U.g e:=by
 intro b o hb
 obtain ⟨h1,h2⟩:=h.kept b o hb
 refine ⟨?_,h2⟩
 rw[hk b (Array.getElem?_eq_some_iff.1 h1).1 (by have:=hlt b o hb;omega) (fun e1=>?_)]
 ·exact h1
 ·rcases h.own.2 with ⟨rfl,_⟩ | ⟨g,cap,cur,rfl,_,h3,_⟩
  ·cases e1
  ·simp only[Value.ownBlock,Option.some.injEq] at e1
   subst e1
   rw[h1] at h3
   exact h2 cur (Option.some.inj h3)
theorem k_teach (HT:TagT P E) (HS:SortE P E) (ht:Text P E.tEach 2 9 #[.tmp 4] (gT E)) (hta:Text P E.gAll 2 53 #[] (gc E)) (ht1:Text P E.gEach1 2 16 #[] (pa E)) (huv:∀ (n:Nat) U w,n<4294967296->Wr1K P E E.wUvarint U [.int .u32 n] (Go.Km.uvar n) w) (row:xo P E.tB E.tU8 1=true) (hob:qW P E.tB=true) (ii:qu P E.tI=some .i64) {W0:World} {sb:Sb} (hc:w.cell? ⟨b,o,none⟩=some v) (hr:xx W0 sb 0 v tags) (hw:Below W0.heap.size W0 w) {dv:Value} {xs:List UInt8} (hown:w.ownsG ⟨W0.heap.size,G⟩ E.tU8 1 dv xs.length (xs.map bv)) (hbo:dv.ownBlock≠some b) (hbg:xs.length+(tags.map qV).flatten.length<=big):
  qa P E.tEach #[.pointer (some ⟨b,o,none⟩),dv] w fun v' w'=>w'.ownsG ⟨W0.heap.size,G⟩ E.tU8 1 v' (xs++(tags.map qV).flatten).length ((xs++(tags.map qV).flatten).map bv)/\Below W0.heap.size w w':=by
 refine qa.enter ht zS ?_
 intro a hsz hdf harg
 have e0:=harg 0 (.pointer (some ⟨b,o,none⟩)) zS
 have e1:=harg 1 dv zS
 have hdc:dv.cells=#[dv]:=(gG hown.own).2
 have hz:=hw.size
 have hbl:Below W0.heap.size w (w.alloc (.cells dv.cells E.tB)):=(Below.refl _ w).alloc (o:=.cells _ _) hw.size
 have hw1:Below W0.heap.size W0 (w.alloc (.cells dv.cells E.tB)):=hw.trans hbl
 have hcw:(w.alloc (.cells dv.cells E.tB)).cell? ⟨b,o,none⟩=some v:=by rw[ka (Below.heap_alloc w _ b (qi hc))];exact hc
 have hn:=yI tags
 have hd:DSt E W0.heap.size w.heap.size (w.alloc (.cells dv.cells E.tB)) dv xs:=by
  refine ⟨qm w _ _ (by rw[hdc];rfl),qq w _ _ (by rw[hdc];simp),hown.own.alloc _,fun e=>?_,hz⟩
  have:=(own_lt hown.own _ e).2
  omega
 unfold gT
 refine vX ?_
 refine xN (v:=dv) zA ?_
 refine rA (dn (vX (rM ?_)))
 refine wO ?_
 refine q8 (args:=#[.pointer (some ⟨b,o,none⟩),.func (.func E.gEach1) #[] #[.pointer (some ⟨w.heap.size,0,none⟩)]]) ?_
  (k_gAll HT HS hta ii (fun hd hk hv hs hb=>k_gEach1 ht1 huv row hob HS.iu ii hd hk hv hs hb) hcw ⟨by have:=qi hc;omega,hbo⟩ (hr.tagIn (rB row) hw1) hd zH hbg) ?_
 ·simp only[lM]
  simp (disch:=(try simp only[sP]);omega) only[eV,e0]
 rintro v' w' ⟨dv',hd',hb',hkeep⟩
 refine dn (vX ?_)
 refine rL (b:=w.heap.size) (o:=0) (v:=dv') zE hob hd'.cell ?_
 refine rA (dn (vS (vT ?_)))
 exact ⟨by simp only[dF];exact hdf,dv',rO zE,⟨hd'.own,(hown.alloc _).keepB (db:=w.heap.size) (fun b o hb=>(Array.getElem?_eq_some_iff.1 (hown.kept b o hb).1).1) hkeep⟩,hbl.trans hb'⟩
structure TTexts (P:Program) (E:Env):Prop where
 tagT:TagT P E
 sortE:SortE P E
 gEach1:Text P E.gEach1 2 16 #[] (pa E)
 uv:E.wUvarint≠0
theorem envWT (HT:KTexts P E) (hB:kB P E=true) (HG:TTexts P E):EnvW P E (fun _=>True):=by
 have H0:=envW0 HT hB
 have hB':=hB
 simp only[kB,Bool.and_eq_true,beq_iff_eq,bne_iff_ne,ne_eq] at hB'
 obtain ⟨⟨⟨⟨⟨⟨⟨⟨⟨⟨⟨⟨⟨⟨⟨⟨⟨⟨⟨⟨⟨⟨⟨⟨⟨⟨⟨⟨⟨row,u8⟩,ii⟩,ob⟩,s8⟩,oU16⟩,oU32⟩,oU64⟩,oI8⟩,oI16⟩,oI32⟩,oI64⟩,oUv⟩,oStr⟩,oCStr⟩,oNStr⟩,oCNStr⟩,oB⟩,oCB⟩,oNB⟩,oCNB⟩,oL⟩,oCL⟩,oNL⟩,oCNL⟩,oUu⟩,oTl⟩,oTe⟩,oUv2⟩,oF⟩:=hB'
 have cUv:∀ (n:Nat) U w,n<4294967296->Wr1K P E E.wUvarint U [.int .u32 n] (Go.Km.uvar n) w:=fun n U w hn=>by
  have h2:=on_inv oUv HG.uv
  simp only[Bool.and_eq_true,beq_iff_eq,bne_iff_ne,ne_eq] at h2
  exact k_uvarK (HT.wUvarint HG.uv) (HT.uvLen h2.1.2) (HT.len32 h2.2) row u8 h2.1.1.1 ii (kP h2.1.1.2) hn
 refine { bytes:=H0.bytes,scal:=H0.scal,uuid:=H0.uuid,str:=H0.str,cstr:=H0.cstr,nstr:=H0.nstr,cnstr:=H0.cnstr,octs:=H0.octs,cocts:=H0.cocts,nocts:=H0.nocts,cnocts:=H0.cnocts,len:=H0.len,clen:=H0.clen,nlen:=H0.nlen,cnlen:=H0.cnlen,uvar:=H0.uvar,tlen:=?_,teach:=?_ }
 ·intro h W0 sb b o v tags w _ hc hr hw
  have h2:=on_inv oTl h
  simp only[Bool.and_eq_true,beq_iff_eq] at h2
  exact k_tlen (HT.tLen h) h2.1.1 h2.2 h2.1.2 hc hr hw
 ·intro h W0 sb b o v tags w hT hc hr hw G dv xs hown hbo hb
  have h2:=on_inv oTe h
  simp only[Bool.and_eq_true,beq_iff_eq,bne_iff_ne,ne_eq] at h2
  exact k_teach HG.tagT HG.sortE (HT.tEach h) (HT.gAll h2.2) HG.gEach1 cUv row ob ii hc hr hw hown hbo hb
end
end
def c_zNew (E:Env):Code :=
 (sq [(rg [(oQ 0 (.alloc E.tZ) 0)]),
  (rg [(oQ 1 (.alloc E.tZ) 0)]),
  (rg [(oQ 2 (qC E.zDf #[(.tmp 1)] #[E.tZ]) 0)]),
  (rg [(qL 3 1 E.tZ),
   (qS E.tZ 0 3)]),
  .ret])
def c_zSame (E:Env):Code :=
 (sq [(rg [(oQ 2 (.box E.tZ (.tmp 0)) 0),
   (oQ 3 (.box E.tZ (.tmp 1)) 0),
   (oQ 4 (.assign (.const (.bool false))) E.tO)]),
  (rg [(qF 5 E.tZ 2 0),
   (qL 6 5 E.tI32),
   (qF 7 E.tZ 3 0),
   (qL 8 7 E.tI32),
   (qB 9 .eql E.tI32 6 8 E.tO),
   (qM 10 9 E.tO),
   (qD 11 (.fieldAddr E.tZ (.tmp 2) 1) 0 #[] (some (5,true))),
   (qD 12 (.load E.tI32 (.tmp 11)) E.tI32 #[] (some (5,true))),
   (qD 13 (.fieldAddr E.tZ (.tmp 3) 1) 0 #[] (some (5,true))),
   (qD 14 (.load E.tI32 (.tmp 13)) E.tI32 #[] (some (5,true))),
   (qD 15 (.binOp .eql E.tI32 (.tmp 12) (.tmp 14) E.tI32) E.tO #[] (some (5,true))),
   (oQ 16 (.pick (.tmp 10) (.tmp 15) (.const (.bool false))) E.tO),
   (qM 17 16 E.tO),
   (qD 18 (.fieldAddr E.tZ (.tmp 2) 2) 0 #[] (some (12,true))),
   (qD 19 (.load E.tTags (.tmp 18)) E.tTags #[] (some (12,true))),
   (qD 20 (.fieldAddr E.tZ (.tmp 3) 2) 0 #[] (some (12,true))),
   (qD 21 (.load E.tTags (.tmp 20)) E.tTags #[] (some (12,true))),
   (qD 22 (qC E.zTags #[(.tmp 19),(.tmp 21)] #[E.tTags,E.tTags]) E.tO #[] (some (12,true))),
   (oQ 23 (.pick (.tmp 17) (.tmp 22) (.const (.bool false))) E.tO),
   (qA 4 23 E.tO)]),
  .ret])
def c_zTags (E:Env):Code :=
 (sq [(rg [(oQ 2 (.box E.tTags (.tmp 0)) 0),
   (oQ 3 (.box E.tTags (.tmp 1)) 0),
   (oQ 4 (.assign (.const (.bool false))) E.tO)]),
  (sq [(rg [(qF 9 E.tTags 2 0),
    (qL 10 9 E.tTagMap),
    (oQ 11 (.binOp .eql E.tTagMap (.tmp 10) (.const (.map none)) E.tTagMap) E.tO),
    (qF 12 E.tTags 3 0),
    (qL 13 12 E.tTagMap),
    (oQ 14 (.binOp .eql E.tTagMap (.tmp 13) (.const (.map none)) E.tTagMap) E.tO),
    (qB 15 .neq E.tO 11 14 E.tO),
    (qM 16 15 E.tO),
    (qD 17 (.fieldAddr E.tTags (.tmp 2) 0) 0 #[] (some (7,false))),
    (qD 18 (.load E.tTagMap (.tmp 17)) E.tTagMap #[] (some (7,false))),
    (qD 19 (.call { callee:=.builtin .len,args:=#[(.tmp 18)],argTypes:=#[E.tTagMap] }) E.tI #[] (some (7,false))),
    (qD 20 (.fieldAddr E.tTags (.tmp 3) 0) 0 #[] (some (7,false))),
    (qD 21 (.load E.tTagMap (.tmp 20)) E.tTagMap #[] (some (7,false))),
    (qD 22 (.call { callee:=.builtin .len,args:=#[(.tmp 21)],argTypes:=#[E.tTagMap] }) E.tI #[] (some (7,false))),
    (qD 23 (.binOp .neq E.tI (.tmp 19) (.tmp 22) E.tI) E.tO #[] (some (7,false))),
    (oQ 24 (.pick (.tmp 16) (.const (.bool true)) (.tmp 23)) E.tO)]),
   (.cond (.tmp 24)
    (sq [(rg [(oQ 4 (.assign (.const (.bool false))) E.tO)]),
     .ret])
    .skip)]),
  (sq [(rg [(qF 25 E.tTags 2 0),
    (qL 26 25 E.tTagMap),
    (oQ 27 (.range E.tTagMap (.tmp 26)) 0)]),
   (.block 0 (.loop (sq [(rg [(oQ 28 (.next (.tmp 27) false) 0),
       (oQ 29 (.extract (.tmp 28) 0) E.tO)]),
      (.cond (.tmp 29)
       .skip
       (.exit 0)),
      (.block 1 (sq [(rg [(oQ 30 (.entry (.tmp 27)) 0),
         (oQ 31 (.extract (.tmp 30) 0) E.tW),
         (oQ 32 (.extract (.tmp 30) 1) E.tB),
         (qA 5 31 E.tW),
         (qA 6 32 E.tB)]),
        (rg [(qF 34 E.tTags 3 0),
         (qL 35 34 E.tTagMap),
         (qM 36 5 E.tW),
         (oQ 37 (.lookup E.tTagMap (.tmp 35) (.tmp 36) true) E.tLk),
         (qM 33 37 E.tLk),
         (oQ 38 (.extract (.tmp 33) 0) E.tB),
         (oQ 39 (.extract (.tmp 33) 1) E.tO),
         (qA 7 38 E.tB),
         (qA 8 39 E.tO)]),
        (rg [(qM 40 8 E.tO),
         (oQ 41 (.unOp .not E.tO (.tmp 40)) E.tO),
         (qM 42 41 E.tO),
         (qD 43 (.move (.tmp 6)) E.tB #[] (some (2,false))),
         (qD 44 (.binOp .eql E.tB (.tmp 43) (.const (.slice none 0 0)) E.tB) E.tO #[] (some (2,false))),
         (qD 45 (.move (.tmp 7)) E.tB #[] (some (2,false))),
         (qD 46 (.binOp .eql E.tB (.tmp 45) (.const (.slice none 0 0)) E.tB) E.tO #[] (some (2,false))),
         (qD 47 (.binOp .neq E.tO (.tmp 44) (.tmp 46) E.tO) E.tO #[] (some (2,false))),
         (oQ 48 (.pick (.tmp 42) (.const (.bool true)) (.tmp 47)) E.tO),
         (qM 49 48 E.tO),
         (qD 50 (.move (.tmp 6)) E.tB #[] (some (9,false))),
         (qD 51 (.convert E.tB E.tStr (.tmp 50)) E.tStr #[] (some (9,false))),
         (qD 52 (.move (.tmp 7)) E.tB #[] (some (9,false))),
         (qD 53 (.convert E.tB E.tStr (.tmp 52)) E.tStr #[] (some (9,false))),
         (qD 54 (.binOp .neq E.tStr (.tmp 51) (.tmp 53) E.tStr) E.tO #[] (some (9,false))),
         (oQ 55 (.pick (.tmp 49) (.const (.bool true)) (.tmp 54)) E.tO)]),
        (.cond (.tmp 55)
         (sq [(rg [(oQ 4 (.assign (.const (.bool false))) E.tO)]),
          .ret])
         .skip)]))])))]),
  (rg [(oQ 4 (.assign (.const (.bool true))) E.tO)]),
  .ret])
def c_zDf (E:Env):Code :=
 .skip
section
attribute [local irreducible] vc rO_ qz qP qJ
theorem r_neqBool {d t x y yt ty p af g} {b c:Bool} (ht:P.underlying t=some .bool) (hx:a.eval x=.bool b) (hy:a.eval y=.bool c) (h:rO_ P Q r (a.put (some d) (.bool (b != c))) w):
  rO_ P Q (⟨some d,.binOp .neq t x y yt,ty,p,af,g⟩::r) a w:=by
 refine st ?_
 have h1:(eqGuard .neq t x y (.bool b) (.bool c)).run P w=.ok () w:=by cases x<;>cases y<;>simp[eqGuard]
 have h2:(binOp .neq t (.bool b) (.bool c)).run P w=.ok (.bool (b != c)) w:=by
  simp only[binOp]
  have h0:∀ k:Nat,(Op.equalIn (k+1) t (.bool b) (.bool c)).run P w=.ok (b==c) w:=fun k=>by simp[Op.equalIn,run_underlying ht]
  simp[Op.equal,Op.maxDepth,h0 9999]
  cases b<;>cases c<;>rfl
 simp only[Oper.wp,execOp,hx,hy,h1,h2,Sem.run_bind,Sem.run_pure,Result.andThen_ok,Oper.upon_value]
 exact h
theorem r_rangeNil {d t x ty p af g kt et} (ht:P.underlying t=some (.map kt et)) (hx:a.eval x=.map none) (h:rO_ P Q r (a.put (some d) (.pointer (some ⟨w.heap.size,0,none⟩))) (w.alloc (.mapIter none 0 #[] 0))):
  rO_ P Q (⟨some d,.range t x,ty,p,af,g⟩::r) a w:=by
 refine st ?_
 simp only[Oper.wp,execOp,hx,Sem.run_bind,run_range_nilMap w t kt et ht,Sem.run_pure,Result.andThen_ok,Oper.upon_value]
 exact h
theorem r_nextNil {d x ty p af g} {V:World} (hx:a.eval x=.pointer (some ⟨V.heap.size,0,none⟩)) (h:rO_ P Q r (a.put (some d) (.tuple #[.bool false])) (V.alloc (.mapIter none 0 #[] 0))):
  rO_ P Q (⟨some d,.next x false,ty,p,af,g⟩::r) a (V.alloc (.mapIter none 0 #[] 0)):=by
 refine st ?_
 simp only[Oper.wp,execOp,hx,Sem.run_bind,run_next_nilMap V ty 0 0 #[],Sem.run_pure,Result.andThen_ok,Oper.upon_value]
 exact h
structure ZTexts (P:Program) (E:Env):Prop where
 new:Text P E.zNew 0 4 #[.cell 0 E.tZ] (c_zNew E)
 same:Text P E.zSame 2 24 #[.tmp 4] (c_zSame E)
 tags:Text P E.zTags 2 56 #[.tmp 4] (c_zTags E)
 df:Text P E.zDf 1 2 #[] (c_zDf E)
 zero:qQ P E.tZ=some (.agg #[.int .i32 0,.int .i32 0,.map none])
 agg:zd P E.tZ=some 3
 f0:qh P E.tZ 0=some 0
 f1:qh P E.tZ 1=some 1
 f2:qh P E.tZ 2=some 2
 o32:qW P E.tI32=true
 bool:P.underlying E.tO=some .bool
theorem k_zTags (H:TagT P E) (HZ:ZTexts P E) (q:Option Nat) (w:World):qa P E.zTags #[.agg #[.map q],.agg #[.map none]] w fun r w'=>r=.bool q.isNone/\Below w.heap.size w w':=by
 refine qa.enter HZ.tags zS ?_
 intro a hsz hdf harg
 have e0:=harg 0 (.agg #[.map q]) zS
 have e1:=harg 1 (.agg #[.map none]) zS
 unfold c_zTags
 refine vX ?_
 refine xN (v:=.agg #[.map q]) zA ?_
 refine xN (v:=.agg #[.map none]) zA ?_
 refine rA (dn ?_)
 have hb1:Below w.heap.size w (w.alloc (.cells (Value.agg #[.map q]).cells E.tTags)):=(Below.refl _ w).alloc (o:=.cells _ _) (Nat.le_refl _)
 have c2:=qm w (Value.agg #[.map q]).cells E.tTags (i:=0) (v:=.map q) rfl
 generalize hW1:w.alloc (.cells (Value.agg #[.map q]).cells E.tTags)=W1 at *
 have hz1:W1.heap.size=w.heap.size+1:=by rw[← hW1];simp
 have hb2:Below W1.heap.size W1 (W1.alloc (.cells (Value.agg #[.map none]).cells E.tTags)):=(Below.refl _ W1).alloc (o:=.cells _ _) (Nat.le_refl _)
 have c3:=qm W1 (Value.agg #[.map none]).cells E.tTags (i:=0) (v:=.map none) rfl
 have c2:(W1.alloc (.cells (Value.agg #[.map none]).cells E.tTags)).cell? ⟨w.heap.size,0,none⟩=some (.map q):=hb2.cellS c2
 generalize W1.alloc (.cells (Value.agg #[.map none]).cells E.tTags)=W at *
 have hbw:Below w.heap.size w W:=hb1.trans (hb2.mono zH)
 generalize hA:Act.put _ (some 4) _=A
 have h2:A.eval (.tmp 2)=.pointer (some ⟨w.heap.size,0,none⟩):=by subst hA;exact zE
 have h3:A.eval (.tmp 3)=.pointer (some ⟨W1.heap.size,0,none⟩):=by subst hA;exact zE
 have hsA:A.tmps.size=56:=by subst hA;simp only[zP];exact hsz
 have hdA:A.defers=[]:=by subst hA;simp only[dF];exact hdf
 clear hA
 refine vS (vS (yF [0,1,2,3,4,5,6,7,8,9,10,11,12,13,14,15] rfl ?_))
 refine rD rfl (wN rfl) (rF (b:=w.heap.size) (o:=0) zA H.f0 (dn (rT ?_)))
 refine rD rfl (wN rfl) (rL (b:=w.heap.size) (o:=0) (v:=.map q) zM H.oMap c2 (dn (rT ?_)))
 refine rD rfl (wN rfl) (jS (m:=q) H.map zE (dn (rT ?_)))
 refine rD rfl (wN rfl) (rF (b:=W1.heap.size) (o:=0) zA H.f0 (dn (rT ?_)))
 refine rD rfl (wN rfl) (rL (b:=W1.heap.size) (o:=0) (v:=.map none) zM H.oMap c3 (dn (rT ?_)))
 refine rD rfl (wN rfl) (jS (m:=none) H.map zE (dn (rT ?_)))
 refine rD rfl (wN rfl) (r_neqBool (b:=q.isNone) (c:=true) HZ.bool zE zM (dn (rT ?_)))
 refine rD rfl (wN rfl) (rM (dn (rT ?_)))
 cases q with
 | some q =>
  simp only[Option.isNone_some,show (false != true)=true from rfl]
  iterate 7 (refine x7 rfl (by rw[wS (b:=true) rfl rfl zM];rfl) ?_)
  refine rD rfl (wN rfl) (xf zM ?_)
  refine dn (rT (qx ?_))
  refine vS (vC (t:=true) zM ?_ (fun h=>by cases h))
  intro _
  refine vX (rA (dn (vS (vT ?_))))
  exact ⟨by simp only[dF];exact hdA,.bool false,rO zM,rfl,hbw⟩
 | none =>
  simp only[Option.isNone_none,show (true != true)=false from rfl]
  refine rD rfl (by rw[wS (b:=false) rfl rfl zM];rfl) (rF (b:=w.heap.size) (o:=0) zA H.f0 (dn (rT ?_)))
  refine rD rfl (by rw[wS (b:=false) rfl rfl zM];rfl) (rL (b:=w.heap.size) (o:=0) (v:=.map none) zM H.oMap c2 (dn (rT ?_)))
  refine rD rfl (by rw[wS (b:=false) rfl rfl zM];rfl) (yv (v:=.map none) (n:=0) H.map zE (.inl ⟨rfl,rfl⟩) (dn (rT ?_)))
  refine rD rfl (by rw[wS (b:=false) rfl rfl zM];rfl) (rF (b:=W1.heap.size) (o:=0) zA H.f0 (dn (rT ?_)))
  refine rD rfl (by rw[wS (b:=false) rfl rfl zM];rfl) (rL (b:=W1.heap.size) (o:=0) (v:=.map none) zM H.oMap c3 (dn (rT ?_)))
  refine rD rfl (by rw[wS (b:=false) rfl rfl zM];rfl) (yv (v:=.map none) (n:=0) H.map zE (.inl ⟨rfl,rfl⟩) (dn (rT ?_)))
  refine rD rfl (by rw[wS (b:=false) rfl rfl zM];rfl) (gC (k:=.i64) (m:=((0:Nat):Int)) (n:=((0:Nat):Int)) zE zE (dn (rT ?_)))
  refine rD rfl (wN rfl) (xE zM ?_)
  refine dn (rT (qx ?_))
  refine vS (vC (t:=false) zM (fun h=>by cases h) ?_)
  intro _
  refine vK (vN ?_)
  generalize hA:Act.put _ (some 24) _=B
  have g2:B.eval (.tmp 2)=.pointer (some ⟨w.heap.size,0,none⟩):=by subst hA;exact zA
  have hsB:B.tmps.size=56:=by subst hA;simp only[zP];exact hsA
  have hdB:B.defers=[]:=by subst hA;simp only[dF];exact hdA
  clear hA
  refine vS (vX ?_)
  refine rF (b:=w.heap.size) (o:=0) zA H.f0 ?_
  refine rL (b:=w.heap.size) (o:=0) (v:=.map none) zM H.oMap c2 ?_
  refine r_rangeNil H.map zE ?_
  refine dn ?_
  have hb4:Below w.heap.size w (W.alloc (.mapIter none 0 #[] 0)):=hbw.alloc (o:=.mapIter _ _ _ _) hbw.size
  generalize hA:Act.put _ (some 27) _=C
  have g27:C.eval (.tmp 27)=.pointer (some ⟨W.heap.size,0,none⟩):=by subst hA;exact zE
  have hsC:C.tmps.size=56:=by subst hA;simp only[zP];exact hsB
  have hdC:C.defers=[]:=by subst hA;simp only[dF];exact hdB
  clear hA
  refine vS (qk (zU (fun A w'=>A=C/\w'=W.alloc (.mapIter none 0 #[] 0)) (fun _ _=>0) ⟨rfl,rfl⟩ ?_))
  rintro A w' ⟨rfl,rfl⟩
  refine vX ?_
  refine r_nextNil zA ?_
  refine ql (vs:=#[.bool false]) (v:=.bool false) zE rfl ?_
  refine dn ?_
  refine vS (vC (t:=false) zM (fun h=>by cases h) ?_)
  intro _
  refine xp ?_
  simp only[Exit.then,Exit.inBlock,if_true]
  refine vN (vX (rA (dn (vS (vT ?_)))))
  exact ⟨by simp only[dF];exact hdC,.bool true,rO zM,rfl,hb4⟩
theorem k_zSame (H:TagT P E) (HZ:ZTexts P E) (m n:Int) (q:Option Nat) (w:World):qa P E.zSame #[.agg #[.int .i32 m,.int .i32 n,.map q],.agg #[.int .i32 0,.int .i32 0,.map none]] w fun r w'=>r=.bool (m==0&&(n==0&&q.isNone))/\Below w.heap.size w w':=by
 obtain ⟨R,hR⟩:∃ R,R=(m==0&&(n==0&&q.isNone)):=⟨_,rfl⟩
 rw[← hR]
 refine qa.enter HZ.same zS ?_
 intro a hsz hdf harg
 have e0:=harg 0 (.agg #[.int .i32 m,.int .i32 n,.map q]) zS
 have e1:=harg 1 (.agg #[.int .i32 0,.int .i32 0,.map none]) zS
 unfold c_zSame
 refine vX ?_
 refine xN (v:=.agg #[.int .i32 m,.int .i32 n,.map q]) zA ?_
 refine xN (v:=.agg #[.int .i32 0,.int .i32 0,.map none]) zA ?_
 refine rA (dn ?_)
 have hb1:Below w.heap.size w (w.alloc (.cells (Value.agg #[.int .i32 m,.int .i32 n,.map q]).cells E.tZ)):=(Below.refl _ w).alloc (o:=.cells _ _) (Nat.le_refl _)
 have c0:=qm w (Value.agg #[.int .i32 m,.int .i32 n,.map q]).cells E.tZ (i:=0) (v:=.int .i32 m) rfl
 have c1:=qm w (Value.agg #[.int .i32 m,.int .i32 n,.map q]).cells E.tZ (i:=1) (v:=.int .i32 n) rfl
 have c2:=qm w (Value.agg #[.int .i32 m,.int .i32 n,.map q]).cells E.tZ (i:=2) (v:=.map q) rfl
 generalize hW1:w.alloc (.cells (Value.agg #[.int .i32 m,.int .i32 n,.map q]).cells E.tZ)=W1 at *
 have hz1:W1.heap.size=w.heap.size+1:=by rw[← hW1];simp
 have hb2:Below W1.heap.size W1 (W1.alloc (.cells (Value.agg #[.int .i32 0,.int .i32 0,.map none]).cells E.tZ)):=(Below.refl _ W1).alloc (o:=.cells _ _) (Nat.le_refl _)
 have d0:=qm W1 (Value.agg #[.int .i32 0,.int .i32 0,.map none]).cells E.tZ (i:=0) (v:=.int .i32 0) rfl
 have d1:=qm W1 (Value.agg #[.int .i32 0,.int .i32 0,.map none]).cells E.tZ (i:=1) (v:=.int .i32 0) rfl
 have d2:=qm W1 (Value.agg #[.int .i32 0,.int .i32 0,.map none]).cells E.tZ (i:=2) (v:=.map none) rfl
 have c0:=hb2.cellS c0
 have c1:=hb2.cellS c1
 have c2:=hb2.cellS c2
 generalize W1.alloc (.cells (Value.agg #[.int .i32 0,.int .i32 0,.map none]).cells E.tZ)=W at *
 have hbw:Below w.heap.size w W:=hb1.trans (hb2.mono zH)
 generalize hA:Act.put _ (some 4) _=A
 have h2:A.eval (.tmp 2)=.pointer (some ⟨w.heap.size,0,none⟩):=by subst hA;exact zE
 have h3:A.eval (.tmp 3)=.pointer (some ⟨W1.heap.size,0,none⟩):=by subst hA;exact zE
 have hsA:A.tmps.size=24:=by subst hA;simp only[zP];exact hsz
 have hdA:A.defers=[]:=by subst hA;simp only[dF];exact hdf
 clear hA
 have one:∀ {w':World} {b o:Nat} {v:Value},w'.cell? ⟨b,o,none⟩=some v->qb w' b o [v]:=by
  intro w' b o v h i u hu
  cases i with
  | zero=>simp only[List.getElem?_cons_zero,Option.some.injEq] at hu;subst hu;exact h
  | succ i=>simp at hu
 refine vS (yF [0,1,2,3,4,5,6,7,8,9,10,11,12,13,14,15,16,17,18,19] rfl ?_)
 have fin:∀ (B:Act) (b:Bool) (w':World),B.defers=[]->B.eval (.tmp 4)=.bool b->b=R->Below w.heap.size w w'->vc P (sq [.ret]) (Out P #[.tmp 4] fun r w'=>r=.bool R/\Below w.heap.size w w') B w':=by
  intro B b w' hd h4 hb hbb
  refine vT ?_
  exact ⟨hd,.bool b,rO h4,by rw[hb],hbb⟩
 refine rD rfl (wN rfl) (rF (b:=w.heap.size) (o:=0) zA HZ.f0 (dn (rT ?_)))
 refine rD rfl (wN rfl) (rL (b:=w.heap.size) (o:=0) (v:=.int .i32 m) zM HZ.o32 c0 (dn (rT ?_)))
 refine rD rfl (wN rfl) (rF (b:=W1.heap.size) (o:=0) zA HZ.f0 (dn (rT ?_)))
 refine rD rfl (wN rfl) (rL (b:=W1.heap.size) (o:=0) (v:=.int .i32 0) zM HZ.o32 d0 (dn (rT ?_)))
 refine rD rfl (wN rfl) (xG (k:=.i32) (m:=m) (n:=0) zE zE (dn (rT ?_)))
 refine rD rfl (wN rfl) (rM (dn (rT ?_)))
 cases hm:(m==0) with
 | false =>
  iterate 5 (refine x7 rfl (by rw[wS (b:=false) rfl rfl zM];rfl) ?_)
  refine rD rfl (wN rfl) (xE zM ?_)
  refine dn (rT ?_)
  refine rD rfl (wN rfl) (rM (dn (rT ?_)))
  iterate 5 (refine x7 rfl (by rw[wS (b:=false) rfl rfl zM];rfl) ?_)
  refine rD rfl (wN rfl) (xE zM ?_)
  refine dn (rT ?_)
  refine rD rfl (wN rfl) (rA (dn (rT ?_)))
  refine qx ?_
  refine fin _ false W ?_ ?_ (by rw[hR];simp[hm]) hbw
  ·simp only[dF];exact hdA
  ·exact zM
 | true =>
  refine rD rfl (by rw[wS (b:=true) rfl rfl zM];rfl) (rF (b:=w.heap.size) (o:=0) zA HZ.f1 (dn (rT ?_)))
  refine rD rfl (by rw[wS (b:=true) rfl rfl zM];rfl) (rL (b:=w.heap.size) (o:=1) (v:=.int .i32 n) zM HZ.o32 c1 (dn (rT ?_)))
  refine rD rfl (by rw[wS (b:=true) rfl rfl zM];rfl) (rF (b:=W1.heap.size) (o:=0) zA HZ.f1 (dn (rT ?_)))
  refine rD rfl (by rw[wS (b:=true) rfl rfl zM];rfl) (rL (b:=W1.heap.size) (o:=1) (v:=.int .i32 0) zM HZ.o32 d1 (dn (rT ?_)))
  refine rD rfl (by rw[wS (b:=true) rfl rfl zM];rfl) (xG (k:=.i32) (m:=n) (n:=0) zE zE (dn (rT ?_)))
  refine rD rfl (wN rfl) (xf zM ?_)
  refine dn (rT ?_)
  refine rD rfl (wN rfl) (rM (dn (rT ?_)))
  cases hn:(n==0) with
  | false =>
   iterate 5 (refine x7 rfl (by rw[wS (b:=false) rfl rfl zM];rfl) ?_)
   refine rD rfl (wN rfl) (xE zM ?_)
   refine dn (rT ?_)
   refine rD rfl (wN rfl) (rA (dn (rT ?_)))
   refine qx ?_
   refine fin _ false W ?_ ?_ (by rw[hR];simp[hm,hn]) hbw
   ·simp only[dF];exact hdA
   ·exact zM
  | true =>
   refine rD rfl (by rw[wS (b:=true) rfl rfl zM];rfl) (rF (b:=w.heap.size) (o:=0) zA HZ.f2 (dn (rT ?_)))
   refine rD rfl (by rw[wS (b:=true) rfl rfl zM];rfl) (qf (b:=w.heap.size) (o:=2) (cs:=[.map q]) zM H.aTags (one c2) (dn (rT ?_)))
   refine rD rfl (by rw[wS (b:=true) rfl rfl zM];rfl) (rF (b:=W1.heap.size) (o:=0) zA HZ.f2 (dn (rT ?_)))
   refine rD rfl (by rw[wS (b:=true) rfl rfl zM];rfl) (qf (b:=W1.heap.size) (o:=2) (cs:=[.map none]) zM H.aTags (one d2) (dn (rT ?_)))
   refine rD rfl (by rw[wS (b:=true) rfl rfl zM];rfl) ?_
   refine q8 (args:=#[.agg #[.map q],.agg #[.map none]]) ?_ (k_zTags H HZ q W) ?_
   ·simp only[lM]
    exact zE
   rintro v w' ⟨rfl,hb'⟩
   refine dn (rT ?_)
   refine rD rfl (wN rfl) (xf zM ?_)
   refine dn (rT ?_)
   refine rD rfl (wN rfl) (rA (dn (rT ?_)))
   refine qx ?_
   refine fin _ q.isNone w' ?_ ?_ (by rw[hR];simp[hm,hn]) (hbw.trans (hb'.mono hbw.size))
   ·simp only[dF];exact hdA
   ·exact zM
theorem k_zNew (HZ:ZTexts P E) (w:World):qa P E.zNew #[] w fun v w'=>v=.agg #[.int .i32 0,.int .i32 0,.map none]/\Below w.heap.size w w':=by
 have hdf0:∀ (v:Value) (w:World),qa P E.zDf #[v] w fun _ w'=>w'=w:=by
  intro v w
  refine qa.enter HZ.df zS ?_
  intro a hsz hdf harg
  unfold c_zDf
  exact vK ⟨hdf,.tuple #[],by simp[results],rfl⟩
 refine qa.enter HZ.new zS ?_
 intro a hsz hdf harg
 unfold c_zNew
 refine vX ?_
 refine qR HZ.zero ?_
 refine dn (vX ?_)
 refine qR HZ.zero ?_
 refine dn ?_
 have hb1:Below w.heap.size w (w.alloc (.cells (Value.agg #[.int .i32 0,.int .i32 0,.map none]).cells E.tZ)):=(Below.refl _ w).alloc (o:=.cells _ _) (Nat.le_refl _)
 have hf0:∀ i,i<3->qr (w.alloc (.cells (Value.agg #[.int .i32 0,.int .i32 0,.map none]).cells E.tZ)) w.heap.size (0+i):=fun i hi=>by rw[Nat.zero_add];exact qq w _ _ (by simpa [Value.cells] using hi)
 generalize hW1:w.alloc (.cells (Value.agg #[.int .i32 0,.int .i32 0,.map none]).cells E.tZ)=W1 at *
 have hz1:W1.heap.size=w.heap.size+1:=by rw[← hW1];simp
 have hb2:Below W1.heap.size W1 (W1.alloc (.cells (Value.agg #[.int .i32 0,.int .i32 0,.map none]).cells E.tZ)):=(Below.refl _ W1).alloc (o:=.cells _ _) (Nat.le_refl _)
 have c1:qb (W1.alloc (.cells (Value.agg #[.int .i32 0,.int .i32 0,.map none]).cells E.tZ)) W1.heap.size 0 [.int .i32 0,.int .i32 0,.map none]:=fun i v hv=>by rw[Nat.zero_add];exact qm W1 _ _ (by simpa [Value.cells] using hv)
 have hf1:∀ i,i<3->qr (W1.alloc (.cells (Value.agg #[.int .i32 0,.int .i32 0,.map none]).cells E.tZ)) w.heap.size (0+i):=fun i hi=>(hf0 i hi).eff (Eff.of_below (M:=fun _ _=>False) hb2)
 generalize W1.alloc (.cells (Value.agg #[.int .i32 0,.int .i32 0,.map none]).cells E.tZ)=W at *
 have hbw:Below w.heap.size w W:=hb1.trans (hb2.mono zH)
 refine vX ?_
 refine q8 (args:=#[.pointer (some ⟨W1.heap.size,0,none⟩)]) ?_ (hdf0 _ W) ?_
 ·simp only[lM]
  exact zE
 rintro v W2 rfl
 have hcc:qb (setCells W2 w.heap.size 0 [.int .i32 0,.int .i32 0,.map none]) w.heap.size 0 [.int .i32 0,.int .i32 0,.map none]:=fun i v hv=>qg _ [.int .i32 0,.int .i32 0,.map none] W2 0 (fun j hj=>(hf1 j hj).1) i v hv
 refine dn (vX ?_)
 refine qf (b:=W1.heap.size) (o:=0) (cs:=[.int .i32 0,.int .i32 0,.map none]) zE HZ.agg c1 ?_
 refine qy (b:=w.heap.size) (o:=0) (cs:=[.int .i32 0,.int .i32 0,.map none]) zE zE (by intro v hv;simp only[List.mem_cons,List.not_mem_nil,or_false] at hv;rcases hv with rfl | rfl | rfl<;>rfl) HZ.agg hf1 ?_
 refine dn (vS (vT ?_))
 refine ⟨by simp only[dF];exact hdf,.agg #[.int .i32 0,.int .i32 0,.map none],za (b:=w.heap.size) (o:=0) (cs:=[.int .i32 0,.int .i32 0,.map none]) zE HZ.agg hcc,rfl,?_⟩
 exact hbw.trans ((qe _ _ _ _).below hbw.size (by rintro k i hk ⟨rfl,_⟩;omega))
end
end Go.Km
