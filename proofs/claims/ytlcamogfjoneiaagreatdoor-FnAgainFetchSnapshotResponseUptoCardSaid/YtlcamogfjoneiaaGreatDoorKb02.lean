/- Over any program: what the functions of kmsg, kbin and the spec compute. -/
import Derived.Test.YtlcamogfjoneiaaGreatDoorKb00
import Derived.Test.YtlcamogfjoneiaaGreatDoorKb01
import Derived.Laws.BitsAllLaws
import Derived.Laws.Tables
set_option maxHeartbeats 4000000
set_option linter.unusedSimpArgs false
set_option linter.unusedVariables false
namespace Go.Km
open Go Go.RowKit
variable {B L U b cap k n o off s t ver:Nat} {E:Env} {F:FuncId} {G:Nat->Option Obj} {P:Program} {Q:Exit->Act->World->Prop} {S:Value->World->Prop} {a:Act} {ad:Option Addr} {cs ts xs:List Value} {e:TypeId} {fx:Bool} {l:List UInt8} {r:List Oper} {tags:List (Nat × List UInt8)} {v:Value} {w w':World} {x:Cx}
section
attribute [local irreducible] vc rO_ qz
section
variable {W0 : World} {sb : Sb}
theorem wok_nil (H:EnvW P E sb.T) (HI:EnvI P E) (tg:Bool):(Flds.nil tg).WOk P E W0 sb:=by
 intro G x ver fx L TP TU s idx off n t b B pb po m a w xs cs ds tags kt Q hok hs hsn hs1 hn ht hst hp hc hr hkx hb k
 have h1:=hs.one;have h2:=hs.nL;have h3:=hs.Lt
 by_cases hne:kt≠[]
 ·have hme:∀ {α:Type} (f:KX->α),((kt.map f).isEmpty)=false:=by
   intro α f
   cases kt with
   | nil=>exact absurd rfl hne
   | cons e l=>rfl
  obtain ⟨f,hx⟩:=Option.isSome_iff_exists.1 (hkx.fl hne).1
  simp only[Flds.wn,hme,Bool.false_eq_true,if_false] at hn
  simp only[Flds.wt,hx,hme,Bool.false_eq_true,if_false] at ht
  simp only[Flds.wc,hme,Bool.false_eq_true,if_false]
  exact wok_nilK H HI hne hok hs hsn hs1 hn ht hst hp hc hr hkx hb k
 have hne:kt=[]:=by simpa using hne
 subst hne
 simp only[List.map_nil,qG,List.filterMap_nil,List.nil_append] at hn ht hb k ⊢
 simp only[Flds.wc,List.isEmpty_nil,if_true,wTags]
 cases hx:x.fl with
 | none =>
  have hfx:=hs.no hx
  subst hfx
  refine vN (k a w (Fr.refl _ _) ?_)
  simpa [Flds.wr] using hst
 | some f =>
  simp only[Flds.okW,hx,Option.isNone_some,Bool.false_or,Bool.and_eq_true,bne_iff_ne,ne_eq,beq_iff_eq] at hok
  obtain ⟨⟨⟨⟨rfl,hoff⟩,htl⟩,hte⟩,hu⟩:=hok
  simp only[Flds.wt,hx,List.isEmpty_nil,if_true] at ht
  cases ds with
  | cons d ds=>exact absurd hr (by simp[Flds.Rep])
  | nil =>
  simp only[Flds.Rep,if_true] at hr
  obtain ⟨v,rfl,htr0⟩:=hr
  have htr:=htr0.mono (Nat.zero_le B)
  have hcv:W0.cell? ⟨pb,po+off,none⟩=some v:=by have:=hc 0 v rfl;simpa using this
  have hfl:=hst.fl f hx
  have hfn:=hs.fl f hx
  refine vS (vX (rM (dn ?_)))
  have hf0:Fr (KW L n t) a (a.put (some t) (a.eval (.tmp f))):=(Fr.refl _ a).put _ (hs.kt t (Nat.le_refl _))
  have hst0:=hst.fr hs hf0 (qj _ _ _ _ zH)
  have hsz0:(a.put (some t) (a.eval (.tmp f))).tmps.size=a.tmps.size:=zP _ _ _
  refine vS (vC (t:=fx) zA ?_ ?_)
  ·intro hfx
   subst hfx
   simp only[Flds.wr,if_true] at hb k
   have htb:=yI tags
   simp only[xU,List.length_append] at hb
   have hlt:tags.length<4294967296:=by unfold big at hb;omega
   refine vS (m_tagsA (K:=KW L n t) (n:=tags.length) (S1:=Grow w) HI rfl (by rw[qj _ _ _ _ zH];exact hp) hoff (H.tlen htl W0 sb pb (po+off) v tags _ rfl (hst.below.cellS hcv) htr hst.below) hlt
    (S:=fun v' w'=>w'.ownsG ⟨W0.heap.size,G⟩ E.tU8 1 v' (xs++uvar tags.length).length ((xs++uvar tags.length).map bv)/\Below W0.heap.size w w') ?_ hs.kt hs.k1 zH zH zH ?_)
   ·intro w1 hg
    refine (H.uvar hu tags.length ⟨W0.heap.size,G⟩ w1 hlt _ xs (kW hst0.own hg) (by have:=hg.size;have:=hst.size;show W0.heap.size<=_;omega) zH).mono ?_
    rintro v' w' ⟨h1,h2⟩
    exact ⟨h1,(hg.below.mono hst.size).trans h2⟩
   intro a1 v1 w1 hf1 e1 hS1
   have hst1:=hst0.step hs hf1 e1 hS1
   refine vS (m_tagsB (K:=KW L n t) rfl (by rw[hf1.slot s ⟨hs1,.inl hsn⟩,qj _ _ _ _ zH];exact hp) hoff
    (H.teach hte W0 sb pb (po+off) v tags w1 rfl (hst1.below.cellS hcv) htr hst1.below G _ _ hst1.own (own_ne hst1.own.own (qi hcv)) (by simp only[List.length_append];omega)) hs.kt hs.k1 zH zH (by rw[hf1.size];omega) ?_)
   intro a2 v2 w2 hf2 e2 hS2
   have hst2:=hst1.step hs hf2 e2 hS2
   refine vN (vN (vN (k a2 w2 ((hf0.trans hf1).trans hf2) ?_)))
   simpa [xU] using hst2
  ·intro hfx
   subst hfx
   refine vK (vN (vN (k _ w hf0 ?_)))
   simpa [Flds.wr] using hst0
theorem okW_one {ty:Ty} (h:ty.okW P E x=true) (h1:ty.tp=none) (h2:ty.arr=false):qW P (ty.T E)=true/\ty.size=1:=by
 cases ty<;>simp_all [Ty.okW,Ty.tp,Ty.arr,Ty.T,Ty.size]
theorem okW_arr {ty:Ty} (h:ty.okW P E x=true) (h2:ty.arr=true):ty.tp=none/\zd P (ty.T E)=some 16/\yC P (ty.T E) 16=true/\ty.size=16 ∧
  ∀ cs B d,ty.Rep W0 sb B cs d->cs.length=16/\∀ v ∈ cs,v.oneCell'=true:=by
 cases ty<;>simp_all [Ty.okW,Ty.tp,Ty.arr,Ty.T,Ty.size]
 intro cs B d hr
 cases d with
 | bytes o =>
  cases o with
  | none=>exact absurd hr (by simp[Ty.Rep])
  | some l =>
   simp only[Ty.Rep] at hr
   obtain ⟨hl,rfl⟩:=hr
   refine ⟨by simp[hl],?_⟩
   intro v hv
   obtain ⟨b,_,rfl⟩:=List.mem_map.1 hv
   rfl
 | _=>exact absurd hr (by simp[Ty.Rep])
theorem qb.take {w:World} {b o:Nat} {cs:List Value} (h:qb w b o cs) (n:Nat):qb w b o (cs.take n):=fun i v hv=>h i v (by
 rw[List.getElem?_take] at hv
 split at hv
 ·exact hv
 ·cases hv)
theorem qb.drop {w:World} {b o:Nat} {cs:List Value} (h:qb w b o cs) (n:Nat):qb w b (o+n) (cs.drop n):=fun i v hv=>by
 rw[List.getElem?_drop] at hv
 have:=h (n+i) v hv
 rwa [show o+n+i=o+(n+i) by omega]
theorem wn_cons {v:Ver} (h:v.isTag=false) (kz:List Nat) (t:Ty) (r:Flds):Flds.wn kz (.cons v t r)=1+t.wn+Flds.wn kz r:=by cases v<;>first | rfl | cases h
theorem wt_cons {v:Ver} (h:v.isTag=false) (x:Cx) (kz:List Nat) (t:Ty) (r:Flds):Flds.wt x kz (.cons v t r)=v.nt+t.h+t.wt x+Flds.wt x kz r:=by cases v<;>first | rfl | cases h
theorem wc_cons {v:Ver} (h:v.isTag=false) (E:Env) (x:Cx) (TP TU:TypeId) (s idx:Nat) (kt:List KWr) (n t b:Nat) (ty:Ty) (r:Flds):Flds.wc E x TP TU s idx kt n t b (.cons v ty r) =
  ifVer E x v t (match ty.tp with
   | some TP'=>sq (rg [qd (t+v.nt) (.tmp s) TP,jn (t+v.nt+1) (.tmp (t+v.nt)),xw (t+v.nt+2) TU (.tmp (t+v.nt+1)) idx,qc n (.tmp (t+v.nt+2)) TP']::Ty.wc E x n (n+1) (t+v.nt+3) b ty)
   | none=>sq ((if ty.arr then wLoadArr TP TU (ty.T E) n s idx (t+v.nt) else yV TP TU (ty.T E) n s idx (t+v.nt))::Ty.wc E x n (n+1) (t+v.nt+4) b ty)) ::
  Flds.wc E x TP TU s (idx+1) kt (n+1+ty.wn) (t+v.nt+ty.h+ty.wt x) (b+ty.wb) r:=by cases v<;>first | rfl | cases h
theorem wok_cons (v:Ver) (ty:Ty) (r:Flds) (hvt:v.isTag=false) (hty:ty.WOk P E W0 sb) (hr':r.WOk P E W0 sb) (hrep:∀ cs B d,ty.Rep W0 sb B cs d->ty.tp=none->ty.arr=false->∃ u,cs=[u]):(Flds.cons v ty r).WOk P E W0 sb:=by
 intro G x ver fx L TP TU s idx off n t b B pb po m a w xs cs ds tags kt Q hok hs hsn hs1 hn ht hst hp hc hr hkx hb k
 have h1:=hs.one;have h2:=hs.nL;have h3:=hs.Lt
 simp only[Flds.okW,Bool.and_eq_true,beq_iff_eq] at hok
 obtain ⟨⟨hoff,hokt⟩,_,hokr⟩:=hok
 rw[show v.nxt m=m by cases v<;>first | rfl | cases hvt] at hokr
 cases ds with
 | nil=>exact absurd hr (by simp[Flds.Rep])
 | cons d ds =>
 simp only[Flds.Rep] at hr
 obtain ⟨hrt,hrr,_⟩:=hr
 rw[wn_cons hvt] at hn
 rw[wt_cons hvt] at ht
 simp only[Flds.wr,Ver.addTag_no hvt] at hb k
 rw[wc_cons hvt]
 -- the rest
 have hrest:∀ (part:List UInt8) a1 w1,part=(if v.has ver=true then ty.wr fx ver d else [])->Fr (KW L n t) a a1->WSt P E W0 G x ver fx a1 w1 (xs++part) →
   vc P (sq (Flds.wc E x TP TU s (idx+1) (kt.map (·.kw)) (n+1+ty.wn) (t+v.nt+ty.h+ty.wt x) (b+ty.wb) r)) Q a1 w1:=by
  intro part a1 w1 hpart hf hst1
  refine hr' G x ver fx L TP TU s (idx+1) (off+ty.size) (n+1+ty.wn) _ (b+ty.wb) B pb po m a1 w1 (xs++part) (cs.drop ty.size) ds tags kt Q hokr (hs.up zH zH zH) zH hs1 zH (by rw[hf.size];omega) hst1 (by rw[hf.slot s ⟨hs1,.inl hsn⟩];exact hp) (by have:=hc.drop ty.size;rwa [Nat.add_assoc] at this) hrr hkx ?_ ?_
  ·rw[hpart]
   simp only[List.length_append] at hb ⊢
   omega
  ·intro a2 w2 hf2 hst2
   refine k a2 w2 (hf.trans (hf2.mono (KW.mono zH zH))) ?_
   rw[hpart] at hst2
   simpa [List.append_assoc] using hst2
 refine vS (m_ver hvt (K:=KW L n t) hst.ver (by have:=hs.vs.1;omega) hs.kt zH ?_ ?_)
 ·intro hhas a0 hf0 he0
  have hst0:=hst.fr hs hf0 (he0 1 zH)
  have hp0:a0.eval (.tmp s)=.pointer (some ⟨pb,po,none⟩):=by rw[he0 s zH];exact hp
  have hsz0:=hf0.size
  have hpart:ty.wr fx ver d=(if v.has ver=true then ty.wr fx ver d else []):=by rw[if_pos hhas]
  have hbt:xs.length+(ty.wr fx ver d).length<=big:=by
   rw[hhas] at hb
   simp only[if_true,List.length_append] at hb
   omega
  have hct:qb W0 pb (po+off) (cs.take ty.size):=hc.take _
  have hpbW:=hc
  cases htp:ty.tp with
  | some TP' =>
   have hh:ty.h=3:=by simp[Ty.h,htp]
   simp only[hh] at ht hrest ⊢
   refine vX (rM ?_)
   refine xe (ad:=⟨pb,po,none⟩) zA ?_
   refine rF (b:=pb) (o:=po) zE hoff ?_
   refine rA (dn ?_)
   generalize hA:(((a0.put (some (t+v.nt)) (a0.eval (.tmp s))).put (some (t+v.nt+1)) (.pointer (some ⟨pb,po,none⟩))).put (some (t+v.nt+2)) (.pointer (some ⟨pb,po+off,none⟩)))=A
   have hAe:A.eval (.tmp (t+v.nt+2))=.pointer (some ⟨pb,po+off,none⟩):=by rw[← hA];exact zE
   have hA1:∀ k,k<t->A.eval (.tmp k)=a0.eval (.tmp k):=by intro k hk;rw[← hA];exact zE
   have hAs:A.tmps.size=a0.tmps.size:=by rw[← hA];simp only[zP]
   have hAf:Fr (KW L n t) a0 A:=by
    rw[← hA]
    exact (((Fr.refl _ _).put _ (hs.kt _ zH)).put _ (hs.kt _ zH)).put _ (hs.kt _ zH)
   have hf1:Fr (KW L n t) a (A.put (some n) (A.eval (.tmp (t+v.nt+2)))):=(hf0.trans hAf).put _ (by rintro ⟨_,h | h⟩<;>omega)
   have hst1:=hst.fr hs hf1 (by rw[qj _ _ _ _ zH,hA1 1 zH,he0 1 zH])
   refine hty G x ver fx L n (n+1) (t+v.nt+3) b B _ w xs (cs.take ty.size) d _ hokt (hs.up zH zH zH) zH zH zH (by rw[hf1.size];omega) hst1 ?_ hrt hbt ?_
   ·simp only[Ty.Holds,htp]
    exact ⟨pb,po+off,by rw[qE _ _ _ (by rw[hAs,hsz0];omega),hAe],hct⟩
   ·intro a2 w2 hf2 hst2
    exact hrest _ a2 w2 hpart (hf1.trans (hf2.mono (KW.mono zH zH))) hst2
  | none =>
   have hh:ty.h=4:=by simp[Ty.h,htp]
   simp only[hh] at ht hrest ⊢
   cases harr:ty.arr with
   | true =>
    simp only[if_true]
    obtain ⟨_,hagg,hz,hsz16,hcell⟩:=okW_arr (W0:=W0) (sb:=sb) hokt harr
    obtain ⟨z,hz,hzl⟩:=vf hz
    obtain ⟨hl16,h1c⟩:=hcell _ _ _ hrt
    have hw:qb w pb (po+off) (cs.take ty.size):=by
     have:pb<W0.heap.size:=by
      have h0:=hct.get (i:=0) zH
      exact qi h0
     exact hct.below hst.below this
    refine vS (m_loadArr (K:=KW1 L n t) (z:=z) (cs:=cs.take ty.size) hp0 hoff (by rw[hl16];exact hagg) hz zH h1c hw (by rintro (h | h)<;>omega) (fun d hd=>by rintro (h | h)<;>omega) zH (by rw[hsz0];omega) ?_)
    intro a1 w1 q hf1' hq hqs hqc hg _
    have hf1:Fr (KW L n t) a0 a1:=hf1'.mono (fun k hk=>hk.2)
    have hbw1:Below W0.heap.size w w1:=hg.below.mono hst.size
    have hst1:WSt P E W0 G x ver fx a1 w1 xs:=by
     have h1':a1.eval (.tmp 1)=a0.eval (.tmp 1):=hf1'.slot 1 (.inl zH)
     exact ⟨hst.below.trans hbw1,by rw[h1'];exact kW hst0.own hg,by rw[hf1.slot _ ⟨hs.vs.2,.inl hs.vs.1⟩];exact hst0.ver,fun f hh=>by rw[hf1.slot _ ⟨(hs.fl f hh).2,.inl (hs.fl f hh).1⟩];exact hst0.fl f hh⟩
    refine hty G x ver fx L n (n+1) (t+v.nt+4) b B a1 w1 xs (cs.take ty.size) d _ hokt (hs.up zH zH zH) zH zH zH (by rw[hf1.size,hsz0];omega) hst1 ?_ hrt hbt ?_
    ·simp only[Ty.Holds,htp,harr,if_true]
     exact ⟨q,hq,hqc⟩
    ·intro a2 w2 hf2 hst2
     exact hrest _ a2 w2 hpart ((hf0.trans hf1).trans (hf2.mono (KW.mono zH zH))) hst2
   | false =>
    simp only[Bool.false_eq_true,if_false]
    obtain ⟨hone,hsz1⟩:=okW_one hokt htp harr
    obtain ⟨u,hu⟩:=hrep _ _ _ hrt htp harr
    have hcu:W0.cell? ⟨pb,po+off,none⟩=some u:=by have:=hct 0 u (by rw[hu];rfl);simpa using this
    have hcw:w.cell? ⟨pb,po+off,none⟩=some u:=by rw[hst.below.cell (p:=⟨pb,po+off,none⟩) (qi hcu)];exact hcu
    refine vS (m_load (K:=KW1 L n t) hp0 hoff hone hcw (by rintro (h | h)<;>omega) (fun d hd=>by rintro (h | h)<;>omega) zH (by rw[hsz0];omega) ?_)
    intro a1 hf1' he1
    have hf1:Fr (KW L n t) a0 a1:=hf1'.mono (fun k hk=>hk.2)
    have hst1:WSt P E W0 G x ver fx a1 w xs:=by
     have h1':a1.eval (.tmp 1)=a0.eval (.tmp 1):=hf1'.slot 1 (.inl zH)
     exact hst0.fr hs hf1 h1'
    refine hty G x ver fx L n (n+1) (t+v.nt+4) b B a1 w xs (cs.take ty.size) d _ hokt (hs.up zH zH zH) zH zH zH (by rw[hf1.size,hsz0];omega) hst1 ?_ hrt hbt ?_
    ·simp only[Ty.Holds,htp,harr,Bool.false_eq_true,if_false]
     rw[hu,he1]
    ·intro a2 w2 hf2 hst2
     exact hrest _ a2 w2 hpart ((hf0.trans hf1).trans (hf2.mono (KW.mono zH zH))) hst2
 ·intro hhas a0 hf0 he0
  refine hrest [] a0 w (by rw[hhas];simp) hf0 ?_
  rw[List.append_nil]
  exact hst.fr hs hf0 (he0 1 zH)
theorem Scal.val_int {c:Scal} (h:c.isInt=true) (n:Int):c.val n=.int c.kind n:=by cases c<;>first | rfl | cases h
theorem Scal.wr_len (c:Scal) (n:Int):(c.wr n).length=c.width:=by cases c<;>simp[Scal.wr,Scal.width,qO]
theorem kw_k (E:Env) (x:Cx) (TP TU:TypeId) (s idx k lb:Nat) (body:Nat->Nat->Nat->Nat->List Code) (wn wt wb:Nat) (ty:Ty):(ty.kw E x TP TU s idx k lb body wn wt wb).k=k/\(ty.kw E x TP TU s idx k lb body wn wt wb).askT=ty.kwA/\(ty.kw E x TP TU s idx k lb body wn wt wb).casN=ty.kwN wn/\(ty.kw E x TP TU s idx k lb body wn wt wb).casT=ty.kwT wt:=by
 cases ty<;>exact ⟨rfl,rfl,rfl,rfl⟩
theorem w_add {ns:List Nat} (hrow:xo P E.tU32s E.tW 1=true) (hL:L<=t) (hn:n+1<=L) (hsz:t+3<=a.tmps.size) (hU:U<=w.heap.size) (hl:ns.length+1<=big) (hown:w.ownsRow U E.tW 1 (a.eval (.tmp n)) ns.length (ns.map gm)) (kk:∀ a' w',Fr (KW1 L n t) a a'->w'.ownsRow U E.tW 1 (a'.eval (.tmp n)) (ns++[k]).length ((ns++[k]).map gm)->Below U w w'->Q .normal a' w'):vc P (kwAdd E k n t) Q a w:=by
 refine vR zS ?_
 refine rM ?_
 refine xM (s:=1) (vs:=[gm k]) hrow (by simp[xr,u32,gm]) rfl (by intro v hv;simp only[List.mem_singleton] at hv;subst hv;rfl) zH zH ?_
 refine xD (sz:=1) (m:=1) (U:=U) (v:=a.eval (.tmp n)) (n:=ns.length) (xs:=ns.map gm) (u:=.slice (some ⟨w.heap.size,0,none⟩) 1 1) (news:=[gm k]) hrow zE zE (hown.alloc _) (by simp;omega) ?_ hl ?_
 ·refine zh (rB hrow) ?_ rfl (by intro u hu;simp only[List.mem_singleton] at hu;subst hu;rfl)
  intro j u hu
  rw[Nat.zero_add]
  exact qm w _ E.tW (by simpa [gm,Value.cells] using hu)
 intro v' w' hown' hbel
 refine rA (dn ?_)
 refine kk _ w' ?_ ?_ (((Below.refl U w).alloc hU _).trans hbel)
 ·exact ((((Fr.refl _ a).put _ (KW1.kt zH hL _ (Nat.le_refl _))).put _ (KW1.kt zH hL _ zH)).put _ (KW1.kt zH hL _ zH)).put _ (by rintro (h | h)<;>omega)
 ·rw[List.map_append,List.length_append]
  have:∀ A:Act,n<A.tmps.size->A.tmps.size=a.tmps.size->(A.put (some n) v').eval (.tmp n)=v':=fun A h _=>qE _ _ _ h
  simp (disch:=(try simp only[sP]);omega) only[eS,eN]
  exact hown'
theorem kx_scal (H:EnvW P E sb.T) {TP TU:TypeId} {idx lb pb po wn wt wb:Nat} {body:Nat->Nat->Nat->Nat->List Code} {c:Scal} {df:Int} {d:D} (hi:c.isInt=true) (hk:k<4294967296) (hrow:xo P E.tU32s E.tW 1=true) (hu:fx=true->E.wUvarint≠0) (hw:E.wScal c≠0) (hone:qW P (E.tScal c)=true) (hoff:qh P TU idx=some off) (hc:qb W0 pb (po+off) cs) (hr:(Ty.scal c df).Rep W0 sb B cs d):
  KX.ok P E W0 x ver fx s pb po ⟨(Ty.scal c df).kw E x TP TU s idx k lb body wn wt wb,if fx && !(Ty.scal c df).isD d then some ((Ty.scal c df).wr fx ver d) else none⟩:=by
 cases d with
 | int mv =>
  simp only[Ty.Rep] at hr
  obtain ⟨rfl,hmv⟩:=hr
  have hcell:W0.cell? ⟨pb,po+off,none⟩=some (c.val mv):=by have:=hc 0 _ rfl;simpa using this
  refine ⟨?_,?_⟩
  ·intro hfx L n t U a w ns Q hL hn hs hsz hp hb hU hl hown kk
   subst hfx
   simp only[Ty.kw,Ty.kwA] at hsz
   simp only[Ty.kw,Ty.isD,Bool.true_and] at kk ⊢
   have hcw:w.cell? ⟨pb,po+off,none⟩=some (c.val mv):=by rw[hb.cell (p:=⟨pb,po+off,none⟩) (qi hcell)];exact hcell
   refine vX (rM ?_)
   refine xe (ad:=⟨pb,po,none⟩) zA ?_
   refine rF (b:=pb) (o:=po) zE hoff ?_
   refine rL (b:=pb) (o:=po+off) zE hone hcw ?_
   refine gC (k:=c.kind) (m:=mv) (n:=df) (by simp (disch:=(try simp only[sP]);omega) only[eV,Scal.val_int hi]) (by rw[xr,Scal.val_int hi]) ?_
   refine dn ?_
   generalize hA:Act.put _ (some (t+4)) _=A
   have hfA:Fr (KW1 L n t) a A:=by
    subst hA
    exact (((((Fr.refl _ a).put _ (KW1.kt zH hL _ (Nat.le_refl _))).put _ (KW1.kt zH hL _ zH)).put _ (KW1.kt zH hL _ zH)).put _ (KW1.kt zH hL _ zH)).put _ (KW1.kt zH hL _ zH)
   have hAc:A.eval (.tmp (t+4))=.bool (mv != df):=by subst hA;exact zE
   have hAn:A.eval (.tmp n)=a.eval (.tmp n):=by subst hA;exact zE
   have hzA:=hfA.size
   clear hA
   refine vS (vC (t:=mv != df) hAc ?_ ?_)
   ·intro hne
    have hne':(mv==df)=false:=by simpa using hne
    refine w_add (L:=L) hrow zH hn (by rw[hzA];omega) hU hl (by rw[hAn];exact hown) ?_
    intro a' w' hf' hown' hb'
    refine vN (kk a' w' (hfA.trans (hf'.mono (KW1.mono zH))) ?_ hb')
    simpa [hne'] using hown'
   ·intro heq
    have heq':(mv==df)=true:=by
     have:mv=df:=by simpa using heq
     simp[this]
    refine vK (vN (kk A w hfA ?_ (Below.refl _ _)))
    simpa [heq',hAn] using hown
  ·intro pl hpl G L n t b a w xs Q hs hsn hs1 hn ht hst hp hb kk
   have h1:=hs.one;have h2:=hs.nL;have h3:=hs.Lt
   simp only[Ty.wr] at hpl
   by_cases hcnd:(fx && !(Ty.scal c df).isD (.int mv))=true
   ·rw[if_pos hcnd] at hpl
    simp only[Bool.and_eq_true] at hcnd
    obtain ⟨hfx,_⟩:=hcnd
    simp only[Option.some.injEq] at hpl
    subst hpl
    simp only[Ty.kw,Ty.kwN] at hn
    simp only[Ty.kw,Ty.kwT] at ht
    simp only[Ty.kw] at hb kk ⊢
    have hlen:=c.wr_len mv
    simp only[qV,List.length_append] at hb
    rw[hlen] at hb
    have hwd:c.width<4294967296:=by cases c<;>decide
    refine vS (m_load (K:=KW1 L n t) hp hoff hone (by rw[hst.below.cell (p:=⟨pb,po+off,none⟩) (qi hcell)];exact hcell) (by rintro (h | h)<;>omega) (fun d hd=>by rintro (h | h)<;>omega) zH zH ?_)
    intro a1 hf1' he1
    have hf1:Fr (KW L n t) a a1:=hf1'.mono (fun k hk=>hk.2)
    have hst1:WSt P E W0 G x ver fx a1 w xs:=hst.fr hs hf1 (hf1'.slot 1 (.inl zH))
    have hs':WSl x L (n+1) (t+4) fx:=hs.up zH zH zH
    refine vS (w_uv H (hu hfx) hk hs' (by rw[hf1.size];omega) hst1 zH ?_)
    intro a2 w2 hf2 hst2
    refine vS (w_uv H (hu hfx) hwd (hs'.up (Nat.le_refl _) zH zH) (by rw[hf2.size,hf1.size];omega) hst2 (by simp only[List.length_append];omega) ?_)
    intro a3 w3 hf3 hst3
    have hs3:WSl x L (n+1) (t+8) fx:=hs'.up (Nat.le_refl _) zH zH
    refine vS (w_app hs3 (v:=n) zH (by rw[hf3.size,hf2.size,hf1.size];omega) hst3 (by rw[hf3.slot n ⟨by omega,.inl zH⟩,hf2.slot n ⟨by omega,.inl zH⟩];exact he1) (H.scal c hw mv _ _ hmv) (by simp only[List.length_append];omega) ?_)
    intro a4 w4 hf4 hst4
    refine vN (kk a4 w4 (((hf1.trans (hf2.mono (KW.mono zH zH))).trans (hf3.mono (KW.mono zH zH))).trans (hf4.mono (KW.mono zH zH))) ?_)
    simp only[qV]
    rw[hlen]
    simpa [List.append_assoc] using hst4
   ·rw[if_neg hcnd] at hpl
    cases hpl
 | _=>exact absurd hr (by simp[Ty.Rep])
theorem wLoad_lab (TP TU T:TypeId) (x s f t l:Nat):findLabel (yV TP TU T x s f t) l=none:=rfl
theorem kx_list (H:EnvW P E sb.T) (HI:EnvI P E) {TP TU TS:TypeId} {idx lb pb po:Nat} {e:Ty} {d:D} (hty:(Ty.list TS none e).WOk P E W0 sb) (hok:(Ty.list TS none e).okW P E x=true) (hk:k<4294967296) (hrow:xo P E.tU32s E.tW 1=true) (hu:fx=true->E.wUvarint≠0) (hoff:qh P TU idx=some off) (hc:qb W0 pb (po+off) cs) (hr:(Ty.list TS none e).Rep W0 sb B cs d):
  KX.ok P E W0 x ver fx s pb po ⟨(Ty.list TS none e).kw E x TP TU s idx k lb (fun v n t b=>Ty.wc E x v n t b (.list TS none e)) (Ty.list TS none e).wn ((Ty.list TS none e).wt x) (Ty.list TS none e).wb,if fx && !(Ty.list TS none e).isD d then some ((Ty.list TS none e).wr fx ver d) else none⟩:=by
 have hok':=hok
 simp only[Ty.okW,Bool.and_eq_true] at hok'
 obtain ⟨⟨⟨⟨_,hone⟩,hsl⟩,_⟩,_⟩:=hok'
 obtain ⟨e1,hsl⟩:=sliceB_inv hsl
 obtain ⟨ad,len,cap,hcs,hlen,hisD⟩:∃ ad len cap,cs=[.slice ad len cap]/\len<=big/\(Ty.list TS none e).isD d=decide (len=0):=by
  cases d with
  | list o =>
   cases o with
   | none =>
    simp only[Ty.Rep] at hr
    rcases hr with hr | ⟨_,q,cap,hr,_⟩
    ·exact ⟨none,0,0,hr,Nat.zero_le _,rfl⟩
    ·exact ⟨_,0,cap,hr,Nat.zero_le _,rfl⟩
   | some l =>
    simp only[Ty.Rep] at hr
    obtain ⟨q,cap,rfl,_,_,hl,_⟩:=hr
    exact ⟨_,_,_,rfl,hl,by cases l<;>simp[Ty.isD]⟩
  | _=>exact absurd hr (by simp[Ty.Rep])
 have hcell:W0.cell? ⟨pb,po+off,none⟩=some (.slice ad len cap):=by have:=hc 0 _ (by rw[hcs];rfl);simpa using this
 refine ⟨?_,?_⟩
 ·intro hfx L n t U a w ns Q hL hn hs hsz hp hb hU hl hown kk
  subst hfx
  simp only[Ty.kw,Ty.kwA] at hsz
  simp only[Ty.kw,hisD,Bool.true_and] at kk ⊢
  have hcw:w.cell? ⟨pb,po+off,none⟩=some (.slice ad len cap):=by rw[hb.cell (p:=⟨pb,po+off,none⟩) (qi hcell)];exact hcell
  refine vX (rM ?_)
  refine xe (ad:=⟨pb,po,none⟩) zA ?_
  refine rF (b:=pb) (o:=po) zE hoff ?_
  refine rL (b:=pb) (o:=po+off) zE hone hcw ?_
  refine xh (ad:=ad) (n:=len) (c:=cap) hsl zE ?_
  refine jq (k:=.i64) (m:=(len:Int)) (n:=0) zE rfl ?_
  refine dn ?_
  generalize hA:Act.put _ (some (t+5)) _=A
  have hfA:Fr (KW1 L n t) a A:=by
   subst hA
   exact ((((((Fr.refl _ a).put _ (KW1.kt zH hL _ (Nat.le_refl _))).put _ (KW1.kt zH hL _ zH)).put _ (KW1.kt zH hL _ zH)).put _ (KW1.kt zH hL _ zH)).put _ (KW1.kt zH hL _ zH)).put _ (KW1.kt zH hL _ zH)
  have hAc:A.eval (.tmp (t+5))=.bool (decide ((len:Int)>0)):=by subst hA;exact zE
  have hAn:A.eval (.tmp n)=a.eval (.tmp n):=by subst hA;exact zE
  have hzA:=hfA.size
  clear hA
  refine vS (vC (t:=decide ((len:Int)>0)) hAc ?_ ?_)
  ·intro hgt
   have hne:decide (len=0)=false:=by
    have:(len:Int)>0:=by simpa using hgt
    simp only[decide_eq_false_iff_not]
    omega
   refine w_add (L:=L) hrow zH hn (by rw[hzA];omega) hU hl (by rw[hAn];exact hown) ?_
   intro a' w' hf' hown' hb'
   refine vN (kk a' w' (hfA.trans (hf'.mono (KW1.mono zH))) ?_ hb')
   simpa [hne] using hown'
  ·intro hgt
   have hne:decide (len=0)=true:=by
    have:¬ (len:Int)>0:=by simpa using hgt
    simp only[decide_eq_true_eq]
    omega
   refine vK (vN (kk A w hfA ?_ (Below.refl _ _)))
   simpa [hne,hAn] using hown
 ·intro pl hpl G L n t b a w xs Q hs hsn hs1 hn ht hst hp hb kk
  have h1:=hs.one;have h2:=hs.nL;have h3:=hs.Lt
  simp only at hpl
  by_cases hcnd:(fx && !(Ty.list TS none e).isD d)=true
  ·rw[if_pos hcnd] at hpl
   simp only[Bool.and_eq_true] at hcnd
   obtain ⟨hfx,_⟩:=hcnd
   simp only[Option.some.injEq] at hpl
   subst hpl
   simp only[Ty.kw,Ty.kwN] at hn
   simp only[Ty.kw,Ty.kwT] at ht
   simp only[Ty.kw] at hb kk ⊢
   refine w_sized H HI (k:=k) (m:=(Ty.list TS none e).wt x) (I:=fun u G'=>u=.slice ad len cap/\G'=G) (pl:=(Ty.list TS none e).wr fx ver d) (hu hfx) hk hs zH zH (wLoad_lab _ _ _ _ _ _ _ _) hst hb ?_ ?_ (fun _ _ _ _ _ ⟨_,h⟩ h2=>h ▸ h2) kk
   ·intro Q1 k1
    refine m_load (K:=KW1 L n t) hp hoff hone (by rw[hst.below.cell (p:=⟨pb,po+off,none⟩) (qi hcell)];exact hcell) (by rintro (h | h)<;>omega) (fun d hd=>by rintro (h | h)<;>omega) zH zH ?_
    intro a1 hf1 he1
    exact k1 a1 w _ G (hf1.mono (fun k hk=>hk.2)) rfl (hst.fr hs (hf1.mono (fun k hk=>hk.2)) (hf1.slot 1 (.inl zH))) ⟨he1,rfl⟩
   ·rintro u G' a1 w1 ys Q1 ⟨rfl,rfl⟩ hf1 he1 hst1 hb1 k1
    refine hty G' x ver fx L n (n+3) (t+8) b B a1 w1 ys cs d Q1 hok (hs.up zH zH zH) zH zH zH (by rw[hf1.size];omega) hst1 ?_ hr hb1 k1
    simp only[Ty.Holds,Ty.tp,Ty.arr,Bool.false_eq_true,if_false]
    rw[hcs,he1]
  ·rw[if_neg hcnd] at hpl
   cases hpl
theorem kx_two (H:EnvW P E sb.T) (HI:EnvI P E) {f:Nat} {TP TU TP' TU':TypeId} {FD:FuncId} {idx lb pb po wn wt wb:Nat} {body:Nat->Nat->Nat->Nat->List Code} {d:D} (hx:x.fl=some f) (hok:(Ty.struct TP' TU' FD fs2).okW P E x=true) (hnew:E.zNew≠0) (hsame:E.zSame≠0) (hagg:zd P TU'=some 3) (hza:yC P TU' 3=true) (hT8:TU'≠E.tU8) (hk:k<4294967296) (hrow:xo P E.tU32s E.tW 1=true) (hoff:qh P TU idx=some off) (hc:qb W0 pb (po+off) cs) (hr:(Ty.struct TP' TU' FD fs2).Rep W0 sb B cs d):
  KX.ok P E W0 x ver fx s pb po ⟨(Ty.struct TP' TU' FD fs2).kw E x TP TU s idx k lb body wn wt wb,if fx && !(Ty.struct TP' TU' FD fs2).isD d then some ((Ty.struct TP' TU' FD fs2).wr fx ver d) else none⟩:=by
 simp only[Ty.okW,Flds.okW,hx,Option.isNone_some,Bool.false_or,Bool.and_eq_true,bne_iff_ne,ne_eq,beq_iff_eq,Ty.size,Ver.okK,Ver.nxt,true_and] at hok
 obtain ⟨⟨ho0,hw32,h32⟩,⟨ho1,_⟩,⟨⟨ho2,htl⟩,hte⟩,hu⟩:=hok
 obtain ⟨m,n',tv,tags,rfl,rfl,hm,hn',htr⟩:=two_rep hr
 obtain ⟨q0,rfl,hq0⟩:=xx.isNil htr
 have htr0:=htr.mono (Nat.zero_le B)
 have hpb:pb<W0.heap.size:=qi (hc 0 _ rfl)
 have hisD:(Ty.struct TP' TU' FD fs2).isD (.obj [.int m,.int n'] tags)=(m==0&&(n'==0&&q0.isNone)):=by rw[hq0];simp only[Ty.isD,Bool.and_assoc]
 have hwr:(Ty.struct TP' TU' FD fs2).wr true ver (.obj [.int m,.int n'] tags)=be 4 m++(be 4 n'++xU tags):=rfl
 have hone:∀ v ∈ [Value.int .i32 m,.int .i32 n',.map q0],v.oneCell'=true:=by intro v hv;simp only[List.mem_cons,List.not_mem_nil,or_false] at hv;rcases hv with rfl | rfl | rfl<;>rfl
 refine ⟨?_,?_⟩
 ·intro hfx L n t U a w ns Q hL hn hs hsz hp hb hU hl hown kk
  subst hfx
  simp only[Ty.kw,Ty.kwA] at hsz
  simp only[Ty.kw,hisD,Bool.true_and] at kk ⊢
  have hcw:qb w pb (po+off) [.int .i32 m,.int .i32 n',.map q0]:=hc.below hb hpb
  have hbw:Below w.heap.size w { w with drawn:=w.drawn+1 }:=⟨rfl,rfl,rfl,Nat.le_refl _,fun _ _=>rfl⟩
  have hpw:pb<w.heap.size:=by have:=hb.size;omega
  refine vS (noPanic (vc_runD [(0,true),(1,true),(2,true),(3,true),(4,false),(5,false),(6,false)] (fun w'=>qb w' pb (po+off) [.int .i32 m,.int .i32 n',.map q0]) HI.mixed (by kernel_rfl) rfl (gH (ap:=[(0,2),(0,3),(0,4),(0,5),(0,6),(1,3),(1,4),(1,5),(1,6),(2,4),(2,5),(2,6),(3,4),(3,6)]) ?_ _ _ (by kernel_rfl)) (fun c _ _ _ h=>absurd rfl (h.1 c)) ?_))
  ·simp only[List.forall_mem_cons,List.mem_nil_iff,false_imp_iff,implies_true,and_true,List.getElem?_toArray,List.getElem?_cons_succ,List.getElem?_cons_zero,Option.some.injEq]
   repeat' apply And.intro
   all_goals (rintro x y rfl rfl;simp[Oper.apart,Oper.looksAt,Op.operands,Call.operands]<;>((repeat' apply And.intro)<;>exact tne zH))
  refine dP rfl rfl rfl (wN rfl) (by first | omega | (simp only[zP];omega)) hcw (fun w' _=>rM (dn ⟨rfl,rfl,rfl⟩)) ?_
  refine d_nilC (d:=t+1) (x:=.tmp t) (ad:=⟨pb,po,none⟩) rfl (wN rfl) ?_ hcw ?_
  ·exact zA
  refine dP rfl rfl rfl (wN rfl) (by first | omega | (simp only[zP];omega)) hcw (fun w' _=>rF (b:=pb) (o:=po) zE hoff (dn ⟨rfl,rfl,rfl⟩)) ?_
  refine dP rfl rfl rfl (wN rfl) (by first | omega | (simp only[zP];omega)) hcw (fun w' hS'=>qf (b:=pb) (o:=po+off) (cs:=[.int .i32 m,.int .i32 n',.map q0]) zE hagg hS' (dn ⟨rfl,rfl,rfl⟩)) ?_
  refine qw rfl (wN rfl) ?_
  refine q8 (args:=#[]) zS (HI.znew hnew _) ?_
  rintro v1 w1 ⟨rfl,hb1⟩
  have hc1:qb w1 pb (po+off) [.int .i32 m,.int .i32 n',.map q0]:=hcw.below (hbw.trans hb1) hpw
  refine dn (qv hc1 ?_)
  refine qw rfl (wN rfl) ?_
  refine q8 (args:=#[.agg #[.int .i32 m,.int .i32 n',.map q0],.agg #[.int .i32 0,.int .i32 0,.map none]]) ?_ (HI.zsame hsame m n' q0 w1) ?_
  ·simp only[lM]
   exact zE
  rintro v2 w2 ⟨rfl,hb2⟩
  have hz1:w.heap.size<=w1.heap.size:=hb1.size
  have hbw2:Below w.heap.size w w2:=(hbw.trans hb1).trans (hb2.mono hz1)
  refine dn (qv (hcw.below hbw2 hpw) ?_)
  refine qw rfl (wN rfl) ?_
  refine zG (b:=m==0&&(n'==0&&q0.isNone)) zE ?_
  refine dn (qv (hcw.below hbw2 hpw) (xI ?_))
  refine ⟨(fun _ h=>by cases h),?_⟩
  generalize hA:Act.put _ (some (t+6)) _=A
  have hfA:Fr (KW1 L n t) a A:=by
   subst hA
   exact (((((((Fr.refl _ a).put _ (KW1.kt zH hL _ (Nat.le_refl _))).put _ (KW1.kt zH hL _ zH)).put _ (KW1.kt zH hL _ zH)).put _ (KW1.kt zH hL _ zH)).put _ (KW1.kt zH hL _ zH)).put _ (KW1.kt zH hL _ zH)).put _ (KW1.kt zH hL _ zH)
  have hAc:A.eval (.tmp (t+6))=.bool (!(m==0&&(n'==0&&q0.isNone))):=by subst hA;exact zE
  have hAn:A.eval (.tmp n)=a.eval (.tmp n):=by subst hA;exact zE
  have hzA:=hfA.size
  clear hA
  have hown2:w2.ownsRow U E.tW 1 (A.eval (.tmp n)) ns.length (ns.map gm):=by rw[hAn];exact wy hown hbw2
  generalize hzz:(m==0&&(n'==0&&q0.isNone))=z at *
  show vc P (sq _) Q A w2
  refine vS (vC (t:=!z) hAc ?_ ?_)
  ·intro hne
   have hz:z=false:=by simpa using hne
   refine w_add (L:=L) hrow zH hn (by rw[hzA];omega) (by have:=hbw2.size;omega) hl hown2 ?_
   intro a' w' hf' hown' hb'
   refine vN (kk a' w' (hfA.trans (hf'.mono (KW1.mono zH))) ?_ ((hbw2.mono hU).trans hb'))
   simpa [hz] using hown'
  ·intro hne
   have hz:z=true:=by simpa using hne
   refine vK (vN (kk A w2 hfA ?_ (hbw2.mono hU)))
   simpa [hz] using hown2
 ·intro pl hpl G L n t b a w xs Q hs hsn hs1 hn ht hst hp hb kk
  have h1:=hs.one;have h2:=hs.nL;have h3:=hs.Lt
  simp only at hpl
  by_cases hcnd:(fx && !(Ty.struct TP' TU' FD fs2).isD (.obj [.int m,.int n'] tags))=true
  ·rw[if_pos hcnd] at hpl
   simp only[Bool.and_eq_true] at hcnd
   obtain ⟨hfx,_⟩:=hcnd
   subst hfx
   simp only[Option.some.injEq] at hpl
   subst hpl
   rw[hwr] at hb kk
   simp only[Ty.kw,Ty.kwN,Flds.bwN] at hn
   simp only[Ty.kw,Ty.kwT,Flds.bwT] at ht
   simp only[Ty.kw] at hb kk ⊢
   obtain ⟨z,hz,hzl⟩:=vf hza
   refine w_sized H HI (k:=k) (m:=20) (I:=fun u G'=>∃ (q:Nat) (c:Array Value),u=.pointer (some ⟨q,0,none⟩)/\G q=none/\(∀ (i:Nat) (v:Value),[Value.int .i32 m,.int .i32 n',.map q0][i]? = some v->c[i]? = some v)/\G'=fun b=>if b=q then some (.cells c TU') else G b) (pl:=be 4 m++(be 4 n'++xU tags)) hu hk hs zH zH rfl hst hb ?_ ?_ ?_ kk
   ·intro Q1 k1
    refine m_loadArr (K:=KW1 L n t) (z:=z) (cs:=[.int .i32 m,.int .i32 n',.map q0]) hp hoff hagg hz hzl hone (hc.below hst.below hpb) (by rintro (h | h)<;>omega) (fun d hd=>by rintro (h | h)<;>omega) zH zH ?_
    rintro a1 w1 q hf1 hq hqs hqc hg ⟨c,hh⟩
    have hf1':Fr (KW L n t) a a1:=hf1.mono (fun k hk=>hk.2)
    have hfr:=hst.fr hs hf1' (hf1.slot 1 (.inl zH))
    have hGq:G q=none:=by
     cases hGq:G q with
     | none=>rfl
     | some o =>
      have:=(Array.getElem?_eq_some_iff.1 (hst.own.kept q o hGq).1).1
      omega
    have hog:=kW hfr.own hg
    refine k1 a1 w1 _ (fun b=>if b=q then some (.cells c TU') else G b) hf1' rfl ⟨hst.below.trans (hg.below.mono hst.size),⟨hog.own,fun b o hb'=>?_⟩,hfr.ver,hfr.fl⟩ ⟨q,c,hq,hGq,?_,rfl⟩
    ·simp only at hb'
     split at hb'
     ·rename_i hbq
      subst hbq
      cases hb'
      exact ⟨hh,fun cur e=>hT8 (by cases e;rfl)⟩
     ·exact hog.kept b o hb'
    ·intro i v hv
     have:=hqc i v hv
     simpa [World.cell?,hh] using this
   ·rintro u G' a1 w1 ys Q1 ⟨q,c,rfl,hGq,hcc,rfl⟩ hf1 he1 hst1 hb1 k1
    simp only[List.length_append] at hb1
    have hcl:∀ (w:World) (i:Nat) (v:Value),w.heap[q]? = some (.cells c TU')->[Value.int .i32 m,.int .i32 n',.map q0][i]? = some v->w.cell? ⟨q,0+i,none⟩=some v:=by
     intro w i v hw hv
     have:=hcc i v hv
     simp[World.cell?,hw,this]
    have hk':∀ {a2:Act} {w2:World} {zs:List UInt8},WSt P E W0 (fun b=>if b=q then some (.cells c TU') else G b) x ver true a2 w2 zs->w2.heap[q]? = some (.cells c TU'):=fun h=>(h.own.kept q _ zS).1
    have hs3:WSl x L (n+3) (t+8) true:=hs.up zH zH zH
    have hz1:=hf1.size
    simp only[Flds.bwc,hx]
    refine vS (w_num H (q:=q) (off:=0) (m:=m) hs3 zH (by rw[hz1];omega) zH he1 ho0 hw32 h32 (hcl w1 0 _ (hk' hst1) rfl) hm hst1 zH ?_)
    intro a2 w2 hf2 hst2
    have hz2:=hf2.size
    have he2:a2.eval (.tmp n)=.pointer (some ⟨q,0,none⟩):=by rw[hf2.slot n ⟨by omega,.inl zH⟩];exact he1
    have hs4:WSl x L (n+3+1) (t+8+5) true:=hs3.up zH zH zH
    show vc P (sq _) Q1 a2 w2
    refine vS (w_num H (q:=q) (off:=1) (m:=n') hs4 zH (by rw[hz2,hz1];omega) zH he2 ho1 hw32 h32 (hcl w2 1 _ (hk' hst2) rfl) hn' hst2 (by simp only[List.length_append];omega) ?_)
    intro a3 w3 hf3 hst3
    have hz3:=hf3.size
    have he3:a3.eval (.tmp n)=.pointer (some ⟨q,0,none⟩):=by rw[hf3.slot n ⟨by omega,.inl zH⟩];exact he2
    have hs5:WSl x L (n+3+1+1) (t+8+5+5) true:=hs4.up zH zH zH
    show vc P (sq _) Q1 a3 w3
    refine vS (w_tagsV H HI (q:=q) (off:=2) (tv:=.map q0) (tags:=tags) (ob:=.cells c TU') hs5 hx (by rw[hz3,hz2,hz1];omega) zH zH he3 ho2 htl hte hu zS (fun w hw=>hcl w 2 _ hw rfl) htr0 hst3 (by simp only[List.length_append];omega) ?_)
    intro a4 w4 hf4 hst4
    refine vN (k1 a4 w4 ((hf2.trans (hf3.mono (KW.mono zH zH))).trans (hf4.mono (KW.mono zH zH))) ?_)
    simpa [List.append_assoc] using hst4
   ·rintro u G' a' w' ys ⟨q,c,rfl,hGq,_,rfl⟩ h
    refine ⟨h.below,⟨h.own.own,fun b o hb'=>h.own.kept b o ?_⟩,h.ver,h.fl⟩
    simp only
    rw[if_neg (fun e=>by subst e;cases hGq.symm.trans hb')]
    exact hb'
  ·rw[if_neg hcnd] at hpl
   cases hpl
theorem Flds.okW_uv {x:Cx}:∀ (fs:Flds) {TU:TypeId} {idx off m:Nat},fs.okW P E x TU idx off m=true->x.fl.isSome=true->E.wUvarint≠0
 | .nil tg,TU,idx,off,m,h,hf=>by
  obtain ⟨f,hf⟩:=Option.isSome_iff_exists.1 hf
  simp only[Flds.okW,hf,Option.isNone_some,Bool.false_or,Bool.and_eq_true,bne_iff_ne,ne_eq] at h
  exact h.2
 | .cons v t r,TU,idx,off,m,h,hf=>by
  simp only[Flds.okW,Bool.and_eq_true] at h
  exact Flds.okW_uv r h.2.2 hf
theorem wok_tag (H:EnvW P E sb.T) (HI:EnvI P E) (v:Ver) (ty:Ty) (r:Flds) (hvt:v.isTag=true) (hty:ty.WOk P E W0 sb) (hr':r.WOk P E W0 sb):(Flds.cons v ty r).WOk P E W0 sb:=by
 cases v with
 | tag kn lb =>
  intro G x ver fx L TP TU s idx off n t b B pb po m a w xs cs ds tags kt Q hok hs hsn hs1 hn ht hst hp hc hr hkx hb k
  simp only[Flds.okW,Ver.okK,Ver.nxt,Bool.and_eq_true,beq_iff_eq,decide_eq_true_eq,bne_iff_ne,ne_eq] at hok
  obtain ⟨⟨hoff,hokt⟩,⟨⟨⟨⟨⟨⟨hmk,hk32⟩,hfl⟩,hrow⟩,hone⟩,hneq⟩,htyp⟩,hokr⟩:=hok
  cases ds with
  | nil=>exact absurd hr (by simp[Flds.Rep])
  | cons d ds =>
  simp only[Flds.Rep,Ver.tagOk] at hr
  obtain ⟨hrt,hrr,htag⟩:=hr
  simp only[Flds.wn] at hn
  simp only[Flds.wt] at ht
  simp only[Flds.wr,Ver.has,Bool.false_eq_true,if_false,List.nil_append,Ver.addTag] at hb k
  simp only[Flds.wc]
  obtain ⟨hkk,hkA,hkN,hkT⟩:=kw_k E x TP TU s idx kn lb (fun v n t b=>Ty.wc E x v n t b ty) ty.wn (ty.wt x) ty.wb ty
  have he:KX.ok P E W0 x ver fx s pb po ⟨ty.kw E x TP TU s idx kn lb (fun v n t b=>Ty.wc E x v n t b ty) ty.wn (ty.wt x) ty.wb,if fx && !ty.isD d then some (ty.wr fx ver d) else none⟩:=by
   cases ty with
   | scal c df =>
    simp only[Ty.okW,Bool.and_eq_true,bne_iff_ne,ne_eq] at hokt
    exact kx_scal H (B:=B) htyp hk32 hrow (fun _=>Flds.okW_uv r hokr hfl) hokt.1 hokt.2 hoff (hc.take _) hrt
   | list TS null e =>
    cases null with
    | none=>exact kx_list H HI (B:=B) hty hokt hk32 hrow (fun _=>Flds.okW_uv r hokr hfl) hoff (hc.take _) hrt
    | some N=>cases htyp
   | struct TP' TU' FD fs =>
    simp only[Bool.and_eq_true,beq_iff_eq,bne_iff_ne,ne_eq] at htyp
    obtain ⟨⟨⟨⟨⟨⟨ht2,_⟩,g1⟩,g2⟩,g3⟩,g4⟩,g5⟩:=htyp
    obtain ⟨_,_,_,e⟩:=vU ht2
    cases e
    obtain ⟨f,hf⟩:=Option.isSome_iff_exists.1 hfl
    exact kx_two H HI (B:=B) hf hokt g1 g2 g3 g4 g5 hk32 hrow hoff (hc.take _) hrt
   | _=>cases htyp
  have hkx':KXs P E W0 x ver fx s pb po (kn+1) (kt++[⟨ty.kw E x TP TU s idx kn lb (fun v n t b=>Ty.wc E x v n t b ty) ty.wn (ty.wt x) ty.wb,if fx && !ty.isD d then some (ty.wr fx ver d) else none⟩]) tags:=by
   refine ⟨fun e h=>?_,fun e h=>?_,?_,fun e h=>?_,fun _=>⟨hfl,hrow,hone,hneq,fun e h=>?_⟩⟩
   ·rcases List.mem_append.1 h with h | h
    ·exact hkx.ok e h
    ·simp only[List.mem_singleton] at h;subst h;exact he
   ·rcases List.mem_append.1 h with h | h
    ·have:=hkx.lt e h;omega
    ·simp only[List.mem_singleton] at h;subst h;simp only;omega
   ·refine List.pairwise_append.2 ⟨hkx.asc,List.pairwise_singleton _ _,fun e h f hf=>?_⟩
    simp only[List.mem_singleton] at hf
    subst hf
    have:=hkx.lt e h
    simp only
    omega
   ·rcases List.mem_append.1 h with h | h
    ·exact hkx.beh e h
    ·simp only[List.mem_singleton] at h;subst h;simp only;rw[hkk];exact htag
   ·rcases List.mem_append.1 h with h | h
    ·exact (hkx.fl (List.ne_nil_of_mem h)).2.2.2.2 e h
    ·simp only[List.mem_singleton] at h;subst h;simp only;omega
  have hkn:qG (kt++[⟨ty.kw E x TP TU s idx kn lb (fun v n t b=>Ty.wc E x v n t b ty) ty.wn (ty.wt x) ty.wb,if fx && !ty.isD d then some (ty.wr fx ver d) else none⟩])++tags=if fx && !ty.isD d then qs kn (ty.wr fx ver d) (qG kt++tags) else qG kt++tags:=by
   rw[knTags_snoc]
   by_cases h:(fx && !ty.isD d)=true
   ·simp only[if_pos h,hkk]
    rw[yJ _ _ _ _ (fun y hy=>by obtain ⟨e,h1,h2,_⟩:=knTags_mem hy;have:=hkx.lt e h1;omega) htag]
    simp
   ·simp only[if_neg h,List.append_nil]
  have hgo:=hr' G x ver fx L TP TU s (idx+1) (off+ty.size) n t b B pb po (kn+1) a w xs (cs.drop ty.size) ds tags _ Q hokr hs hsn hs1 (by rw[List.map_append,List.map_cons,List.map_nil,hkN];exact hn) (by rw[List.map_append,List.map_cons,List.map_nil,hkA,hkT];exact ht) hst hp (by have:=hc.drop ty.size;rwa [Nat.add_assoc] at this) hrr hkx' (by rw[hkn];exact hb) (by rw[hkn];exact k)
  rw[List.map_append,List.map_cons,List.map_nil] at hgo
  exact hgo
 | _=>cases hvt
end
section
variable {W0 : World} {sb : Sb}
theorem wok_struct (TP TU:TypeId) (FD:FuncId) (fs:Flds) (h:fs.WOk P E W0 sb):(Ty.struct TP TU FD fs).WOk P E W0 sb:=by
 intro G x ver fx L v n t b B a w xs cs d Q hok hs hv hv1 hn ht hst hh hr hb k
 cases d with
 | obj ds tags =>
  simp only[Ty.Rep] at hr
  simp only[Ty.Holds,Ty.tp] at hh
  obtain ⟨pb,po,hp,hc⟩:=hh
  simp only[Ty.wr] at hb k
  simp only[Ty.wc]
  exact h G x ver fx L TP TU v 0 0 n t b B pb po 0 a w xs cs ds tags [] Q hok hs hv hv1 hn ht hst hp (by simpa using hc) hr KXs.nil hb k
 | _=>exact absurd hr (by simp[Ty.Rep])
theorem w_lit {xs:List UInt8} {z:UInt8} {c:Int} (hB:xo P E.tB E.tU8 1=true) (hc:Value.int .u8 c=bv z) (hs:WSl x L n t fx) (hsz:t+3<=a.tmps.size) (hst:WSt P E W0 G x ver fx a w xs) (hb:xs.length+1<=big) (k:∀ a' w',Fr (KW L n t) a a'->WSt P E W0 G x ver fx a' w' (xs++[z])->Q .normal a' w'):
  vc P (rg [qd t (.tmp 1) E.tB,zB (t+1) E.tB 1 #[(0,.const (.int .u8 c))],xR (t+2) .append #[.tmp t,.tmp (t+1)] #[E.tB,E.tB] E.tB,qc 1 (.tmp (t+2)) E.tB]) Q a w:=by
 have h1:=hs.one;have h2:=hs.nL;have h3:=hs.Lt
 have hsize:=hst.size
 refine vR zS ?_
 refine rM ?_
 refine xM (s:=1) (vs:=[bv z]) hB (by simp[xr,hc]) rfl (by intro v hv;simp only[List.mem_singleton] at hv;subst hv;rfl) zH zH ?_
 refine jT (sz:=1) (m:=1) (U:=⟨W0.heap.size,G⟩) (v:=a.eval (.tmp 1)) (n:=xs.length) (xs:=xs.map bv) (u:=.slice (some ⟨w.heap.size,0,none⟩) 1 1) (news:=[bv z]) hB zE zE (hst.own.alloc _) (by simp;omega) ?_ hb ?_
 ·refine zh (rB hB) ?_ rfl (xH [z])
  intro j u hu
  rw[Nat.zero_add]
  exact qm w _ E.tU8 (by simpa [bv,Value.cells] using hu)
 intro v' w' hown hbel
 refine rA (dn ?_)
 have hf:∀ v1 v2 v3 v4,Fr (KW L n t) a ((((a.put (some t) v1).put (some (t+1)) v2).put (some (t+2)) v3).put (some 1) v4):=fun v1 v2 v3 v4 =>
  ((((Fr.refl _ a).put _ (hs.kt t (Nat.le_refl _))).put _ (hs.kt _ zH)).put _ (hs.kt _ zH)).put _ hs.k1
 refine k _ w' (hf _ _ _ _) (hst.step hs (hf _ _ _ _) (v':=v') zE ⟨?_,?_⟩)
 ·rw[List.map_append,List.length_append]
  exact hown
 ·exact ((Below.refl W0.heap.size w).alloc hsize _).trans hbel
theorem r_eqNilPW {d T x ty p af g ad} (hT:P.underlying T=some (.pointer e)) (hx:a.eval x=.pointer ad) (h:rO_ P Q r (a.put (some d) (.bool ad.isNone)) w):
  rO_ P Q (⟨some d,.binOp .eql T x (.const (.pointer none)) T,ty,p,af,g⟩::r) a w:=by
 refine st ?_
 have hb:(binOp .eql T (.pointer ad) (.pointer none)).run P w=.ok (.bool ad.isNone) w:=by
  have h0:∀ k:Nat,(Op.equalIn (k+1) T (.pointer ad) (.pointer none)).run P w=.ok ad.isNone w:=fun k=>by
   cases ad<;>simp[Op.equalIn,run_underlying hT]
  simp only[binOp]
  simp[Op.equal,Op.maxDepth,h0 9999]
 have hg:(eqGuard .eql T x (.const (.pointer none)) (.pointer ad) (.pointer none))=pure ():=by cases ad<;>rfl
 simp only[Oper.wp,execOp,hx,xr,hg,hb,Sem.run_bind,Sem.run_pure,Result.andThen_ok,Oper.upon_value]
 exact h
theorem wok_nstruct (TP TU:TypeId) (FD:FuncId) (fs:Flds) (PP:TypeId) (h:fs.WOk P E W0 sb):(Ty.nstruct TP TU FD fs PP).WOk P E W0 sb:=by
 intro G x ver fx L v n t b B a w xs cs d Q hok hs hv hv1 hn ht hst hh hr hb k
 simp only[Ty.okW,Bool.and_eq_true] at hok
 obtain ⟨⟨⟨hB,hT⟩,_⟩,hF⟩:=hok
 obtain ⟨te,hT⟩:=gF hT
 have h1:=hs.one;have h2:=hs.nL;have h3:=hs.Lt
 simp only[Ty.wn] at hn
 simp only[Ty.wt] at ht
 have hh':cs=[a.eval (.tmp v)]:=by simpa [Ty.Holds,Ty.tp,Ty.arr] using hh
 subst hh'
 simp only[Ty.wc]
 have hf2:∀ u v2,Fr (KW L n t) a ((a.put (some t) u).put (some (t+1)) v2):=fun u v2=>((Fr.refl _ a).put _ (hs.kt t (Nat.le_refl _))).put _ (hs.kt _ zH)
 cases d with
 | list o =>
  rcases o with _ | l
  ·have hpv:a.eval (.tmp v)=.pointer none:=by simpa [Ty.Rep] using hr
   simp only[Ty.wr] at hb k
   refine vS (vX (rM ?_))
   refine r_eqNilPW (ad:=none) hT zA ?_
   refine dn ?_
   refine vS (vC (t:=true) zA (fun _=>?_) (fun h=>by cases h))
   refine w_lit (z:=255) (n:=n) (L:=L) (t:=t+2) hB rfl (hs.up (Nat.le_refl _) hs.nL zH) (by rw[(hf2 _ _).size];omega) (hst.fr hs (hf2 _ _) zE) (by simpa using hb) ?_
   exact fun a' w' hf hst'=>vN (vN (k a' w' ((hf2 _ _).trans (hf.mono (KW.mono (Nat.le_refl _) zH))) hst'))
  ·rcases l with _ | ⟨d0,_ | ⟨d1,r⟩⟩
   ·exact absurd hr (by simp[Ty.Rep])
   ·cases d0 with
    | obj ds tags =>
     simp only[Ty.Rep] at hr
     obtain ⟨q,c,hcv,hBq,hq,hcl,hcc,hrep⟩:=hr
     have hpv:a.eval (.tmp v)=.pointer (some ⟨q,0,none⟩):=by simpa using hcv
     simp only[Ty.wr,List.length_cons] at hb k
     refine vS (vX (rM ?_))
     refine r_eqNilPW (ad:=some ⟨q,0,none⟩) hT zA ?_
     refine dn ?_
     refine vS (vC (t:=false) zA (fun h=>by cases h) (fun _=>?_))
     refine vS (w_lit (z:=1) (n:=n) (L:=L) (t:=t+5) hB rfl (hs.up (Nat.le_refl _) hs.nL zH) (by rw[(hf2 _ _).size];omega) (hst.fr hs (hf2 _ _) zE) zH ?_)
     intro a' w' hf hst'
     have hf':Fr (KW L n t) a a':=(hf2 _ _).trans (hf.mono (KW.mono (Nat.le_refl _) zH))
     refine h G x ver fx L TP TU v 0 0 n (t+8) b (q+1) q 0 0 a' w' (xs++[1]) c ds tags [] _ hF (hs.up (Nat.le_refl _) hs.nL zH) hv hv1 hn (by rw[hf'.size];simp only[List.map_nil];omega) hst' (by rw[hf'.slot v ⟨hv1,.inl hv⟩];exact hpv) hcc hrep KXs.nil (by simp only[qG,List.filterMap_nil,List.nil_append,List.length_append,List.length_cons,List.length_nil];omega) ?_
     intro a2 w2 hf3 hst2
     refine vN (vN (k a2 w2 (hf'.trans (hf3.mono (KW.mono (Nat.le_refl _) zH))) ?_))
     simp only[qG,List.filterMap_nil,List.nil_append] at hst2
     rw[List.append_assoc] at hst2
     exact hst2
    | _=>exact absurd hr (by simp[Ty.Rep])
   ·exact absurd hr (by cases d0<;>simp[Ty.Rep])
 | _=>exact absurd hr (by simp[Ty.Rep])
def j0 (null:Bool) (fx:Bool) (o:Option (List D)):List UInt8:=if null&&o.isNone then jl fx else zu fx (o.getD []).length
theorem wr_list (fx:Bool) (ver:Nat) (TS:TypeId) (null:Option Nat) (e:Ty) (o:Option (List D)):
  (Ty.list TS null e).wr fx ver (.list o)=j0 null.isSome fx o++((o.getD []).map fun d=>e.wr fx ver d).flatten:=by
 cases o with
 | none=>cases null<;>simp[Ty.wr,j0]
 | some l=>simp[Ty.wr,j0]
theorem w_lens (H:EnvW P E sb.T) {TS:TypeId} {sz v len:Nat} {xs:List UInt8} {o:Option (List D)} {null:Bool} (hok:(if null then x.ok E.wCNLen E.wNLen else x.ok E.wCLen E.wLen)=true) (hT:xK P TS=some (e,sz)) (hs:WSl x L n t fx) (hv:v<n) (hv1:v≠1) (hsz:t+x.nt (if null then 6 else 4)<=a.tmps.size) (hst:WSt P E W0 G x ver fx a w xs) (ha:a.eval (.tmp v)=.slice ad len cap) (hlen:len=(o.getD []).length) (had:null=true->ad.isNone=o.isNone) (hbig:len<=big) (hb:xs.length+(j0 null fx o).length<=big) (k:∀ a' w',Fr (KW L n t) a a'->WSt P E W0 G x ver fx a' w' (xs++j0 null fx o)->Q .normal a' w'):
  vc P (if null=true then y6 E x t 6 (wNLens E E.wCNLen TS v) (wNLens E E.wNLen TS v) else y6 E x t 4 (wLens E E.wCLen TS v) (wLens E E.wLen TS v)) Q a w:=by
 have h1:=hs.one;have h2:=hs.nL;have h3:=hs.Lt
 cases null with
 | true =>
  simp only[if_true] at hok hsz ⊢
  obtain ⟨hG,hF⟩:=Cx.ok_inv hok
  have hd:∀ f,j0 true f o=if ad.isNone=true then jl f else zu f len:=by
   intro f
   rw[had rfl,hlen]
   cases o<;>simp[j0]
  rw[hd] at hb
  refine m_flex (K:=KW L n t) (fx:=fx) (fun f hf=>⟨hst.fl f hf,by have:=(hs.fl f hf).1;omega⟩) hs.no hs.kt zH hsz ?_ ?_
  ·intro hfx a' t' hf ht' hsz' he
   subst hfx
   have hs':=hs.up (Nat.le_refl n) hs.nL ht'
   have hst':=hst.fr hs hf (he 1 zH)
   refine m_nlens (K:=KW L n t') rfl (by rw[he v zH];exact ha) hT (H.cnlen (hF _ hs.no rfl) len ad.isNone _ _ hbig _ xs hst'.own hst'.size hb) hs'.kt hs'.k1 zH zH (by rw[hf.size];exact hsz') ?_
   intro a2 v2 w2 hf2 e2 hS
   rw[← hd] at hS
   exact k a2 w2 (hf.trans (hf2.mono (KW.mono (Nat.le_refl _) ht'))) (hst'.step hs' hf2 e2 hS)
  ·intro hfx a' t' hf ht' hsz' he
   subst hfx
   have hs':=hs.up (Nat.le_refl n) hs.nL ht'
   have hst':=hst.fr hs hf (he 1 zH)
   refine m_nlens (K:=KW L n t') rfl (by rw[he v zH];exact ha) hT (H.nlen hG len ad.isNone _ _ hbig _ xs hst'.own hst'.size hb) hs'.kt hs'.k1 zH zH (by rw[hf.size];exact hsz') ?_
   intro a2 v2 w2 hf2 e2 hS
   rw[← hd] at hS
   exact k a2 w2 (hf.trans (hf2.mono (KW.mono (Nat.le_refl _) ht'))) (hst'.step hs' hf2 e2 hS)
 | false =>
  simp only[Bool.false_eq_true,if_false] at hok hsz ⊢
  obtain ⟨hG,hF⟩:=Cx.ok_inv hok
  have hd:∀ f,j0 false f o=zu f len:=by
   intro f
   rw[hlen]
   simp[j0]
  rw[hd] at hb
  refine m_flex (K:=KW L n t) (fx:=fx) (fun f hf=>⟨hst.fl f hf,by have:=(hs.fl f hf).1;omega⟩) hs.no hs.kt zH hsz ?_ ?_
  ·intro hfx a' t' hf ht' hsz' he
   subst hfx
   have hs':=hs.up (Nat.le_refl n) hs.nL ht'
   have hst':=hst.fr hs hf (he 1 zH)
   refine m_lens (K:=KW L n t') rfl (by rw[he v zH];exact ha) hT (H.clen (hF _ hs.no rfl) len _ _ hbig _ xs hst'.own hst'.size hb) hs'.kt hs'.k1 zH zH (by rw[hf.size];exact hsz') ?_
   intro a2 v2 w2 hf2 e2 hS
   rw[← hd] at hS
   exact k a2 w2 (hf.trans (hf2.mono (KW.mono (Nat.le_refl _) ht'))) (hst'.step hs' hf2 e2 hS)
  ·intro hfx a' t' hf ht' hsz' he
   subst hfx
   have hs':=hs.up (Nat.le_refl n) hs.nL ht'
   have hst':=hst.fr hs hf (he 1 zH)
   refine m_lens (K:=KW L n t') rfl (by rw[he v zH];exact ha) hT (H.len hG len _ _ hbig _ xs hst'.own hst'.size hb) hs'.kt hs'.k1 zH zH (by rw[hf.size];exact hsz') ?_
   intro a2 v2 w2 hf2 e2 hS
   rw[← hd] at hS
   exact k a2 w2 (hf.trans (hf2.mono (KW.mono (Nat.le_refl _) ht'))) (hst'.step hs' hf2 e2 hS)
theorem kE {α:Type} (l:List D) (f:D->List α) (i:Nat) (h:i<l.length):((l.take (i+1)).map f).flatten=((l.take i).map f).flatten++f l[i]:=by
 rw[List.take_succ_eq_append_getElem h,List.map_append,List.flatten_append]
 simp
theorem yY {α:Type} (l:List D) (f:D->List α) (i:Nat):((l.take i).map f).flatten.length<=((l.map f).flatten).length:=by
 have:l=l.take i++l.drop i:=(List.take_append_drop i l).symm
 conv=>rhs;rw[this]
 rw[List.map_append,List.flatten_append,List.length_append]
 omega
theorem wok_list (H:EnvW P E sb.T) (TS:TypeId) (null:Option Nat) (e:Ty) (he:e.WOk P E W0 sb) (hrep:∀ cs B d,e.Rep W0 sb B cs d->e.tp=none->e.arr=false->∃ u,cs=[u]):(Ty.list TS null e).WOk P E W0 sb:=by
 intro G x ver fx L v n t b B a w xs cs d Q hok hs hv hv1 hn ht hst hh hr hb k
 have h1:=hs.one;have h2:=hs.nL;have h3:=hs.Lt
 simp only[Ty.okW,Bool.and_eq_true,Bool.not_eq_true'] at hok
 obtain ⟨⟨⟨⟨hfn,hTS⟩,hslice⟩,hearr⟩,hoke⟩:=hok
 obtain ⟨te,hT⟩:=sliceB_inv hslice
 have hh':cs=[a.eval (.tmp v)]:=by simpa [Ty.Holds,Ty.tp,Ty.arr] using hh
 subst hh'
 simp only[Ty.wn] at hn
 simp only[Ty.wt] at ht
 cases d with
 | list o =>
  rw[wr_list] at hb k
  -- what the slot holds
  obtain ⟨ad,cap,ha,had,hbig,hel⟩:∃ ad cap,a.eval (.tmp v)=.slice ad (o.getD []).length cap/\(null.isSome=true->ad.isNone=o.isNone)/\(o.getD []).length<=big ∧
    ∀ (i:Nat) (h:i<(o.getD []).length),∃ q,ad=some ⟨q,0,none⟩/\q<W0.heap.size/\∃ c:List Value,c.length=e.size/\qb W0 q (i*e.size) c/\e.Rep W0 sb (q+1) c (o.getD [])[i]:=by
   cases o with
   | none =>
    simp only[Ty.Rep,List.cons.injEq,and_true] at hr
    rcases hr with hr | ⟨rfl,q,cap,hr,_⟩
    ·exact ⟨none,0,hr,fun _=>rfl,Nat.zero_le _,fun i h=>by simp at h⟩
    ·refine ⟨some ⟨q,0,none⟩,cap,hr,?_,Nat.zero_le _,fun i h=>by simp at h⟩
     intro h
     cases h
   | some l =>
    simp only[Ty.Rep] at hr
    obtain ⟨q,cap,hv',hB,hq,hbg,hall⟩:=hr
    simp only[List.cons.injEq,and_true] at hv'
    refine ⟨some ⟨q,0,none⟩,cap,hv',fun _=>rfl,hbg,fun i h=>⟨q,rfl,hq,?_⟩⟩
    exact hall i _ (List.getElem?_eq_getElem h)
  generalize hl:o.getD []=l at *
  have hh0:(j0 null.isSome fx o).length<=(j0 null.isSome fx o++(l.map fun d=>e.wr fx ver d).flatten).length:=by simp
  simp only[Ty.wc]
  generalize ht1:t+x.nt (if null.isSome=true then 6 else 4)=t1 at *
  have htt1:t<=t1:=by omega
  refine vS (w_lens H hfn hT hs hv hv1 (by rw[ht1];omega) hst ha (by rw[hl]) had hbig zH ?_)
  intro a1 w1 hf1 hst1
  have hav1:a1.eval (.tmp v)=.slice ad l.length cap:=by rw[hf1.slot v ⟨hv1,.inl hv⟩];exact ha
  have hs1:WSl x L n t1 fx:=hs.up (Nat.le_refl _) hs.nL htt1
  -- the state at the head of round i
  let I:Nat->Act->World->Prop:=fun i a' w'=>Fr (KW L n t) a a'/\WSt P E W0 G x ver fx a' w' (xs++j0 null.isSome fx o++((l.take i).map fun d=>e.wr fx ver d).flatten)
  have stab:∀ i a' a2 w',I i a' w'->a2.tmps.size=a'.tmps.size->a2.defers=a'.defers->(∀ k,k<t1->a2.eval (.tmp k)=a'.eval (.tmp k))->I i a2 w':=by
   rintro i a' a2 w' ⟨hfr,hw⟩ hsz hdf hsl
   refine ⟨⟨hsz.trans hfr.size,hdf.trans hfr.defers,fun k hk=>?_⟩,⟨hw.below,by rw[hsl 1 zH];exact hw.own,by rw[hsl x.vs (by have:=hs.vs.1;omega)];exact hw.ver,fun f hf=>by rw[hsl f (by have:=(hs.fl f hf).1;omega)];exact hw.fl f hf⟩⟩
   rw[hsl k (by have:=hk.2;omega)]
   exact hfr.slot k hk
  have hI0:I 0 a1 w1:=⟨hf1,by simpa using hst1⟩
  have hdone:∀ a' w',I l.length a' w'->vc P (sq []) Q a' w':=by
   rintro a' w' ⟨hfr,hw⟩
   refine vN (k a' w' hfr ?_)
   rw[List.take_length] at hw
   simpa [List.append_assoc] using hw
  have hsize1:a1.tmps.size=a.tmps.size:=hf1.size
  refine vS ?_
  cases htp:e.tp with
  | some TP' =>
   have hh:e.h=3:=by simp[Ty.h,htp]
   rw[hh] at ht
   refine m_wloop hav1 hT (by unfold big at hbig;omega) zH zH zH I stab hI0 ?_ hdone
   intro i a2 w2 hi ⟨hfr2,hw2⟩ hcnt hsz2 ht02
   obtain ⟨q,rfl,hq,c,hcl,hcc,hrc⟩:=hel i hi
   have hav2:a2.eval (.tmp v)=.slice (some ⟨q,0,none⟩) l.length cap:=by rw[hfr2.slot v ⟨hv1,.inl hv⟩];exact ha
   refine vX (rM (rA (dn (vX (rM (rM ?_))))))
   refine qH (j:=i) (k:=.i64) (b:=q) (o:=0) (len:=l.length) (cap:=cap) hT zA zA hi ?_
   refine rA (dn ?_)
   generalize hA:((((((a2.put (some (t1+4)) (a2.eval (.tmp (t1+2)))).put (some n) ((a2.put (some (t1+4)) (a2.eval (.tmp (t1+2)))).eval (.tmp (t1+4))))).put (some (t1+5)) _).put (some (t1+6)) _).put (some (t1+7)) (.pointer (some ⟨q,0+i*e.size,none⟩)))=A
   have hA7:A.eval (.tmp (t1+7))=.pointer (some ⟨q,0+i*e.size,none⟩):=by rw[← hA];exact zE
   have hAk:∀ k,k≠n->k<t1+4->A.eval (.tmp k)=a2.eval (.tmp k):=by intro k hk hkt;rw[← hA];exact zE
   have hAs:A.tmps.size=a2.tmps.size:=by rw[← hA];simp only[zP]
   have hAd:A.defers=a2.defers:=by rw[← hA];simp only[dF]
   have hB1:∀ k,k≠n->k≠n+1->k<t1+4->(A.put (some (n+1)) (A.eval (.tmp (t1+7)))).eval (.tmp k)=a2.eval (.tmp k):=by
    intro k h h' h''
    rw[qj _ _ _ _ zH]
    exact hAk k h h''
   have hBf:Fr (KW L n t) a2 (A.put (some (n+1)) (A.eval (.tmp (t1+7)))):=⟨by rw[zP,hAs],by rw[dF,hAd],fun k hk=>hB1 k (by have:=hk.2;omega) (by have:=hk.2;omega) (by have:=hk.2;omega)⟩
   have hstB:=hw2.fr hs hBf (hB1 1 zH zH zH)
   refine he G x ver fx L (n+1) (n+2) (t1+8) (b+2) (q+1) _ w2 _ c l[i] _ hoke (hs.up zH zH zH) zH zH zH (by rw[hBf.size];omega) hstB ?_ hrc ?_ ?_
   ·simp only[Ty.Holds,htp]
    refine ⟨q,0+i*e.size,?_,by rw[Nat.zero_add];exact hcc⟩
    rw[qE _ _ _ (by rw[hAs];omega),hA7]
   ·have:=yY l (fun d=>e.wr fx ver d) (i+1)
    rw[kE _ _ _ hi] at this
    simp only[List.length_append] at this hb ⊢
    omega
   ·intro a3 w3 hf3 hst3
    refine ⟨⟨(hfr2.trans hBf).trans (hf3.mono (KW.mono zH zH)),?_⟩,?_,?_,?_,?_⟩
    ·rw[kE _ _ _ hi]
     simpa [List.append_assoc] using hst3
    ·rw[hf3.slot (t1+2) ⟨by omega,.inr ⟨by omega,by omega⟩⟩];exact hB1 _ zH zH zH
    ·rw[hf3.slot (t1+1) ⟨by omega,.inr ⟨by omega,by omega⟩⟩];exact hB1 _ zH zH zH
    ·rw[hf3.size,hBf.size]
    ·rw[hf3.slot t1 ⟨by omega,.inr ⟨by omega,by omega⟩⟩];exact hB1 _ zH zH zH
  | none =>
   have hh:e.h=4:=by simp[Ty.h,htp]
   rw[hh] at ht
   obtain ⟨hone,hsz1⟩:=okW_one hoke htp hearr
   refine m_wloop hav1 hT (by unfold big at hbig;omega) zH zH zH I stab hI0 ?_ hdone
   intro i a2 w2 hi ⟨hfr2,hw2⟩ hcnt hsz2 ht02
   obtain ⟨q,rfl,hq,c,hcl,hcc,hrc⟩:=hel i hi
   have hav2:a2.eval (.tmp v)=.slice (some ⟨q,0,none⟩) l.length cap:=by rw[hfr2.slot v ⟨hv1,.inl hv⟩];exact ha
   obtain ⟨u,rfl⟩:=hrep _ _ _ hrc htp hearr
   have hcu:w2.cell? ⟨q,0+i*e.size,none⟩=some u:=by
    have:=hcc 0 u rfl
    rw[Nat.add_zero] at this
    rw[Nat.zero_add,hw2.below.cell (p:=⟨q,i*e.size,none⟩) hq]
    exact this
   refine vX (rM (rA (dn (vX (rM (rM ?_))))))
   refine qH (j:=i) (k:=.i64) (b:=q) (o:=0) (len:=l.length) (cap:=cap) hT zA zA hi ?_
   refine rL (b:=q) (o:=0+i*e.size) zE hone hcu ?_
   refine rA (dn ?_)
   generalize hA:(((((((a2.put (some (t1+4)) (a2.eval (.tmp (t1+2)))).put (some n) ((a2.put (some (t1+4)) (a2.eval (.tmp (t1+2)))).eval (.tmp (t1+4))))).put (some (t1+5)) _).put (some (t1+6)) _).put (some (t1+7)) (.pointer (some ⟨q,0+i*e.size,none⟩))).put (some (t1+8)) u)=A
   have hA7:A.eval (.tmp (t1+8))=u:=by rw[← hA];exact zE
   have hAk:∀ k,k≠n->k<t1+4->A.eval (.tmp k)=a2.eval (.tmp k):=by intro k hk hkt;rw[← hA];exact zE
   have hAs:A.tmps.size=a2.tmps.size:=by rw[← hA];simp only[zP]
   have hAd:A.defers=a2.defers:=by rw[← hA];simp only[dF]
   have hB1:∀ k,k≠n->k≠n+1->k<t1+4->(A.put (some (n+1)) (A.eval (.tmp (t1+8)))).eval (.tmp k)=a2.eval (.tmp k):=by
    intro k h h' h''
    rw[qj _ _ _ _ zH]
    exact hAk k h h''
   have hBf:Fr (KW L n t) a2 (A.put (some (n+1)) (A.eval (.tmp (t1+8)))):=⟨by rw[zP,hAs],by rw[dF,hAd],fun k hk=>hB1 k (by have:=hk.2;omega) (by have:=hk.2;omega) (by have:=hk.2;omega)⟩
   have hstB:=hw2.fr hs hBf (hB1 1 zH zH zH)
   refine he G x ver fx L (n+1) (n+2) (t1+9) (b+2) (q+1) _ w2 _ [u] l[i] _ hoke (hs.up zH zH zH) zH zH zH (by rw[hBf.size];omega) hstB ?_ hrc ?_ ?_
   ·simp only[Ty.Holds,htp,hearr,Bool.false_eq_true,if_false]
    rw[qE _ _ _ (by rw[hAs];omega),hA7]
   ·have:=yY l (fun d=>e.wr fx ver d) (i+1)
    rw[kE _ _ _ hi] at this
    simp only[List.length_append] at this hb ⊢
    omega
   ·intro a3 w3 hf3 hst3
    refine ⟨⟨(hfr2.trans hBf).trans (hf3.mono (KW.mono zH zH)),?_⟩,?_,?_,?_,?_⟩
    ·rw[kE _ _ _ hi]
     simpa [List.append_assoc] using hst3
    ·rw[hf3.slot (t1+2) ⟨by omega,.inr ⟨by omega,by omega⟩⟩];exact hB1 _ zH zH zH
    ·rw[hf3.slot (t1+1) ⟨by omega,.inr ⟨by omega,by omega⟩⟩];exact hB1 _ zH zH zH
    ·rw[hf3.size,hBf.size]
    ·rw[hf3.slot t1 ⟨by omega,.inr ⟨by omega,by omega⟩⟩];exact hB1 _ zH zH zH
 | _=>exact absurd hr (by simp[Ty.Rep])
end
theorem rep_one {sb:Sb} (ty:Ty):∀ cs B d,ty.Rep w sb B cs d->ty.tp=none->ty.arr=false->∃ u,cs=[u]:=by
 intro cs B d h ht ha
 cases ty<;>first | (cases d<;>simp_all [Ty.Rep,Ty.tp,Ty.arr];done) | skip
 all_goals
  cases d with
  | bytes o=>cases o<;>simp only[Ty.Rep,Ty.tp,Ty.arr,reduceCtorEq] at h ht ha<;>first | exact ⟨_,h⟩ | exact ⟨_,h.1⟩ | (obtain ⟨_,h,_⟩:=h;exact ⟨_,h⟩) | (obtain ⟨_,_,h,_⟩:=h;exact ⟨_,h⟩) | (obtain ⟨_,_,_,h,_⟩:=h;exact ⟨_,h⟩)
  | list o =>
   rcases o with _ | ⟨_ | ⟨d0,_ | ⟨d1,r⟩⟩⟩<;>(try cases d0)<;>simp only[Ty.Rep,Ty.tp,Ty.arr,reduceCtorEq] at h ht ha<;>first | exact ⟨_,h⟩ | (rcases h with h | ⟨_,_,_,h,_⟩<;>exact ⟨_,h⟩) | (obtain ⟨_,_,h,_⟩:=h;exact ⟨_,h⟩) | (obtain ⟨_,h,_⟩:=h;exact ⟨_,h⟩)
  | int m=>simp[Ty.Rep,Ty.tp,Ty.arr] at h ht ha
  | obj l t=>simp[Ty.Rep,Ty.tp,Ty.arr] at h ht ha
section
variable {W0 : World} {sb : Sb}
mutual
theorem wok_ty (H:EnvW P E sb.T) (HI:EnvI P E):∀ (ty:Ty),ty.WOk P E W0 sb
 | .scal s df=>wok_scal H s df
 | .named s T df=>wok_named H s T df
 | .uuid=>wok_uuid H
 | .text=>wok_text H
 | .ntext=>wok_ntext H
 | .ntextFrom N=>wok_ntextFrom H N
 | .bytes=>wok_bytes H
 | .nbytes=>wok_nbytes H
 | .list TS null e=>wok_list H TS null e (wok_ty H HI e) (rep_one e)
 | .struct TP TU FD fs=>wok_struct TP TU FD fs (vg H HI fs)
 | .nstruct TP TU FD fs PP=>wok_nstruct TP TU FD fs PP (vg H HI fs)
theorem vg (H:EnvW P E sb.T) (HI:EnvI P E):∀ (fs:Flds),fs.WOk P E W0 sb
 | .nil tg=>wok_nil H HI tg
 | .cons v ty r=>by
  have h1:=wok_ty H HI ty
  have h2:=vg H HI r
  cases hv:v.isTag with
  | false=>exact wok_cons v ty r hv h1 h2 (rep_one ty)
  | true=>exact wok_tag H HI v ty r hv h1 h2
end
def Msg.wtop (m:Msg):Nat:=m.wlocals+(match m.flex with | none=>5 | some _=>8)+m.wfs.wt m.wx+1
def Msg.isFlex (m:Msg) (ver:Nat):Bool:=match m.flex with | none=>false | some f=>decide (f<=ver)
def Msg.okW (P:Program) (E:Env) (m:Msg):Bool :=
 qW P E.tI16&&qh P m.TU 0==some 0&&m.wfs.okW P E m.wx m.TU m.wi m.wi
theorem rO (h:a.eval (.tmp t)=v):(results { (default:Func) with results:=#[.tmp t] } a.tmps).run P w=.ok v w:=by
 subst h
 simp[results,Act.eval]
theorem qa.enter {f:FuncId} {np nt:Nat} {res:Array ResultVar} {c:Code} (ht:Text P f np nt res c) {args:Array Value} (hn:args.size<=nt) (h:∀ a,a.tmps.size=nt->a.defers=[]->(∀ i v,args[i]? = some v->a.eval (.tmp i)=v)->vc P c (Out P res S) a w):qa P f args w S:=by
 refine qa.of_vc ht (h _ (by simp;omega) rfl ?_)
 intro i v hv
 have hi:i<args.size:=by
  rcases Nat.lt_or_ge i args.size with h | h
  ·exact h
  ·simp[Array.getElem?_eq_none h] at hv
 simp[Act.eval,Array.getElem?_append_left hi,hv]
theorem appendTo (H:EnvW P E sb.T) (HI:EnvI P E) {m:Msg} {f:FuncId} {np ntmps:Nat} (ht:Text P f np ntmps #[.tmp 4] (m.wcode E)) (hn:m.wtop<=ntmps) (hok:m.okW P E=true) {pb po:Nat} {ds:List D} (hver:W0.cell? ⟨pb,po,none⟩=some (.int .i16 (ver:Int))) (hc:qb W0 pb (po+m.wi) cs) (hr:m.wfs.Rep W0 sb B cs ds tags) (hb:(m.wfs.wr (m.isFlex ver) ver ds tags).length<=big):
  qa P f #[.pointer (some ⟨pb,po,none⟩),.slice none 0 0] W0 fun v w=>w.ownsRow W0.heap.size E.tU8 1 v (m.wfs.wr (m.isFlex ver) ver ds tags).length ((m.wfs.wr (m.isFlex ver) ver ds tags).map bv)/\Below W0.heap.size W0 w:=by
 simp only[Msg.okW,Bool.and_eq_true,beq_iff_eq] at hok
 obtain ⟨⟨ho16,hof⟩,hokf⟩:=hok
 have hlw:6<=m.wlocals:=by unfold Msg.wlocals;cases m.flex<;>simp<;>omega
 have hnt:m.wlocals+6<=ntmps:=by unfold Msg.wtop at hn;cases hfl:m.flex<;>rw[hfl] at hn<;>simp only at hn<;>omega
 refine qa.enter ht (by simp;omega) ?_
 intro a0 hs0 hd0 hargs
 have e0:a0.eval (.tmp 0)=.pointer (some ⟨pb,po,none⟩):=hargs 0 _ rfl
 have e1:a0.eval (.tmp 1)=.slice none 0 0:=hargs 1 _ rfl
 unfold Msg.wcode
 have htop:m.wlocals+(match m.flex with | none=>5 | some _=>8)+m.wfs.wt m.wx+1<=ntmps:=hn
 have hloc:m.wlocals=(match m.flex with | none=>6 | some _=>7)+m.wfs.wn:=rfl
 generalize hL:m.wlocals=L at *
 simp only[List.cons_append,List.nil_append,List.append_assoc]
 refine vX (rA (dn (vS ?_)))
 refine m_load (K:=fun k=>k<L/\k≠5) (b:=pb) (o:=po) (off:=0) (val:=.int .i16 (ver:Int)) zA hof ho16 hver zS (fun d hd=>by omega) zH (by simp only[zP];omega) ?_
 intro a1 hf1 he5
 have hs1:a1.tmps.size=ntmps:=by rw[hf1.size,zP,hs0]
 have hd1:a1.defers=[]:=by rw[hf1.defers,dF,hd0]
 have e10:a1.eval (.tmp 0)=.pointer (some ⟨pb,po,none⟩):=by rw[hf1.slot 0 zH,qj _ _ _ _ zH,e0]
 have e11:a1.eval (.tmp 1)=.slice none 0 0:=by rw[hf1.slot 1 zH,qj _ _ _ _ zH,e1]
 refine vX (rM (dn ?_))
 have hown:W0.ownsG ⟨W0.heap.size,Gd.none⟩ E.tU8 1 (.slice none 0 0) 0 []:=(World.ownsRow_nil _ _ _ _).toG
 have hbel:Below W0.heap.size W0 W0:=Grow.below (Eff.refl _ _)
 have hend:∀ (t1:Nat) (a2:Act) (w2:World),L<=t1->t1<ntmps->a2.tmps.size=ntmps->a2.defers=[]->WSt P E W0 Gd.none m.wx ver (m.isFlex ver) a2 w2 ([]++m.wfs.wr (m.isFlex ver) ver ds tags) →
   vc P (sq [rg [qd t1 (.tmp 1) E.tB,qc 4 (.tmp t1) E.tB],.ret]) (Out P #[.tmp 4] fun v w=>w.ownsRow W0.heap.size E.tU8 1 v (m.wfs.wr (m.isFlex ver) ver ds tags).length ((m.wfs.wr (m.isFlex ver) ver ds tags).map bv)/\Below W0.heap.size W0 w) a2 w2:=by
  intro t1 a2 w2 hLt htn hs2 hd2 hst
  refine vX (rM (rA (dn (vS (vT ?_)))))
  refine ⟨by simp only[dF];exact hd2,a2.eval (.tmp 1),rO zE,?_,hst.below⟩
  simpa using hst.own.own
 cases hfl:m.flex with
 | none =>
  simp only[hfl] at htop hloc ⊢
  have hfx:m.isFlex ver=false:=by simp[Msg.isFlex,hfl]
  have hx:m.wx=⟨5,none,7⟩:=by simp[Msg.wx,hfl]
  refine zw ?_
  generalize hA:a1.put (some (L+4)) (a1.eval (.tmp 5))=A
  have hAe:∀ k,k<L->A.eval (.tmp k)=a1.eval (.tmp k):=fun k hk=>by rw[← hA,qj _ _ _ _ zH]
  have hAs:A.tmps.size=ntmps:=by rw[← hA,zP,hs1]
  have hAd:A.defers=a1.defers:=by rw[← hA,dF]
  refine vg (W0:=W0) (sb:=sb) H HI m.wfs Gd.none m.wx ver (m.isFlex ver) L m.TP m.TU 0 m.wi m.wi 6 (L+5) 0 B pb po 0 A W0 [] cs ds tags [] _ hokf ⟨by omega,by rw[hx];exact ⟨by decide,by decide⟩,by rw[hx];simp,fun _=>hfx,by omega,by omega⟩ zH zH (by simp only[List.map_nil];omega) (by simp only[List.map_nil];omega) ?_ (by rw[hAe 0 zH,e10]) hc hr KXs.nil (by simpa [qG] using hb) ?_
  ·exact ⟨hbel,by rw[hAe 1 zH,e11];exact hown,by rw[hx];exact (hAe 5 zH).trans he5,by rw[hx];simp⟩
  ·intro a2 w2 hf2 hst
   exact hend _ a2 w2 zH zH (by rw[hf2.size,hAs]) (by rw[hf2.defers,hAd,hd1]) hst
 | some f =>
  simp only[hfl] at htop hloc ⊢
  have hfx:m.isFlex ver=decide ((ver:Int) ≥ (f:Int)):=by simp[Msg.isFlex,hfl]
  have hx:m.wx=⟨5,some 6,7⟩:=by simp[Msg.wx,hfl]
  simp only[List.cons_append,List.nil_append,List.append_assoc]
  refine vX (rM ?_)
  refine yw (k:=.i16) (m:=(ver:Int)) (n:=(f:Int)) zA rfl ?_
  refine rA (dn ?_)
  generalize hB:(((a1.put (some (L+4)) (a1.eval (.tmp 5))).put (some (L+5)) _).put (some (L+6)) (Value.bool (decide ((ver:Int) ≥ (f:Int))))).put (some 6) _=Bf
  have hBe:∀ k,k<L->k≠6->Bf.eval (.tmp k)=a1.eval (.tmp k):=fun k hk hk'=>by rw[← hB];exact zE
  have hB6:Bf.eval (.tmp 6)=.bool (m.isFlex ver):=by rw[← hB,hfx];exact zE
  have hBs:Bf.tmps.size=ntmps:=by rw[← hB];simp only[zP];exact hs1
  have hBd:Bf.defers=a1.defers:=by rw[← hB];simp only[dF]
  clear hB
  refine vX (rM (dn ?_))
  refine zw ?_
  generalize hA:Bf.put (some (L+7)) (Bf.eval (.tmp 6))=A
  have hAe:∀ k,k<L->A.eval (.tmp k)=Bf.eval (.tmp k):=fun k hk=>by rw[← hA,qj _ _ _ _ zH]
  have hAs:A.tmps.size=ntmps:=by rw[← hA,zP,hBs]
  have hAd:A.defers=a1.defers:=by rw[← hA,dF,hBd]
  refine vg (W0:=W0) (sb:=sb) H HI m.wfs Gd.none m.wx ver (m.isFlex ver) L m.TP m.TU 0 m.wi m.wi 7 (L+8) 0 B pb po 0 A W0 [] cs ds tags [] _ hokf ⟨by omega,by rw[hx];exact ⟨by decide,by decide⟩,by rw[hx];simp,by rw[hx];simp,by omega,by omega⟩ zH zH (by simp only[List.map_nil];omega) (by simp only[List.map_nil];omega) ?_ (by rw[hAe 0 zH,hBe 0 zH zH,e10]) hc hr KXs.nil (by simpa [qG] using hb) ?_
  ·exact ⟨hbel,by rw[hAe 1 zH,hBe 1 zH zH,e11];exact hown,by rw[hx];exact (hAe 5 zH).trans ((hBe 5 zH zH).trans he5),by rw[hx];intro f' hf';simp only[Option.some.injEq] at hf';subst hf';exact (hAe 6 zH).trans hB6⟩
  ·intro a2 w2 hf2 hst
   exact hend _ a2 w2 zH zH (by rw[hf2.size,hAs]) (by rw[hf2.defers,hAd,hd1]) hst
end
attribute [local irreducible] qP qJ
def o8 (z:Int):UInt8:=UInt8.ofNat z.toNat
theorem bv_o8 {z:Int} (h0:0<=z) (h1:z<256):bv (o8 z)=.int .u8 z:=by
 unfold bv o8
 have:z.toNat<256:=by omega
 rw[UInt8.toNat_ofNat']
 congr 1
 omega
theorem map_o8 {zs:List Int} (h:∀ z ∈ zs,0<=z/\z<256):(zs.map o8).map bv=zs.map fun z=>.int .u8 z:=by
 rw[List.map_map]
 apply List.map_congr_left
 intro z hz
 exact bv_o8 (h z hz).1 (h z hz).2
theorem yj (n:Int):IntKind.u8.wrap n=n % 256:=IntKind.wrap_u8' n
theorem zj (n:Int):0<=IntKind.u8.wrap n/\IntKind.u8.wrap n<256:=by rw[yj];omega
theorem flat_u8:∀ zs:List Int,((zs.map fun z=>Value.int .u8 z).flatMap fun v=>v.cells.toList)=zs.map fun z=>Value.int .u8 z
 | []=>rfl
 | z::r=>by simp only[List.map_cons,List.flatMap_cons,flat_u8 r];rfl
theorem kV {d d2:Nat} {t n ps ty p af g ty2 p2 af2 g2 e v} {U:Gd} {xs:List UInt8} {zs:List Int} (hB:xo P t e 1=true) (hp:(ps.map fun (x:Nat × Operand)=>(x.1,a.eval x.2)).toList=((zs.map fun z=>Value.int .u8 z).zipIdx 0).map fun x=>(x.2,x.1)) (h8:∀ z ∈ zs,0<=z/\z<256) (hn:zs.length=n) (hlim:n<=1000) (hn0:0<n) (hs:a.eval (.tmp s)=v) (hsd:d≠s) (hd:d<a.tmps.size) (hown:w.ownsG U e 1 v xs.length (xs.map bv)) (hU:U.u<=w.heap.size) (hb:xs.length+n<=big) (h:∀ v' w',w'.ownsG U e 1 v' (xs++zs.map o8).length ((xs++zs.map o8).map bv)->Below U.u w w'->rO_ P Q r ((a.put (some d) (.slice (some ⟨w.heap.size,0,none⟩) n n)).put (some d2) v') w'):
  rO_ P Q (⟨some d,.buildSlice t n ps,ty,p,af,g⟩::⟨some d2,.call { callee:=.builtin .append,args:=#[.tmp s,.tmp d],argTypes:=#[t,t] },ty2,p2,af2,g2⟩::r) a w:=by
 refine xM (s:=1) (vs:=zs.map fun z=>.int .u8 z) hB hp (by simpa using hn) (by intro v hv;obtain ⟨z,_,rfl⟩:=List.mem_map.1 hv;rfl) zH hn0 ?_
 have hcs:((zs.map fun z=>Value.int .u8 z).flatMap fun v=>v.cells.toList)=(zs.map o8).map bv:=by
  rw[map_o8 h8,flat_u8]
 rw[hcs]
 have hlen:(zs.map o8).length=n:=by simpa using hn
 refine jT (sz:=1) (m:=n) (U:=U) (v:=v) (n:=xs.length) (xs:=xs.map bv) (news:=(zs.map o8).map bv) hB (by rw[qj _ _ _ _ hsd];exact hs) (qE _ _ _ hd) (hown.alloc _) (by simp;omega) ?_ hb ?_
 ·refine zh (rB hB) ?_ (by simp[hn]) (xH _)
  intro j u hu
  rw[Nat.zero_add]
  exact qm w _ e (by simpa using hu)
 ·intro v' w' h1 h2
  refine h v' w' (by simpa [hn] using h1) ?_
  exact ((Below.refl U.u w).alloc (o:=.cells _ e) hU).trans h2
theorem yp {d d2:Nat} {t n ps ty p af g ty2 p2 af2 g2 e v} {xs:List UInt8} {zs:List Int} (hB:xo P t e 1=true) (hp:(ps.map fun (x:Nat × Operand)=>(x.1,a.eval x.2)).toList=((zs.map fun z=>Value.int .u8 z).zipIdx 0).map fun x=>(x.2,x.1)) (h8:∀ z ∈ zs,0<=z/\z<256) (hn:zs.length=n) (hlim:n<=1000) (hn0:0<n) (hs:a.eval (.tmp s)=v) (hsd:d≠s) (hd:d<a.tmps.size) (hown:w.ownsRow U e 1 v xs.length (xs.map bv)) (hU:U<=w.heap.size) (hb:xs.length+n<=big) (h:∀ v' w',w'.ownsRow U e 1 v' (xs++zs.map o8).length ((xs++zs.map o8).map bv)->Below U w w'->rO_ P Q r ((a.put (some d) (.slice (some ⟨w.heap.size,0,none⟩) n n)).put (some d2) v') w'):
  rO_ P Q (⟨some d,.buildSlice t n ps,ty,p,af,g⟩::⟨some d2,.call { callee:=.builtin .append,args:=#[.tmp s,.tmp d],argTypes:=#[t,t] },ty2,p2,af2,g2⟩::r) a w :=
 kV (U:=⟨U,Gd.none⟩) hB hp h8 hn hlim hn0 hs hsd hd hown.toG hU hb (fun v' w' h1 h2=>h v' w' h1.own h2)
theorem wrap_i16 (n:Int):IntKind.i16.wrap n=(n+32768) % 65536-32768:=by
 simp[IntKind.wrap,IntKind.bits,IntKind.signed]
 split<;>omega
theorem wrap_i32 (n:Int):IntKind.i32.wrap n=(n+2147483648) % 4294967296-2147483648:=by
 simp[IntKind.wrap,IntKind.bits,IntKind.signed]
 split<;>omega
theorem wrap_u16 (n:Int):IntKind.u16.wrap n=n % 65536:=by simp[IntKind.wrap,IntKind.bits,IntKind.signed]
theorem kc (n:Int):IntKind.u32.wrap n=n % 4294967296:=by simp[IntKind.wrap,IntKind.bits,IntKind.signed]
theorem jo (n:Int):IntKind.u64.wrap n=n % 18446744073709551616:=by simp[IntKind.wrap,IntKind.bits,IntKind.signed]
theorem be1 (n:Int):be 1 n=[o8 (n % 256)]:=by simp[be,o8]
theorem be2 (n:Int):be 2 n=[o8 (n / 256 % 256),o8 (n % 256)]:=by simp[be,o8,Int.fdiv_eq_ediv_of_nonneg]
theorem be4 (n:Int):be 4 n=[o8 (n / 16777216 % 256),o8 (n / 65536 % 256),o8 (n / 256 % 256),o8 (n % 256)]:=by simp[be,o8,Int.fdiv_eq_ediv_of_nonneg]
theorem be8 (n:Int):be 8 n=[o8 (n / 72057594037927936 % 256),o8 (n / 281474976710656 % 256),o8 (n / 1099511627776 % 256),o8 (n / 4294967296 % 256),o8 (n / 16777216 % 256),o8 (n / 65536 % 256),o8 (n / 256 % 256),o8 (n % 256)]:=by
 simp[be,o8,Int.fdiv_eq_ediv_of_nonneg]
theorem be2_mod (n:Int):be 2 (IntKind.u16.wrap n)=be 2 n:=by
 rw[be2,be2,wrap_u16,show n % 65536 / 256 % 256=n / 256 % 256 by omega,show n % 65536 % 256=n % 256 by omega]
theorem be4_mod (n:Int):be 4 (IntKind.u32.wrap n)=be 4 n:=by
 rw[be4,be4,kc,show n % 4294967296 / 16777216 % 256=n / 16777216 % 256 by omega,show n % 4294967296 / 65536 % 256=n / 65536 % 256 by omega,show n % 4294967296 / 256 % 256=n / 256 % 256 by omega,show n % 4294967296 % 256=n % 256 by omega]
theorem be8_mod (n:Int):be 8 (IntKind.u64.wrap n)=be 8 n:=by
 rw[be8,be8,jo,show n % 18446744073709551616 / 72057594037927936 % 256=n / 72057594037927936 % 256 by omega,show n % 18446744073709551616 / 281474976710656 % 256=n / 281474976710656 % 256 by omega,
  show n % 18446744073709551616 / 1099511627776 % 256=n / 1099511627776 % 256 by omega,show n % 18446744073709551616 / 4294967296 % 256=n / 4294967296 % 256 by omega,show n % 18446744073709551616 / 16777216 % 256=n / 16777216 % 256 by omega,
  show n % 18446744073709551616 / 65536 % 256=n / 65536 % 256 by omega,show n % 18446744073709551616 / 256 % 256=n / 256 % 256 by omega,show n % 18446744073709551616 % 256=n % 256 by omega]
section
variable {U : Gd}
theorem k_u16 (ht:Text P E.wU16 2 13 #[.tmp 4] (c_wU16 E)) (hB:xo P E.tB E.tU8 1=true) (i16:qu P E.tU16=some .u16) (i8:qu P E.tU8=some .u8) {n:Int} (hn:0<=n/\n<=65535):Wr1 P E E.wU16 U [.int .u16 n] (be 2 n) w:=by
 intro dv xs hown hU hb
 refine qa.enter ht zS ?_
 intro a hsz hdf harg
 have e0:=harg 0 dv zS
 have e1:=harg 1 (.int .u16 n) zS
 unfold c_wU16
 refine vX (rA (dn (vX (rM (rM ?_)))))
 refine r_shr zM zM (by decide) ?_
 refine qY (by assumption) (by assumption) zM ?_
 refine rM ?_
 refine qY (by assumption) (by assumption) zM ?_
 refine kV (zs:=[IntKind.u8.wrap (n.fdiv (2 ^ (min 8 16))),IntKind.u8.wrap n]) hB ?_ (by intro z hz;simp only[List.mem_cons,List.not_mem_nil,or_false] at hz;rcases hz with rfl | rfl<;>first | exact zj _ | decide) rfl zH zH zA zH (by simp only[zP];omega) hown hU (by simpa [be] using hb) ?_
 ·simp only[lM]
  simp (disch:=(try simp only[sP]);omega) only[eV]
  rfl
 intro v' w' h1 h2
 rw[show [IntKind.u8.wrap (n.fdiv (2 ^ (min 8 16))),IntKind.u8.wrap n].map o8=be 2 n by rw[be2];simp only[List.map_cons,List.map_nil,yj];rw[Int.fdiv_eq_ediv_of_nonneg _ (by decide)];rfl] at h1
 refine rA (dn (vS (vT ?_)))
 exact ⟨by simp only[dF];exact hdf,v',rO zE,⟨h1,h2⟩⟩
theorem k_u32 (ht:Text P E.wU32 2 19 #[.tmp 4] (c_wU32 E)) (hB:xo P E.tB E.tU8 1=true) (i32:qu P E.tW=some .u32) (i8:qu P E.tU8=some .u8) {n:Int} (hn:0<=n/\n<=4294967295):Wr1 P E E.wU32 U [.int .u32 n] (be 4 n) w:=by
 intro dv xs hown hU hb
 refine qa.enter ht zS ?_
 intro a hsz hdf harg
 have e0:=harg 0 dv zS
 have e1:=harg 1 (.int .u32 n) zS
 unfold c_wU32
 refine vX (rA (dn (vX (rM (rM ?_)))))
 refine r_shr zM zM (by decide) ?_
 refine qY (by assumption) (by assumption) zM ?_
 refine rM ?_
 refine r_shr zM zM (by decide) ?_
 refine qY (by assumption) (by assumption) zM ?_
 refine rM ?_
 refine r_shr zM zM (by decide) ?_
 refine qY (by assumption) (by assumption) zM ?_
 refine rM ?_
 refine qY (by assumption) (by assumption) zM ?_
 refine kV (zs:=[IntKind.u8.wrap (n.fdiv (2 ^ (min 24 32))),IntKind.u8.wrap (n.fdiv (2 ^ (min 16 32))),IntKind.u8.wrap (n.fdiv (2 ^ (min 8 32))),IntKind.u8.wrap n]) hB ?_ (by intro z hz;simp only[List.mem_cons,List.not_mem_nil,or_false] at hz;rcases hz with rfl | rfl | rfl | rfl<;>first | exact zj _ | decide) rfl zH zH zA zH (by simp only[zP];omega) hown hU (by simpa [be] using hb) ?_
 ·simp only[lM]
  simp (disch:=(try simp only[sP]);omega) only[eV]
  rfl
 intro v' w' h1 h2
 rw[show [IntKind.u8.wrap (n.fdiv (2 ^ (min 24 32))),IntKind.u8.wrap (n.fdiv (2 ^ (min 16 32))),IntKind.u8.wrap (n.fdiv (2 ^ (min 8 32))),IntKind.u8.wrap n].map o8=be 4 n by rw[be4];simp only[List.map_cons,List.map_nil,yj];simp only[Int.fdiv_eq_ediv_of_nonneg _ (show (0:Int)<=2 ^ (min 24 32) by decide),Int.fdiv_eq_ediv_of_nonneg _ (show (0:Int)<=2 ^ (min 16 32) by decide),Int.fdiv_eq_ediv_of_nonneg _ (show (0:Int)<=2 ^ (min 8 32) by decide)];rfl] at h1
 refine rA (dn (vS (vT ?_)))
 exact ⟨by simp only[dF];exact hdf,v',rO zE,⟨h1,h2⟩⟩
theorem k_u64 (ht:Text P E.wU64 2 31 #[.tmp 4] (c_wU64 E)) (hB:xo P E.tB E.tU8 1=true) (i64:qu P E.tU64=some .u64) (i8:qu P E.tU8=some .u8) {n:Int} (hn:0<=n/\n<=18446744073709551615):Wr1 P E E.wU64 U [.int .u64 n] (be 8 n) w:=by
 intro dv xs hown hU hb
 refine qa.enter ht zS ?_
 intro a hsz hdf harg
 have e0:=harg 0 dv zS
 have e1:=harg 1 (.int .u64 n) zS
 unfold c_wU64
 refine vX (rA (dn (vX (rM (rM ?_)))))
 refine r_shr zM zM (by decide) ?_
 refine qY (by assumption) (by assumption) zM ?_
 refine rM ?_
 refine r_shr zM zM (by decide) ?_
 refine qY (by assumption) (by assumption) zM ?_
 refine rM ?_
 refine r_shr zM zM (by decide) ?_
 refine qY (by assumption) (by assumption) zM ?_
 refine rM ?_
 refine r_shr zM zM (by decide) ?_
 refine qY (by assumption) (by assumption) zM ?_
 refine rM ?_
 refine r_shr zM zM (by decide) ?_
 refine qY (by assumption) (by assumption) zM ?_
 refine rM ?_
 refine r_shr zM zM (by decide) ?_
 refine qY (by assumption) (by assumption) zM ?_
 refine rM ?_
 refine r_shr zM zM (by decide) ?_
 refine qY (by assumption) (by assumption) zM ?_
 refine rM ?_
 refine qY (by assumption) (by assumption) zM ?_
 refine kV (zs:=[IntKind.u8.wrap (n.fdiv (2 ^ (min 56 64))),IntKind.u8.wrap (n.fdiv (2 ^ (min 48 64))),IntKind.u8.wrap (n.fdiv (2 ^ (min 40 64))),IntKind.u8.wrap (n.fdiv (2 ^ (min 32 64))),IntKind.u8.wrap (n.fdiv (2 ^ (min 24 64))),IntKind.u8.wrap (n.fdiv (2 ^ (min 16 64))),IntKind.u8.wrap (n.fdiv (2 ^ (min 8 64))),IntKind.u8.wrap n]) hB ?_ (by intro z hz;simp only[List.mem_cons,List.not_mem_nil,or_false] at hz;rcases hz with rfl | rfl | rfl | rfl | rfl | rfl | rfl | rfl<;>first | exact zj _ | decide) rfl zH zH zA zH (by simp only[zP];omega) hown hU (by simpa [be] using hb) ?_
 ·simp only[lM]
  simp (disch:=(try simp only[sP]);omega) only[eV]
  rfl
 intro v' w' h1 h2
 rw[show [IntKind.u8.wrap (n.fdiv (2 ^ (min 56 64))),IntKind.u8.wrap (n.fdiv (2 ^ (min 48 64))),IntKind.u8.wrap (n.fdiv (2 ^ (min 40 64))),IntKind.u8.wrap (n.fdiv (2 ^ (min 32 64))),IntKind.u8.wrap (n.fdiv (2 ^ (min 24 64))),IntKind.u8.wrap (n.fdiv (2 ^ (min 16 64))),IntKind.u8.wrap (n.fdiv (2 ^ (min 8 64))),IntKind.u8.wrap n].map o8=be 8 n by rw[be8];simp only[List.map_cons,List.map_nil,yj];simp only[Int.fdiv_eq_ediv_of_nonneg _ (show (0:Int)<=2 ^ (min 56 64) by decide),Int.fdiv_eq_ediv_of_nonneg _ (show (0:Int)<=2 ^ (min 48 64) by decide),Int.fdiv_eq_ediv_of_nonneg _ (show (0:Int)<=2 ^ (min 40 64) by decide),Int.fdiv_eq_ediv_of_nonneg _ (show (0:Int)<=2 ^ (min 32 64) by decide),Int.fdiv_eq_ediv_of_nonneg _ (show (0:Int)<=2 ^ (min 24 64) by decide),Int.fdiv_eq_ediv_of_nonneg _ (show (0:Int)<=2 ^ (min 16 64) by decide),Int.fdiv_eq_ediv_of_nonneg _ (show (0:Int)<=2 ^ (min 8 64) by decide)];rfl] at h1
 refine rA (dn (vS (vT ?_)))
 exact ⟨by simp only[dF];exact hdf,v',rO zE,⟨h1,h2⟩⟩
theorem k_i16 (ht:Text P E.wI16 2 9 #[.tmp 4] (c_wI16 E)) (is:qu P E.tI16=some .i16) (iu:qu P E.tU16=some .u16) (hc:∀ n U w,0<=n/\n<=65535->Wr1 P E E.wU16 U [.int .u16 n] (be 2 n) w) {n:Int}:Wr1 P E E.wI16 U [.int .i16 n] (be 2 n) w:=by
 intro dv xs hown hU hb
 refine qa.enter ht zS ?_
 intro a hsz hdf harg
 have e0:=harg 0 dv zS
 have e1:=harg 1 (.int .i16 n) zS
 unfold c_wI16
 refine vX (rA (dn (vX (rM (rM ?_)))))
 refine qY (by assumption) (by assumption) zM ?_
 refine q8 (args:=#[dv,.int .u16 (IntKind.u16.wrap n)]) ?_ (hc (IntKind.u16.wrap n) U w (by rw[wrap_u16];omega) dv xs hown hU (by rw[be2_mod];exact hb)) ?_
 ·simp only[lM]
  simp (disch:=(try simp only[sP]);omega) only[eV,e0]
 intro v' w' hs
 rw[be2_mod] at hs
 refine rA (dn (vS (vT ?_)))
 exact ⟨by simp only[dF];exact hdf,v',rO zE,hs⟩
theorem k_i32 (ht:Text P E.wI32 2 9 #[.tmp 4] (c_wI32 E)) (is:qu P E.tI32=some .i32) (iu:qu P E.tW=some .u32) (hc:∀ n U w,0<=n/\n<=4294967295->Wr1 P E E.wU32 U [.int .u32 n] (be 4 n) w) {n:Int}:Wr1 P E E.wI32 U [.int .i32 n] (be 4 n) w:=by
 intro dv xs hown hU hb
 refine qa.enter ht zS ?_
 intro a hsz hdf harg
 have e0:=harg 0 dv zS
 have e1:=harg 1 (.int .i32 n) zS
 unfold c_wI32
 refine vX (rA (dn (vX (rM (rM ?_)))))
 refine qY (by assumption) (by assumption) zM ?_
 refine q8 (args:=#[dv,.int .u32 (IntKind.u32.wrap n)]) ?_ (hc (IntKind.u32.wrap n) U w (by rw[kc];omega) dv xs hown hU (by rw[be4_mod];exact hb)) ?_
 ·simp only[lM]
  simp (disch:=(try simp only[sP]);omega) only[eV,e0]
 intro v' w' hs
 rw[be4_mod] at hs
 refine rA (dn (vS (vT ?_)))
 exact ⟨by simp only[dF];exact hdf,v',rO zE,hs⟩
theorem k_i64 (ht:Text P E.wI64 2 9 #[.tmp 4] (c_wI64 E)) (is:qu P E.tI64=some .i64) (iu:qu P E.tU64=some .u64) (hc:∀ n U w,0<=n/\n<=18446744073709551615->Wr1 P E E.wU64 U [.int .u64 n] (be 8 n) w) {n:Int}:Wr1 P E E.wI64 U [.int .i64 n] (be 8 n) w:=by
 intro dv xs hown hU hb
 refine qa.enter ht zS ?_
 intro a hsz hdf harg
 have e0:=harg 0 dv zS
 have e1:=harg 1 (.int .i64 n) zS
 unfold c_wI64
 refine vX (rA (dn (vX (rM (rM ?_)))))
 refine qY (by assumption) (by assumption) zM ?_
 refine q8 (args:=#[dv,.int .u64 (IntKind.u64.wrap n)]) ?_ (hc (IntKind.u64.wrap n) U w (by rw[jo];omega) dv xs hown hU (by rw[be8_mod];exact hb)) ?_
 ·simp only[lM]
  simp (disch:=(try simp only[sP]);omega) only[eV,e0]
 intro v' w' hs
 rw[be8_mod] at hs
 refine rA (dn (vS (vT ?_)))
 exact ⟨by simp only[dF];exact hdf,v',rO zE,hs⟩
theorem k_i8 (ht:Text P E.wI8 2 10 #[.tmp 4] (c_wI8 E)) (hB:xo P E.tB E.tU8 1=true) (is:qu P E.tI8=some .i8) (i8:qu P E.tU8=some .u8) {n:Int}:Wr1 P E E.wI8 U [.int .i8 n] (be 1 n) w:=by
 intro dv xs hown hU hb
 refine qa.enter ht zS ?_
 intro a hsz hdf harg
 have e0:=harg 0 dv zS
 have e1:=harg 1 (.int .i8 n) zS
 unfold c_wI8
 refine vX (rA (dn (vX (rM (rM ?_)))))
 refine qY (by assumption) (by assumption) zM ?_
 refine kV (zs:=[IntKind.u8.wrap n]) hB ?_ (by intro z hz;simp only[List.mem_cons,List.not_mem_nil,or_false] at hz;rcases hz with rfl<;>first | exact zj _ | decide) rfl zH zH zA zH (by simp only[zP];omega) hown hU (by simpa [be] using hb) ?_
 ·simp only[lM]
  simp (disch:=(try simp only[sP]);omega) only[eV]
  rfl
 intro v' w' h1 h2
 rw[show [IntKind.u8.wrap n].map o8=be 1 n by rw[be1];simp only[List.map_cons,List.map_nil,yj]] at h1
 refine rA (dn (vS (vT ?_)))
 exact ⟨by simp only[dF];exact hdf,v',rO zE,⟨h1,h2⟩⟩
theorem k_bool (ht:Text P E.wBool 2 12 #[.tmp 4] (c_wBool E)) (hB:xo P E.tB E.tU8 1=true) {b:Bool}:Wr1 P E E.wBool U [.bool b] ([if b then 1 else 0]) w:=by
 intro dv xs hown hU hb
 refine qa.enter ht zS ?_
 intro a hsz hdf harg
 have e0:=harg 0 dv zS
 have e1:=harg 1 (.bool b) zS
 unfold c_wBool
 refine vX (rA (dn (vS (vX (rM (dn ?_))))))
 refine vS (vC (t:=b) zA ?_ ?_)
 ·intro hbt
  refine vX (rM ?_)
  refine kV (zs:=[1]) hB ?_ (by intro z hz;simp only[List.mem_cons,List.not_mem_nil,or_false] at hz;rcases hz with rfl<;>first | exact zj _ | decide) rfl zH zH zA zH (by simp only[zP];omega) hown hU (by simpa [be] using hb) ?_
  ·simp only[lM]
   simp (disch:=(try simp only[sP]);omega) only[eV]
   rfl
  intro v' w' h1 h2
  refine rA (dn (vS (vT ?_)))
  exact ⟨by simp only[dF];exact hdf,v',rO zE,⟨by rw[hbt];exact h1,h2⟩⟩
 ·intro hbt
  refine vK (vN (vX (rM ?_)))
  refine kV (zs:=[0]) hB ?_ (by intro z hz;simp only[List.mem_cons,List.not_mem_nil,or_false] at hz;rcases hz with rfl<;>first | exact zj _ | decide) rfl zH zH zA zH (by simp only[zP];omega) hown hU (by simpa [be] using hb) ?_
  ·simp only[lM]
   simp (disch:=(try simp only[sP]);omega) only[eV]
   rfl
  intro v' w' h1 h2
  refine rA (dn (vS (vT ?_)))
  exact ⟨by simp only[dF];exact hdf,v',rO zE,⟨by rw[hbt];exact h1,h2⟩⟩
end
theorem gE {d T x ty p af g ad} (hT:P.underlying T=some (.pointer e)) (hx:a.eval x=.pointer ad) (h:rO_ P Q r (a.put (some d) (.bool ad.isNone)) w):
  rO_ P Q (⟨some d,.binOp .eql T x (.const (.pointer none)) T,ty,p,af,g⟩::r) a w:=by
 refine st ?_
 have hb:(binOp .eql T (.pointer ad) (.pointer none)).run P w=.ok (.bool ad.isNone) w:=by
  have h0:∀ k:Nat,(Op.equalIn (k+1) T (.pointer ad) (.pointer none)).run P w=.ok ad.isNone w:=fun k=>by
   cases ad<;>simp[Op.equalIn,run_underlying hT]
  simp only[binOp]
  simp[Op.equal,Op.maxDepth,h0 9999]
 have hg:(eqGuard .eql T x (.const (.pointer none)) (.pointer ad) (.pointer none))=pure ():=by cases ad<;>rfl
 simp only[Oper.wp,execOp,hx,xr,hg,hb,Sem.run_bind,Sem.run_pure,Result.andThen_ok,Oper.upon_value]
 exact h
theorem r_sliceArr {d t x ty p af g b n s} (hu:P.underlying t=some (.array n e)) (hs:(P.info? e).map (·.size)=some s) (hx:a.eval x=.pointer (some ⟨b,0,none⟩)) (h:rO_ P Q r (a.put (some d) (.slice (some ⟨b,0,none⟩) n n)) w):
  rO_ P Q (⟨some d,.slice t x none none none,ty,p,af,g⟩::r) a w:=by
 refine st ?_
 cases hi:P.info? e with
 | none=>simp[hi] at hs
 | some i =>
  have hr:(Instr.sliceAt t (a.eval x) none none none).run P w=.ok (.slice (some ⟨b,0,none⟩) n n) w:=by
   rw[hx]
   by_cases hn:n=0
   ·simp[Instr.sliceAt,run_underlying hu,Instr.sureAddr,Instr.sliceBounds,sizeOf,typeInfo,hi,hn]
   ·simp[Instr.sliceAt,run_underlying hu,Instr.sureAddr,Instr.sliceBounds,sizeOf,typeInfo,hi,hn,Addr.add_zero']
  simp only[Oper.wp,execOp,Sem.run_bind,Option.map_none,hr,Sem.run_pure,Result.andThen_ok,Oper.upon_value]
  exact h
theorem yP {d t x i ty p af g k} {s:ByteArray} {j:Nat} {b:UInt8} (ht:P.underlying t=some .string) (hx:a.eval x=.string s) (hi:a.eval i=.int k (j:Int)) (hb:s[j]? = some b) (h:rO_ P Q r (a.put (some d) (.int .u8 b.toNat)) w):rO_ P Q (⟨some d,.index t x i,ty,p,af,g⟩::r) a w:=by
 refine st ?_
 have hr:(Instr.index t (a.eval x) (a.eval i)).run P w=.ok (.int .u8 b.toNat) w:=by
  rw[hx,hi]
  simp[Instr.index,asIntOf,run_underlying ht,hb]
 simp only[Oper.wp,execOp,Sem.run_bind,hr,Sem.run_pure,Result.andThen_ok,Oper.upon_value]
 exact h
section
variable {U : Gd}
theorem zm (l:List UInt8):(⟨l.toArray⟩:ByteArray).size=l.length:=by simp[ByteArray.size]
theorem wrap_id16 (n:Int):be 2 (IntKind.i16.wrap n)=be 2 n:=by
 rw[be2,be2,wrap_i16,show ((n+32768) % 65536-32768) / 256 % 256=n / 256 % 256 by omega,show ((n+32768) % 65536-32768) % 256=n % 256 by omega]
theorem wrap_id32 (h:n<=big):IntKind.i32.wrap (n:Int)=n:=by rw[wrap_i32];unfold big at h;omega
theorem yE (h:n<=big):IntKind.u32.wrap (1+IntKind.u32.wrap (n:Int))=((n+1:Nat):Int):=by rw[kc,kc];unfold big at h;omega
theorem k_str (ht:Text P E.wStr 2 13 #[.tmp 4] (c_wStr E)) (hB:xo P E.tB E.tU8 1=true) (i16:qu P E.tI16=some .i16) (ii:qu P E.tI=some .i64) (hs9:P.underlying E.tStr=some .string) (hc:∀ n (U:Gd) w,Wr1 P E E.wI16 U [.int .i16 n] (be 2 n) w):Wr1 P E E.wStr U [.string ⟨l.toArray⟩] (ze false l) w:=by
 intro dv xs hown hU hb
 refine qa.enter ht zS ?_
 intro a hsz hdf harg
 have e0:=harg 0 dv zS
 have e1:=harg 1 (.string ⟨l.toArray⟩) zS
 unfold c_wStr
 refine vX (rA (dn ?_))
 have hl:l.length<=2147483000:=by simp only[ze,List.length_append] at hb;unfold big at hb;omega
 have hw:be 2 (IntKind.i16.wrap ((⟨l.toArray⟩:ByteArray).size:Nat))=be 2 l.length:=by rw[zm];exact wrap_id16 _
 have hb2:xs.length+(be 2 l.length).length+l.length<=big:=by simp only[ze,List.length_append,Bool.false_eq_true,if_false] at hb;omega
 refine vX (rM (rM ?_))
 refine jb (by assumption) zM ?_
 refine qY (by assumption) (by assumption) zM ?_
 refine q8 (args:=#[dv,.int .i16 (IntKind.i16.wrap ((⟨l.toArray⟩:ByteArray).size:Nat))]) ?_ (hc _ U w dv xs hown hU (by rw[hw];omega)) ?_
 ·simp only[lM]
  simp (disch:=(try simp only[sP]);omega) only[eV,e0]
 intro v' w' hs
 rw[hw] at hs
 have hU':U.u<=w'.heap.size:=Nat.le_trans hU hs.2.size
 refine rA (dn (vX (rM (rM ?_))))
 refine jT (sz:=1) (U:=U) (m:=l.length) (news:=l.map bv) hB zE zA hs.1 hU' (gw hs9 l) (by simp only[List.length_append];omega) ?_
 intro v' w2 h1 h2
 rw[show (xs++be 2 ↑l.length).length+l.length=(xs++(be 2 ↑l.length++l)).length by simp only[List.length_append];omega,← List.map_append,List.append_assoc] at h1
 refine rA (dn (vS (vT ?_)))
 exact ⟨by simp only[dF];exact hdf,v',rO zE,⟨h1,hs.2.trans h2⟩⟩
theorem k_cstr (ht:Text P E.wCStr 2 14 #[.tmp 4] (c_wCStr E)) (hB:xo P E.tB E.tU8 1=true) (iu:qu P E.tW=some .u32) (ii:qu P E.tI=some .i64) (hs9:P.underlying E.tStr=some .string) (hc:∀ (n:Nat) (U:Gd) w,n<4294967296->Wr1 P E E.wUvarint U [.int .u32 n] (Go.Km.uvar n) w):Wr1 P E E.wCStr U [.string ⟨l.toArray⟩] (ze true l) w:=by
 intro dv xs hown hU hb
 refine qa.enter ht zS ?_
 intro a hsz hdf harg
 have e0:=harg 0 dv zS
 have e1:=harg 1 (.string ⟨l.toArray⟩) zS
 unfold c_wCStr
 refine vX (rA (dn ?_))
 have hl:l.length<=big:=by simp only[ze,List.length_append] at hb;omega
 have hw:IntKind.u32.wrap (1+IntKind.u32.wrap (((⟨l.toArray⟩:ByteArray).size:Nat):Int))=((l.length+1:Nat):Int):=by rw[zm];exact yE hl
 have hb2:xs.length+(Go.Km.uvar (l.length+1)).length+l.length<=big:=by simp only[ze,List.length_append,if_true] at hb;omega
 refine vX (rM (rM ?_))
 refine jb (by assumption) zM ?_
 refine qY (by assumption) (by assumption) zM ?_
 refine z8 zM zM ?_
 refine q8 (args:=#[dv,.int .u32 (IntKind.u32.wrap (1+IntKind.u32.wrap ((⟨l.toArray⟩:ByteArray).size:Nat)))]) ?_ (by rw[hw];exact hc (l.length+1) U w (by unfold big at hl;omega) dv xs hown hU zH) ?_
 ·simp only[lM]
  simp (disch:=(try simp only[sP]);omega) only[eV,e0]
 intro v' w' hs
 have hU':U.u<=w'.heap.size:=Nat.le_trans hU hs.2.size
 refine rA (dn (vX (rM (rM ?_))))
 refine jT (sz:=1) (U:=U) (m:=l.length) (news:=l.map bv) hB zE zA hs.1 hU' (gw hs9 l) (by simp only[List.length_append];omega) ?_
 intro v' w2 h1 h2
 rw[show (xs++Go.Km.uvar (l.length+1)).length+l.length=(xs++(Go.Km.uvar (l.length+1)++l)).length by simp only[List.length_append];omega,← List.map_append,List.append_assoc] at h1
 refine rA (dn (vS (vT ?_)))
 exact ⟨by simp only[dF];exact hdf,v',rO zE,⟨h1,hs.2.trans h2⟩⟩
theorem oct_src {T:TypeId} {o:Option (List UInt8)} (hT:xK P T=some (e,1)) (hv:jA w U.u v o) (hU:U.u<=w.heap.size):
  ∃ ad cap,v=.slice ad (o.getD []).length cap/\∀ w',Below U.u w w'->Src P 1 T v (o.getD []).length ((o.getD []).map bv) w':=by
 cases o with
 | none =>
  simp only[jA] at hv
  subst hv
  exact ⟨none,0,rfl,fun w' _=>gx hT⟩
 | some l =>
  obtain ⟨q,o,cap,rfl,hq,hc⟩:=hv
  exact ⟨_,cap,rfl,fun w' hw=>zh hT (hc.below hw hq) zS (xH l)⟩
theorem k_octs (ht:Text P E.wBytes 2 13 #[.tmp 4] (c_wBytes E)) (hB:xo P E.tB E.tU8 1=true) (i32:qu P E.tI32=some .i32) (ii:qu P E.tI=some .i64) {o:Option (List UInt8)} (hv:jA w U.u v o) (hc:∀ n (U:Gd) w,Wr1 P E E.wI32 U [.int .i32 n] (be 4 n) w):Wr1 P E E.wBytes U [v] (xn false (o.getD [])) w:=by
 intro dv xs hown hU hb
 refine qa.enter ht zS ?_
 intro a hsz hdf harg
 have e0:=harg 0 dv zS
 have e1:=harg 1 (v) zS
 unfold c_wBytes
 refine vX (rA (dn ?_))
 have hsl:=rB hB
 obtain ⟨ad,cap,hve,hsrc⟩:=oct_src hsl hv hU
 generalize hlo:o.getD []=l at *
 subst hve
 have hl:l.length<=big:=by simp only[xn,List.length_append] at hb;omega
 have hw:IntKind.i32.wrap (l.length:Int)=l.length:=wrap_id32 hl
 have hb2:xs.length+(be 4 l.length).length+l.length<=big:=by simp only[xn,List.length_append,Bool.false_eq_true,if_false] at hb;omega
 refine vX (rM (rM ?_))
 refine xh (by assumption) zM ?_
 refine qY (by assumption) (by assumption) zM ?_
 refine q8 (args:=#[dv,.int .i32 (IntKind.i32.wrap (l.length:Int))]) ?_ (by rw[hw];exact hc _ U w dv xs hown hU zH) ?_
 ·simp only[lM]
  simp (disch:=(try simp only[sP]);omega) only[eV,e0]
 intro v' w' hs
 have hU':U.u<=w'.heap.size:=Nat.le_trans hU hs.2.size
 refine rA (dn (vX (rM (rM ?_))))
 refine jT (sz:=1) (U:=U) (m:=l.length) (news:=l.map bv) hB zE zA hs.1 hU' (hsrc _ hs.2) (by simp only[List.length_append];omega) ?_
 intro v' w2 h1 h2
 rw[show (xs++be 4 ↑l.length).length+l.length=(xs++(be 4 ↑l.length++l)).length by simp only[List.length_append];omega,← List.map_append,List.append_assoc] at h1
 refine rA (dn (vS (vT ?_)))
 exact ⟨by simp only[dF];exact hdf,v',rO zE,⟨h1,hs.2.trans h2⟩⟩
theorem k_cocts (ht:Text P E.wCBytes 2 14 #[.tmp 4] (c_wCBytes E)) (hB:xo P E.tB E.tU8 1=true) (iu:qu P E.tW=some .u32) (ii:qu P E.tI=some .i64) {o:Option (List UInt8)} (hv:jA w U.u v o) (hc:∀ (n:Nat) (U:Gd) w,n<4294967296->Wr1 P E E.wUvarint U [.int .u32 n] (Go.Km.uvar n) w):Wr1 P E E.wCBytes U [v] (xn true (o.getD [])) w:=by
 intro dv xs hown hU hb
 refine qa.enter ht zS ?_
 intro a hsz hdf harg
 have e0:=harg 0 dv zS
 have e1:=harg 1 (v) zS
 unfold c_wCBytes
 refine vX (rA (dn ?_))
 have hsl:=rB hB
 obtain ⟨ad,cap,hve,hsrc⟩:=oct_src hsl hv hU
 generalize hlo:o.getD []=l at *
 subst hve
 have hl:l.length<=big:=by simp only[xn,List.length_append] at hb;omega
 have hw:IntKind.u32.wrap (1+IntKind.u32.wrap (l.length:Int))=((l.length+1:Nat):Int):=by skip;exact yE hl
 have hb2:xs.length+(Go.Km.uvar (l.length+1)).length+l.length<=big:=by simp only[xn,List.length_append,if_true] at hb;omega
 refine vX (rM (rM ?_))
 refine xh (by assumption) zM ?_
 refine qY (by assumption) (by assumption) zM ?_
 refine z8 zM zM ?_
 refine q8 (args:=#[dv,.int .u32 (IntKind.u32.wrap (1+IntKind.u32.wrap (l.length:Int)))]) ?_ (by rw[hw];exact hc (l.length+1) U w (by unfold big at hl;omega) dv xs hown hU zH) ?_
 ·simp only[lM]
  simp (disch:=(try simp only[sP]);omega) only[eV,e0]
 intro v' w' hs
 have hU':U.u<=w'.heap.size:=Nat.le_trans hU hs.2.size
 refine rA (dn (vX (rM (rM ?_))))
 refine jT (sz:=1) (U:=U) (m:=l.length) (news:=l.map bv) hB zE zA hs.1 hU' (hsrc _ hs.2) (by simp only[List.length_append];omega) ?_
 intro v' w2 h1 h2
 rw[show (xs++Go.Km.uvar (l.length+1)).length+l.length=(xs++(Go.Km.uvar (l.length+1)++l)).length by simp only[List.length_append];omega,← List.map_append,List.append_assoc] at h1
 refine rA (dn (vS (vT ?_)))
 exact ⟨by simp only[dF];exact hdf,v',rO zE,⟨h1,hs.2.trans h2⟩⟩
theorem k_len (ht:Text P E.wLen 2 9 #[.tmp 4] (c_wLen E)) (i32:qu P E.tI32=some .i32) (ii:qu P E.tI=some .i64) (hn:n<=big) (hc:∀ n (U:Gd) w,Wr1 P E E.wI32 U [.int .i32 n] (be 4 n) w):Wr1 P E E.wLen U [.int .i64 n] (zu false n) w:=by
 intro dv xs hown hU hb
 refine qa.enter ht zS ?_
 intro a hsz hdf harg
 have e0:=harg 0 dv zS
 have e1:=harg 1 (.int .i64 n) zS
 unfold c_wLen
 refine vX (rA (dn ?_))
 have hw:IntKind.i32.wrap (n:Int)=n:=wrap_id32 hn
 refine vX (rM (rM ?_))
 refine qY (by assumption) (by assumption) zM ?_
 refine q8 (args:=#[dv,.int .i32 (IntKind.i32.wrap (n:Int))]) ?_ (by rw[hw];exact hc _ U w dv xs hown hU hb) ?_
 ·simp only[lM]
  simp (disch:=(try simp only[sP]);omega) only[eV,e0]
 intro v' w' hs
 refine rA (dn (vS (vT ?_)))
 exact ⟨by simp only[dF];exact hdf,v',rO zE,hs⟩
theorem k_clen (ht:Text P E.wCLen 2 10 #[.tmp 4] (c_wCLen E)) (iu:qu P E.tW=some .u32) (ii:qu P E.tI=some .i64) (hn:n<=big) (hc:∀ (n:Nat) (U:Gd) w,n<4294967296->Wr1 P E E.wUvarint U [.int .u32 n] (Go.Km.uvar n) w):Wr1 P E E.wCLen U [.int .i64 n] (zu true n) w:=by
 intro dv xs hown hU hb
 refine qa.enter ht zS ?_
 intro a hsz hdf harg
 have e0:=harg 0 dv zS
 have e1:=harg 1 (.int .i64 n) zS
 unfold c_wCLen
 refine vX (rA (dn ?_))
 have hw:IntKind.u32.wrap (1+IntKind.u32.wrap (n:Int))=((n+1:Nat):Int):=yE hn
 refine vX (rM (rM ?_))
 refine qY (by assumption) (by assumption) zM ?_
 refine z8 zM zM ?_
 refine q8 (args:=#[dv,.int .u32 (IntKind.u32.wrap (1+IntKind.u32.wrap (n:Int)))]) ?_ (by rw[hw];exact hc (n+1) U w (by unfold big at hn;omega) dv xs hown hU hb) ?_
 ·simp only[lM]
  simp (disch:=(try simp only[sP]);omega) only[eV,e0]
 intro v' w' hs
 refine rA (dn (vS (vT ?_)))
 exact ⟨by simp only[dF];exact hdf,v',rO zE,hs⟩
theorem k_nlen (ht:Text P E.wNLen 3 14 #[.tmp 6] (c_wNLen E)) (i32:qu P E.tI32=some .i32) (ii:qu P E.tI=some .i64) {b:Bool} (hn:n<=big) (hc:∀ n (U:Gd) w,Wr1 P E E.wI32 U [.int .i32 n] (be 4 n) w):Wr1 P E E.wNLen U [.int .i64 n,.bool b] (if b then jl false else zu false n) w:=by
 intro dv xs hown hU hb
 refine qa.enter ht zS ?_
 intro a hsz hdf harg
 have e0:=harg 0 dv zS
 have e1:=harg 1 (.int .i64 n) zS
 have e2:=harg 2 (.bool b) zS
 unfold c_wNLen
 refine vX (rA (dn (vS (vX (rM (dn ?_))))))
 refine vS (vC (t:=b) zA ?_ ?_)
 ·intro hbt
  subst hbt
  simp only[if_true] at hb ⊢
  refine vX (rM ?_)
  refine q8 (args:=#[dv,.int .i32 (-1)]) ?_ (hc (-1) U w dv xs hown hU hb) ?_
  ·simp only[lM]
   simp (disch:=(try simp only[sP]);omega) only[eV,e0]
  intro v' w' hs
  refine rA (dn (vS (vT ?_)))
  exact ⟨by simp only[dF];exact hdf,v',rO zE,hs⟩
 ·intro hbt
  subst hbt
  simp only[Bool.false_eq_true,if_false] at hb ⊢
  refine vK (vN ?_)
  have hw:IntKind.i32.wrap (n:Int)=n:=wrap_id32 hn
  refine vX (rM (rM ?_))
  refine qY (by assumption) (by assumption) zM ?_
  refine q8 (args:=#[dv,.int .i32 (IntKind.i32.wrap (n:Int))]) ?_ (by rw[hw];exact hc _ U w dv xs hown hU hb) ?_
  ·simp only[lM]
   simp (disch:=(try simp only[sP]);omega) only[eV,e0]
  intro v' w' hs
  refine rA (dn (vS (vT ?_)))
  exact ⟨by simp only[dF];exact hdf,v',rO zE,hs⟩
theorem k_cnlen (ht:Text P E.wCNLen 3 15 #[.tmp 6] (c_wCNLen E)) (iu:qu P E.tW=some .u32) (ii:qu P E.tI=some .i64) {b:Bool} (hn:n<=big) (hc:∀ (n:Nat) (U:Gd) w,n<4294967296->Wr1 P E E.wUvarint U [.int .u32 n] (Go.Km.uvar n) w):Wr1 P E E.wCNLen U [.int .i64 n,.bool b] (if b then jl true else zu true n) w:=by
 intro dv xs hown hU hb
 refine qa.enter ht zS ?_
 intro a hsz hdf harg
 have e0:=harg 0 dv zS
 have e1:=harg 1 (.int .i64 n) zS
 have e2:=harg 2 (.bool b) zS
 unfold c_wCNLen
 refine vX (rA (dn (vS (vX (rM (dn ?_))))))
 refine vS (vC (t:=b) zA ?_ ?_)
 ·intro hbt
  subst hbt
  simp only[if_true] at hb ⊢
  refine vX (rM ?_)
  refine q8 (args:=#[dv,.int .u32 0]) ?_ (hc 0 U w (by decide) dv xs hown hU hb) ?_
  ·simp only[lM]
   simp (disch:=(try simp only[sP]);omega) only[eV,e0]
  intro v' w' hs
  refine rA (dn (vS (vT ?_)))
  exact ⟨by simp only[dF];exact hdf,v',rO zE,hs⟩
 ·intro hbt
  subst hbt
  simp only[Bool.false_eq_true,if_false] at hb ⊢
  refine vK (vN ?_)
  have hw:IntKind.u32.wrap (1+IntKind.u32.wrap (n:Int))=((n+1:Nat):Int):=yE hn
  refine vX (rM (rM ?_))
  refine qY (by assumption) (by assumption) zM ?_
  refine z8 zM zM ?_
  refine q8 (args:=#[dv,.int .u32 (IntKind.u32.wrap (1+IntKind.u32.wrap (n:Int)))]) ?_ (by rw[hw];exact hc (n+1) U w (by unfold big at hn;omega) dv xs hown hU hb) ?_
  ·simp only[lM]
   simp (disch:=(try simp only[sP]);omega) only[eV,e0]
  intro v' w' hs
  refine rA (dn (vS (vT ?_)))
  exact ⟨by simp only[dF];exact hdf,v',rO zE,hs⟩
theorem k_nocts (ht:Text P E.wNBytes 2 12 #[.tmp 4] (c_wNBytes E)) (hB:xo P E.tB E.tU8 1=true) {o:Option (List UInt8)} (hv:jA w U.u v o) (hn:∀ n (U:Gd) w,Wr1 P E E.wI32 U [.int .i32 n] (be 4 n) w) (hc:∀ v o (U:Gd) w,jA w U.u v o->Wr1 P E E.wBytes U [v] (xn false (o.getD [])) w):Wr1 P E E.wNBytes U [v] (xz false o) w:=by
 intro dv xs hown hU hb
 refine qa.enter ht zS ?_
 intro a hsz hdf harg
 have e0:=harg 0 dv zS
 have e1:=harg 1 (v) zS
 unfold c_wNBytes
 refine vX (rA (dn ?_))
 have hsl:=rB hB
 refine vS (vX (rM ?_))
 cases o with
 | none =>
  simp only[jA] at hv
  subst hv
  refine yQ (ad:=none) (len:=0) (cap:=0) hsl zA ?_
  refine dn ?_
  refine vS (vC (t:=true) zM ?_ (fun h=>by cases h))
  intro _
  refine vX (rM ?_)
  refine q8 (args:=#[dv,.int .i32 (-1)]) ?_ (hn (-1) U w dv xs hown hU hb) ?_
  ·simp only[lM]
   simp (disch:=(try simp only[sP]);omega) only[eV,e0]
  intro v' w' hs
  refine rA (dn (vS (vT ?_)))
  exact ⟨by simp only[dF];exact hdf,v',rO zE,hs⟩
 | some l =>
  have hv0:=hv
  obtain ⟨q,o,cap,hve,hq,hcl⟩:=hv
  refine yQ (ad:=some ⟨q,o,none⟩) (len:=l.length) (cap:=cap) hsl (by simp (disch:=(try simp only[sP]);omega) only[eV,e1,hve]) ?_
  refine dn ?_
  refine vS (vC (t:=false) zM (fun h=>by cases h) ?_)
  intro _
  refine vK (vN (vX (rM (rM ?_))))
  refine q8 (args:=#[dv,v]) ?_ (hc v (some l) U w hv0 dv xs hown hU hb) ?_
  ·simp only[lM]
   simp (disch:=(try simp only[sP]);omega) only[eV,e0,e1]
  intro v' w' hs
  refine rA (dn (vS (vT ?_)))
  exact ⟨by simp only[dF];exact hdf,v',rO zE,hs⟩
theorem k_cnocts (ht:Text P E.wCNBytes 2 12 #[.tmp 4] (wW E)) (hB:xo P E.tB E.tU8 1=true) {o:Option (List UInt8)} (hv:jA w U.u v o) (hn:∀ (n:Nat) (U:Gd) w,n<4294967296->Wr1 P E E.wUvarint U [.int .u32 n] (Go.Km.uvar n) w) (hc:∀ v o (U:Gd) w,jA w U.u v o->Wr1 P E E.wCBytes U [v] (xn true (o.getD [])) w):Wr1 P E E.wCNBytes U [v] (xz true o) w:=by
 intro dv xs hown hU hb
 refine qa.enter ht zS ?_
 intro a hsz hdf harg
 have e0:=harg 0 dv zS
 have e1:=harg 1 (v) zS
 unfold wW
 refine vX (rA (dn ?_))
 have hsl:=rB hB
 refine vS (vX (rM ?_))
 cases o with
 | none =>
  simp only[jA] at hv
  subst hv
  refine yQ (ad:=none) (len:=0) (cap:=0) hsl zA ?_
  refine dn ?_
  refine vS (vC (t:=true) zM ?_ (fun h=>by cases h))
  intro _
  refine vX (rM ?_)
  refine q8 (args:=#[dv,.int .u32 0]) ?_ (hn 0 U w (by decide) dv xs hown hU hb) ?_
  ·simp only[lM]
   simp (disch:=(try simp only[sP]);omega) only[eV,e0]
  intro v' w' hs
  refine rA (dn (vS (vT ?_)))
  exact ⟨by simp only[dF];exact hdf,v',rO zE,hs⟩
 | some l =>
  have hv0:=hv
  obtain ⟨q,o,cap,hve,hq,hcl⟩:=hv
  refine yQ (ad:=some ⟨q,o,none⟩) (len:=l.length) (cap:=cap) hsl (by simp (disch:=(try simp only[sP]);omega) only[eV,e1,hve]) ?_
  refine dn ?_
  refine vS (vC (t:=false) zM (fun h=>by cases h) ?_)
  intro _
  refine vK (vN (vX (rM (rM ?_))))
  refine q8 (args:=#[dv,v]) ?_ (hc v (some l) U w hv0 dv xs hown hU hb) ?_
  ·simp only[lM]
   simp (disch:=(try simp only[sP]);omega) only[eV,e0,e1]
  intro v' w' hs
  refine rA (dn (vS (vT ?_)))
  exact ⟨by simp only[dF];exact hdf,v',rO zE,hs⟩
theorem k_nstr (ht:Text P E.wNStr 2 14 #[.tmp 4] (c_wNStr E)) {te:TypeId} (hp9:P.underlying E.tPStr=some (.pointer te)) (ho:qW P E.tStr=true) {o:Option (List UInt8)} (hv:yi w U.u v o) (hn:∀ n (U:Gd) w,Wr1 P E E.wI16 U [.int .i16 n] (be 2 n) w) (hc:∀ l (U:Gd) w,Wr1 P E E.wStr U [.string ⟨l.toArray⟩] (ze false l) w):Wr1 P E E.wNStr U [v] (xV false o) w:=by
 intro dv xs hown hU hb
 refine qa.enter ht zS ?_
 intro a hsz hdf harg
 have e0:=harg 0 dv zS
 have e1:=harg 1 (v) zS
 unfold c_wNStr
 refine vX (rA (dn (vS (vX (rM ?_)))))
 cases o with
 | none =>
  simp only[yi] at hv
  subst hv
  refine gE (ad:=none) hp9 zA ?_
  refine dn ?_
  refine vS (vC (t:=true) zM ?_ (fun h=>by cases h))
  intro _
  refine vX (rM ?_)
  refine q8 (args:=#[dv,.int .i16 (-1)]) ?_ (hn (-1) U w dv xs hown hU hb) ?_
  ·simp only[lM]
   simp (disch:=(try simp only[sP]);omega) only[eV,e0]
  intro v' w' hs
  refine rA (dn (vS (vT ?_)))
  exact ⟨by simp only[dF];exact hdf,v',rO zE,hs⟩
 | some l =>
  obtain ⟨q,hve,hq,hcl⟩:=hv
  refine gE (ad:=some ⟨q,0,none⟩) hp9 (by simp (disch:=(try simp only[sP]);omega) only[eV,e1,hve]) ?_
  refine dn ?_
  refine vS (vC (t:=false) zM (fun h=>by cases h) ?_)
  intro _
  refine vK (vN (vX (rM (rM ?_))))
  refine xe (ad:=⟨q,0,none⟩) (by simp (disch:=(try simp only[sP]);omega) only[eV,e1,hve]) ?_
  refine rL (b:=q) (o:=0) zE ho hcl ?_
  refine q8 (args:=#[dv,.string ⟨l.toArray⟩]) ?_ (hc l U w dv xs hown hU hb) ?_
  ·simp only[lM]
   simp (disch:=(try simp only[sP]);omega) only[eV,e0]
  intro v' w' hs
  refine rA (dn (vS (vT ?_)))
  exact ⟨by simp only[dF];exact hdf,v',rO zE,hs⟩
theorem k_cnstr (ht:Text P E.wCNStr 2 14 #[.tmp 4] (c_wCNStr E)) {te:TypeId} (hp9:P.underlying E.tPStr=some (.pointer te)) (ho:qW P E.tStr=true) {o:Option (List UInt8)} (hv:yi w U.u v o) (hn:∀ (n:Nat) (U:Gd) w,n<4294967296->Wr1 P E E.wUvarint U [.int .u32 n] (Go.Km.uvar n) w) (hc:∀ l (U:Gd) w,Wr1 P E E.wCStr U [.string ⟨l.toArray⟩] (ze true l) w):Wr1 P E E.wCNStr U [v] (xV true o) w:=by
 intro dv xs hown hU hb
 refine qa.enter ht zS ?_
 intro a hsz hdf harg
 have e0:=harg 0 dv zS
 have e1:=harg 1 (v) zS
 unfold c_wCNStr
 refine vX (rA (dn (vS (vX (rM ?_)))))
 cases o with
 | none =>
  simp only[yi] at hv
  subst hv
  refine gE (ad:=none) hp9 zA ?_
  refine dn ?_
  refine vS (vC (t:=true) zM ?_ (fun h=>by cases h))
  intro _
  refine vX (rM ?_)
  refine q8 (args:=#[dv,.int .u32 0]) ?_ (hn 0 U w (by decide) dv xs hown hU hb) ?_
  ·simp only[lM]
   simp (disch:=(try simp only[sP]);omega) only[eV,e0]
  intro v' w' hs
  refine rA (dn (vS (vT ?_)))
  exact ⟨by simp only[dF];exact hdf,v',rO zE,hs⟩
 | some l =>
  obtain ⟨q,hve,hq,hcl⟩:=hv
  refine gE (ad:=some ⟨q,0,none⟩) hp9 (by simp (disch:=(try simp only[sP]);omega) only[eV,e1,hve]) ?_
  refine dn ?_
  refine vS (vC (t:=false) zM (fun h=>by cases h) ?_)
  intro _
  refine vK (vN (vX (rM (rM ?_))))
  refine xe (ad:=⟨q,0,none⟩) (by simp (disch:=(try simp only[sP]);omega) only[eV,e1,hve]) ?_
  refine rL (b:=q) (o:=0) zE ho hcl ?_
  refine q8 (args:=#[dv,.string ⟨l.toArray⟩]) ?_ (hc l U w dv xs hown hU hb) ?_
  ·simp only[lM]
   simp (disch:=(try simp only[sP]);omega) only[eV,e0]
  intro v' w' hs
  refine rA (dn (vS (vT ?_)))
  exact ⟨by simp only[dF];exact hdf,v',rO zE,hs⟩
theorem k_uuid (ht:Text P E.wUuid 2 8 #[.tmp 4] (c_wUuid E)) (hB:xo P E.tB E.tU8 1=true) (hl:l.length=16) (hu:P.underlying E.tUuid=some (.array 16 E.tU8)) (hu8:(P.info? E.tU8).map (·.size)=some 1):Wr1 P E E.wUuid U [.agg (l.map bv).toArray] l w:=by
 intro dv xs hown hU hb
 refine qa.enter ht zS ?_
 intro a hsz hdf harg
 have e0:=harg 0 dv zS
 have e1:=harg 1 (.agg (l.map bv).toArray) zS
 unfold c_wUuid
 refine vX ?_
 refine xN (v:=.agg (l.map bv).toArray) zA ?_
 refine rA (dn (vX (rM ?_)))
 refine r_sliceArr (b:=w.heap.size) (n:=16) hu hu8 zE ?_
 refine jT (sz:=1) (U:=U) (v:=dv) (n:=xs.length) (xs:=xs.map bv) (u:=.slice (some ⟨w.heap.size,0,none⟩) 16 16) (m:=16) (news:=l.map bv) hB zA zE (hown.alloc _) (by simp;omega) ?_ zH ?_
 ·refine zh (rB hB) ?_ (by simp[hl]) (xH l)
  intro j u hu
  rw[Nat.zero_add]
  exact qm w _ _ (by simpa [Value.cells] using hu)
 intro v' w' h1 h2
 rw[show xs.length+16=(xs++l).length by simp[hl],← List.map_append] at h1
 refine rA (dn (vS (vT ?_)))
 exact ⟨by simp only[dF];exact hdf,v',rO zE,⟨h1,((Below.refl U w).alloc (o:=.cells _ E.tUuid) hU).trans h2⟩⟩
end
def vM (n k:Nat):Prop:=n<2 ^ k/\(k=0\/2 ^ (k-1)<=n)
def tab8:List UInt8:=[0,1,2,2,3,3,3,3,4,4,4,4,4,4,4,4,5,5,5,5,5,5,5,5,5,5,5,5,5,5,5,5,6,6,6,6,6,6,6,6,6,6,6,6,6,6,6,6,6,6,6,6,6,6,6,6,6,6,6,6,6,6,6,6,7,7,7,7,7,7,7,7,7,7,7,7,7,7,7,7,7,7,7,7,7,7,7,7,7,7,7,7,7,7,7,7,7,7,7,7,7,7,7,7,7,7,7,7,7,7,7,7,7,7,7,7,7,7,7,7,7,7,7,7,7,7,7,7,8,8,8,8,8,8,8,8,8,8,8,8,8,8,8,8,8,8,8,8,8,8,8,8,8,8,8,8,8,8,8,8,8,8,8,8,8,8,8,8,8,8,8,8,8,8,8,8,8,8,8,8,8,8,8,8,8,8,8,8,8,8,8,8,8,8,8,8,8,8,8,8,8,8,8,8,8,8,8,8,8,8,8,8,8,8,8,8,8,8,8,8,8,8,8,8,8,8,8,8,8,8,8,8,8,8,8,8,8,8,8,8,8,8,8,8,8,8,8,8,8,8,8,8,8,8,8,8]
def tabU:List UInt8:=[1,1,1,1,1,1,1,1,2,2,2,2,2,2,2,3,3,3,3,3,3,3,4,4,4,4,4,4,4,5,5,5,5,5,5,5,6,6,6,6,6,6,6,7,7,7,7,7,7,7,8,8,8,8,8,8,8,9,9,9,9,9,9,9,10,0,0,0,0,0,0,0,0,0,0,0,0,0,0,0,0,0,0,0,0,0,0,0,0,0,0,0,0,0,0,0,0,0,0,0,0,0,0,0,0,0,0,0,0,0,0,0,0,0,0,0,0,0,0,0,0,0,0,0,0,0,0,0,0,0,0,0,0,0,0,0,0,0,0,0,0,0,0,0,0,0,0,0,0,0,0,0,0,0,0,0,0,0,0,0,0,0,0,0,0,0,0,0,0,0,0,0,0,0,0,0,0,0,0,0,0,0,0,0,0,0,0,0,0,0,0,0,0,0,0,0,0,0,0,0,0,0,0,0,0,0,0,0,0,0,0,0,0,0,0,0,0,0,0,0,0,0,0,0,0,0,0,0,0,0,0,0,0,0,0,0,0,0,0,0,0,0,0,0,0,0,0,0,0,0,0,0,0,0,0,0]
theorem tab_at (T:List UInt8) (h':(List.range 256).all (fun x=>match T[x]? with | some b=>decide (x<2 ^ b.toNat)&&(decide (b.toNat=0)||decide (2 ^ (b.toNat-1)<=x))&&decide (b.toNat<=8) | none=>false)=true) (x:Nat) (hx:x<256):
  ∃ b,(⟨T.toArray⟩:ByteArray)[x]? = some b/\vM x b.toNat/\b.toNat<=8:=by
 have h2:=List.all_eq_true.1 h' x (List.mem_range.2 hx)
 cases hb:T[x]? with
 | none=>rw[hb] at h2;cases h2
 | some b =>
  rw[hb] at h2
  simp only[Bool.and_eq_true,Bool.or_eq_true,decide_eq_true_eq] at h2
  refine ⟨b,?_,h2.1,h2.2⟩
  have hs:x<T.length:=by
   rcases Nat.lt_or_ge x T.length with h | h
   ·exact h
   ·rw[List.getElem?_eq_none h] at hb;cases hb
  rw[getElem?_pos _ _ (by simpa [ByteArray.size] using hs)]
  rw[List.getElem?_eq_getElem hs] at hb
  exact hb
theorem tab8_at (x:Nat) (hx:x<256):∃ b,(⟨tab8.toArray⟩:ByteArray)[x]? = some b/\vM x b.toNat/\b.toNat<=8:=tab_at tab8 (by kernel_rfl) x hx
theorem tabV_at (T:List UInt8) (h':(List.range 33).all (fun k=>match T[k]? with | some b=>decide (b.toNat=if k<=7 then 1 else if k<=14 then 2 else if k<=21 then 3 else if k<=28 then 4 else 5) | none=>false)=true) (k:Nat) (hk:k<=32):
  ∃ b,(⟨T.toArray⟩:ByteArray)[k]? = some b/\b.toNat=if k<=7 then 1 else if k<=14 then 2 else if k<=21 then 3 else if k<=28 then 4 else 5:=by
 have h2:=List.all_eq_true.1 h' k (List.mem_range.2 zH)
 cases hb:T[k]? with
 | none=>rw[hb] at h2;cases h2
 | some b =>
  rw[hb] at h2
  refine ⟨b,?_,of_decide_eq_true h2⟩
  have hs:k<T.length:=by
   rcases Nat.lt_or_ge k T.length with h | h
   ·exact h
   ·rw[List.getElem?_eq_none h] at hb;cases hb
  rw[getElem?_pos _ _ (by simpa [ByteArray.size] using hs)]
  rw[List.getElem?_eq_getElem hs] at hb
  exact hb
theorem tabU_at (k:Nat) (hk:k<=32):∃ b,(⟨tabU.toArray⟩:ByteArray)[k]? = some b/\b.toNat=if k<=7 then 1 else if k<=14 then 2 else if k<=21 then 3 else if k<=28 then 4 else 5:=tabV_at tabU (by kernel_rfl) k hk
def uvl (n:Nat):Nat:=if n<128 then 1 else if n<16384 then 2 else if n<2097152 then 3 else if n<268435456 then 4 else 5
theorem kN (hn:n<4294967296):(uvl n=1/\n<128)\/(uvl n=2/\128<=n/\n<16384)\/(uvl n=3/\16384<=n/\n<2097152)\/(uvl n=4/\2097152<=n/\n<268435456)\/(uvl n=5/\268435456<=n/\n<4294967296):=by
 unfold uvl
 by_cases h1:n<128
 ·rw[if_pos h1];omega
 rw[if_neg h1]
 by_cases h2:n<16384
 ·rw[if_pos h2];omega
 rw[if_neg h2]
 by_cases h3:n<2097152
 ·rw[if_pos h3];omega
 rw[if_neg h3]
 by_cases h4:n<268435456
 ·rw[if_pos h4];omega
 rw[if_neg h4];omega
theorem uvl_bit (h:vM n k) (hk:k<=32):(if k<=7 then 1 else if k<=14 then 2 else if k<=21 then 3 else if k<=28 then 4 else 5)=uvl n:=by
 obtain ⟨h1,h2⟩:=h
 have hp:∀ i j:Nat,i<=j->(2:Nat) ^ i<=2 ^ j:=fun i j h=>Nat.pow_le_pow_right (by decide) h
 unfold uvl
 by_cases h7:k<=7
 ·have:=hp k 7 h7
  simp[h7,show n<128 by omega]
 ·have a1:=hp 7 (k-1) zH
  by_cases h14:k<=14
  ·have:=hp k 14 h14
   simp[h7,h14,show ¬ n<128 by omega,show n<16384 by omega]
  ·have a2:=hp 14 (k-1) zH
   by_cases h21:k<=21
   ·have:=hp k 21 h21
    simp[h7,h14,h21,show ¬ n<128 by omega,show ¬ n<16384 by omega,show n<2097152 by omega]
   ·have a3:=hp 21 (k-1) zH
    by_cases h28:k<=28
    ·have:=hp k 28 h28
     simp[h7,h14,h21,h28,show ¬ n<128 by omega,show ¬ n<16384 by omega,show ¬ n<2097152 by omega,show n<268435456 by omega]
    ·have a4:=hp 28 (k-1) zH
     simp[h7,h14,h21,h28,show ¬ n<128 by omega,show ¬ n<16384 by omega,show ¬ n<2097152 by omega,show ¬ n<268435456 by omega]
theorem bit_shift {m:Nat} (hb:b<=24) (hm:m=n / 2 ^ b) (hL:vM m L) (h8:L<=8) (h1:b=0\/1<=m):vM n (b+L):=by
 obtain ⟨h2,h3⟩:=hL
 have hpos:0<2 ^ b:=Nat.pow_pos (by decide)
 refine ⟨?_,?_⟩
 ·rw[Nat.pow_add,Nat.mul_comm]
  rw[hm] at h2
  exact (Nat.div_lt_iff_lt_mul hpos).1 h2
 ·rcases h3 with h3 | h3
  ·subst h3
   rw[Nat.pow_zero] at h2
   rcases h1 with h1 | h1
   ·left;omega
   ·omega
  ·by_cases hL0:L=0
   ·subst hL0
    rw[Nat.pow_zero] at h2
    rcases h1 with h1 | h1
    ·left;omega
    ·omega
   ·right
    rw[show b+L-1=(L-1)+b by omega,Nat.pow_add]
    rw[hm] at h3
    exact (Nat.le_div_iff_mul_le hpos).1 h3
def noG (l:List Oper):Bool:=l.all fun o=>o.guard.isNone
theorem vc_rg' {l:List Oper} (hg:noG l=true) (h:rO_ P Q l a w):vc P (rg l) Q a w :=
 vR (fun o ho=>by have:=List.all_eq_true.1 hg o ho;simpa using this) h
theorem r_andN {d xt x c yt ty p af g} (hx:a.eval x=.int .u32 (n:Int)) (hc:c=.const (.int .u32 127)) (hn:n<4294967296) (h:rO_ P Q r (a.put (some d) (.int .u32 ((n % 128:Nat):Int))) w):rO_ P Q (⟨some d,.binOp .and xt x c yt,ty,p,af,g⟩::r) a w:=by
 subst hc
 refine vu (v:=.int .u32 ((n % 128:Nat):Int)) hx rfl zS ?_ h
 have:=u32_and_nat n 127 hn (by decide)
 rw[show n &&& 127=n % 128 from Nat.and_two_pow_sub_one_eq_mod n 7] at this
 show (pure (Value.int .u32 (bits .and .u32 (n:Int) 127)):Sem Value)=_
 rw[show (127:Int)=((127:Nat):Int) from rfl,this]
theorem r_orN {d xt x c yt ty p af g} (hx : a.eval x = .int .u32 (n : Int)) (hc : c = .const (.int .u32 128)) (hn : n < 128) (h : rO_ P Q r (a.put (some d) (.int .u32 ((n + 128 : Nat) : Int))) w): rO_ P Q (⟨some d, .binOp .or xt x c yt, ty, p, af, g⟩ :: r) a w := by
  subst hc
  refine vu (v := .int .u32 ((n + 128 : Nat) : Int)) hx rfl zS ?_ h
  have := u32_or_nat n 128 zH (by decide)
  rw [show n ||| 128 = n + 128 by have : ∀ n, n < 128 → n ||| 128 = n + 128 := by decide
                                  exact this n hn] at this
  show (pure (Value.int .u32 (bits .or .u32 (n : Int) 128)) : Sem Value) = _
  rw [show (128 : Int) = ((128 : Nat) : Int) from rfl, this]
theorem ki {d xt x c yt ty p af g} {mm:Nat} (hx:a.eval x=.int .u32 (n:Int)) (hc:c=.const (.int .u64 (k:Int))) (hm:2 ^ (min k 32)=mm) (h:rO_ P Q r (a.put (some d) (.int .u32 ((n / mm:Nat):Int))) w):rO_ P Q (⟨some d,.binOp .shr xt x c yt,ty,p,af,g⟩::r) a w:=by
 subst hc
 subst hm
 refine r_shr hx rfl zS ?_
 have:(n:Int).fdiv (2 ^ (min ((k:Int).toNat) IntKind.u32.bits))=((n / 2 ^ (min k 32):Nat):Int):=by
  rw[Int.fdiv_eq_ediv_of_nonneg _ (Int.le_of_lt (Int.pow_pos (by decide)))]
  simp[IntKind.bits]
 rw[this]
 exact h
set_option maxRecDepth 20000 in
theorem k_len32 (ht:Text P E.len32 1 19 #[.tmp 2] (wl E)) (i8:qu P E.tU8=some .u8) (iu:qu P E.tW=some .u32) (ii:qu P E.tI=some .i64) (hs9:P.underlying E.tStr=some .string) (hn:n<4294967296):
  qa P E.len32 #[.int .u32 n] w fun v w'=>(∃ k:Nat,v=.int .i64 k/\k<=32/\vM n k)/\w'=w:=by
 refine qa.enter ht zS ?_
 intro a hsz hdf harg
 have e0:=harg 0 (.int .u32 n) zS
 unfold wl
 refine vX (rA (dn ?_))
 have t2:∀ (A:Act) (b m:Nat),A.tmps.size=19->A.defers=[]->A.eval (.tmp 0)=.int .u32 (m:Int)->A.eval (.tmp 2)=.int .i64 (b:Int)->b<=24->m=n / 2 ^ b->m<256->(b=0\/1<=m) →
   vc P (sq [(rg [(qM 13 2 E.tI),(qM 14 0 E.tW),(oQ 15 (.convert E.tW E.tU8 (.tmp 14)) E.tU8),(oQ 16 (.index E.tStr (.const (.string ⟨tab8.toArray⟩)) (.tmp 15)) E.tU8),
    (oQ 17 (.convert E.tU8 E.tI (.tmp 16)) E.tI),(qB 18 .add E.tI 13 17 E.tI),(qA 2 18 E.tI)]),.ret]) (Out P #[.tmp 2] fun v w'=>(∃ k:Nat,v=.int .i64 k/\k<=32/\vM n k)/\w'=w) A w:=by
  intro A b m hs hd h0 h2 hb hm h256 hb1
  obtain ⟨L,hL,hbl,hL8⟩:=tab8_at m h256
  refine vX (rM (rM ?_))
  refine qY (by assumption) (by assumption) zM ?_
  refine yP (k:=.u8) (j:=m) (b:=L) (s:=⟨tab8.toArray⟩) hs9 (xr _ _) ?_ hL ?_
  ·simp (disch:=(try simp only[sP]);omega) only[eV]
   rw[yj]
   congr 1
   omega
  refine qY (by assumption) (by assumption) zM ?_
  refine z8 (k:=.i64) (m:=b) (n:=(L.toNat:Int)) zA ?_ ?_
  ·simp (disch:=(try simp only[sP]);omega) only[eV]
   rw[wrap_i64 zH zH]
  refine rA (dn (vS (vT ?_)))
  refine ⟨by simp only[dF];exact hd,.int .i64 ((b+L.toNat:Nat):Int),rO ?_,⟨b+L.toNat,rfl,by omega,bit_shift hb hm hbl hL8 hb1⟩,rfl⟩
  simp (disch:=(try simp only[sP]);omega) only[eV]
  rw[wrap_i64 zH zH]
  simp
 have t1:∀ (A:Act) (b m:Nat),A.tmps.size=19->A.defers=[]->A.eval (.tmp 0)=.int .u32 (m:Int)->A.eval (.tmp 2)=.int .i64 (b:Int)->(b=0\/b=16)->m=n / 2 ^ b->m<65536->(b=0\/1<=m) →
   vc P (sq (sq [(rg [(qM 7 0 E.tW),(oQ 8 (.binOp .geq E.tW (.tmp 7) (.const (.int .u32 256)) E.tW) E.tO)]),
    (.cond (.tmp 8) (sq [(rg [(qM 9 0 E.tW),(oQ 10 (.binOp .shr E.tW (.tmp 9) (.const (.int .u64 8)) E.tUint) E.tW),(qA 0 10 E.tW)]),
     (rg [(qM 11 2 E.tI),(qK 12 .add E.tI 11 8 E.tI),(qA 2 12 E.tI)])]) .skip)] ::
    [(rg [(qM 13 2 E.tI),(qM 14 0 E.tW),(oQ 15 (.convert E.tW E.tU8 (.tmp 14)) E.tU8),(oQ 16 (.index E.tStr (.const (.string ⟨tab8.toArray⟩)) (.tmp 15)) E.tU8),
    (oQ 17 (.convert E.tU8 E.tI (.tmp 16)) E.tI),(qB 18 .add E.tI 13 17 E.tI),(qA 2 18 E.tI)]),.ret])) (Out P #[.tmp 2] fun v w'=>(∃ k:Nat,v=.int .i64 k/\k<=32/\vM n k)/\w'=w) A w:=by
  intro A b m hs hd h0 h2 hb hm h16 hb1
  refine vS (vX (rM ?_))
  refine yw zM zM ?_
  refine dn ?_
  refine vS (vC (t:=decide ((m:Int) ≥ 256)) zM ?_ ?_)
  ·intro hge
   simp only[decide_eq_true_eq] at hge
   refine vX (rM ?_)
   refine ki (n:=m) (k:=8) (mm:=256) zA rfl (by decide) ?_
   refine rA (dn (vX (rM ?_)))
   refine z8 zM zM ?_
   refine rA (dn (vN (vN ?_)))
   refine t2 _ (b+8) (m / 256) (by simp only[zP];exact hs) (by simp only[dF];exact hd) zM ?_ zH ?_ zH zH
   ·simp (disch:=(try simp only[sP]);omega) only[eV]
    rw[wrap_i64 zH zH]
    rfl
   ·rw[hm,Nat.pow_add,Nat.div_div_eq_div_mul]
  ·intro hlt
   simp only[decide_eq_false_iff_not] at hlt
   refine vK (vN ?_)
   exact t2 _ b m (by simp only[zP];exact hs) (by simp only[dF];exact hd) zA zA zH hm zH hb1
 refine vS (vX (rM ?_))
 refine yw zM zM ?_
 refine dn ?_
 refine vS (vC (t:=decide ((n:Int) ≥ 65536)) zM ?_ ?_)
 ·intro hge
  simp only[decide_eq_true_eq] at hge
  refine vX (rM ?_)
  refine ki (n:=n) (k:=16) (mm:=65536) zA rfl (by decide) ?_
  refine rA (dn (vX (rA (dn (vN (vN ?_))))))
  exact t1 _ 16 (n / 65536) (by simp only[zP];exact hsz) (by simp only[dF];exact hdf) zM zM zH rfl zH zH
 ·intro hlt
  simp only[decide_eq_false_iff_not] at hlt
  refine vK (vN ?_)
  exact t1 _ 0 n (by simp only[zP];exact hsz) (by simp only[dF];exact hdf) zA zM zH zS zH zH
set_option maxRecDepth 20000 in
theorem k_uvLen (ht:Text P E.uvLen 1 8 #[.tmp 2] (gR E)) (hl:Text P E.len32 1 19 #[.tmp 2] (wl E)) (i8:qu P E.tU8=some .u8) (iu:qu P E.tW=some .u32) (ii:qu P E.tI=some .i64) (hs9:P.underlying E.tStr=some .string) (hn:n<4294967296):
  qa P E.uvLen #[.int .u32 n] w fun v w'=>v=.int .i64 (uvl n:Nat)/\w'=w:=by
 refine qa.enter ht zS ?_
 intro a hsz hdf harg
 have e0:=harg 0 (.int .u32 n) zS
 unfold gR
 refine vX (rA (dn ?_))
 refine vS (vc_rg' rfl ?_)
 refine rM ?_
 refine q8 (args:=#[.int .u32 n]) ?_ (k_len32 hl i8 iu ii hs9 hn) ?_
 ·simp only[lM]
  simp (disch:=(try simp only[sP]);omega) only[eV,e0]
 rintro v w' ⟨⟨k,rfl,hk,hbl⟩,rfl⟩
 obtain ⟨b,hb,hbv⟩:=tabU_at k hk
 rw[uvl_bit hbl hk] at hbv
 refine qY (by assumption) (by assumption) zM ?_
 refine yP (k:=.u8) (j:=k) (b:=b) (s:=⟨tabU.toArray⟩) hs9 (xr _ _) ?_ hb ?_
 ·simp (disch:=(try simp only[sP]);omega) only[eV]
  rw[yj]
  congr 1
  omega
 refine qY (by assumption) (by assumption) zM ?_
 refine rA (dn (vS (vT ?_)))
 refine ⟨by simp only[dF];exact hdf,.int .i64 (uvl n:Nat),rO ?_,rfl,rfl⟩
 have hu5:uvl n<=5:=by have:=kN hn;omega
 simp (disch:=(try simp only[sP]);omega) only[eV]
 rw[hbv,wrap_i64 zH zH]
theorem jK {f:Nat} (h:n<128):uvF (f+1) n=[UInt8.ofNat n]:=by simp[uvF,h]
theorem js {f:Nat} (h:128<=n):uvF (f+1) n=UInt8.ofNat (n % 128+128)::uvF f (n / 128):=by
 simp[uvF,Nat.not_lt.2 h]
theorem o8_nat (n:Nat):o8 (IntKind.u8.wrap (n:Int))=UInt8.ofNat n:=by
 rw[yj]
 unfold o8
 apply UInt8.toNat_inj.1
 rw[UInt8.toNat_ofNat',UInt8.toNat_ofNat']
 omega
theorem uvar_1 (h0:0<=n) (h1:n<128):Go.Km.uvar n=[IntKind.u8.wrap ((n:Nat):Int)].map o8:=by
 simp only[List.map_cons,List.map_nil,o8_nat]
 unfold Go.Km.uvar
 rw[jK zH]
theorem uvar_2 (h0:128<=n) (h1:n<16384):Go.Km.uvar n=[IntKind.u8.wrap ((n % 128+128:Nat):Int),IntKind.u8.wrap ((n / 128:Nat):Int)].map o8:=by
 simp only[List.map_cons,List.map_nil,o8_nat]
 unfold Go.Km.uvar
 rw[js zH]
 rw[jK zH]
theorem uvar_3 (h0:16384<=n) (h1:n<2097152):Go.Km.uvar n=[IntKind.u8.wrap ((n % 128+128:Nat):Int),IntKind.u8.wrap ((n / 128 % 128+128:Nat):Int),IntKind.u8.wrap ((n / 16384:Nat):Int)].map o8:=by
 simp only[List.map_cons,List.map_nil,o8_nat]
 unfold Go.Km.uvar
 rw[js zH]
 rw[js zH]
 rw[jK zH]
 simp only[Nat.div_div_eq_div_mul]
theorem uvar_4 (h0:2097152<=n) (h1:n<268435456):Go.Km.uvar n=[IntKind.u8.wrap ((n % 128+128:Nat):Int),IntKind.u8.wrap ((n / 128 % 128+128:Nat):Int),IntKind.u8.wrap ((n / 16384 % 128+128:Nat):Int),IntKind.u8.wrap ((n / 2097152:Nat):Int)].map o8:=by
 simp only[List.map_cons,List.map_nil,o8_nat]
 unfold Go.Km.uvar
 rw[js zH]
 rw[js zH]
 rw[js zH]
 rw[jK zH]
 simp only[Nat.div_div_eq_div_mul]
theorem uvar_5 (h0:268435456<=n) (h1:n<4294967296):Go.Km.uvar n=[IntKind.u8.wrap ((n % 128+128:Nat):Int),IntKind.u8.wrap ((n / 128 % 128+128:Nat):Int),IntKind.u8.wrap ((n / 16384 % 128+128:Nat):Int),IntKind.u8.wrap ((n / 2097152 % 128+128:Nat):Int),IntKind.u8.wrap ((n / 268435456:Nat):Int)].map o8:=by
 simp only[List.map_cons,List.map_nil,o8_nat]
 unfold Go.Km.uvar
 rw[js zH]
 rw[js zH]
 rw[js zH]
 rw[js zH]
 rw[jK zH]
 simp only[Nat.div_div_eq_div_mul]
def Keep (w:World) (v v':Value) (w':World):Prop:=(∀ k,k<w.heap.size->v.ownBlock≠some k->w'.heap[k]? = w.heap[k]?)/\∀ g,v'.ownBlock=some g->v.ownBlock=some g\/w.heap.size<=g
def Wr1K (P:Program) (E:Env) (F:FuncId) (U:Nat) (args:List Value) (bs:List UInt8) (w:World):Prop :=
 ∀ dv (xs:List UInt8),w.ownsRow U E.tU8 1 dv xs.length (xs.map bv)->U<=w.heap.size->xs.length+bs.length<=big →
  qa P F (#[dv]++args.toArray) w fun v' w'=>w'.ownsRow U E.tU8 1 v' (xs++bs).length ((xs++bs).map bv)/\Below U w w'/\Keep w dv v' w'
theorem _root_.Go.World.ownsG.keep {U:Gd} {e:Nat} {v':Value} (h:w.ownsG U e s v n xs) (hk:Keep w v v' w'):KeptG w' U.g e:=by
 intro b o hb
 obtain ⟨h1,h2⟩:=h.kept b o hb
 refine ⟨?_,h2⟩
 rw[hk.1 b (Array.getElem?_eq_some_iff.1 h1).1 (fun e1=>?_)]
 ·exact h1
 ·rcases h.own.2 with ⟨rfl,_⟩ | ⟨g,cap,cur,rfl,_,h3,_⟩
  ·cases e1
  ·simp only[Value.ownBlock,Option.some.injEq] at e1
   subst e1
   rw[h1] at h3
   exact h2 cur (Option.some.inj h3)
theorem Wr1K.one {U:Gd} {args:List Value} {bs:List UInt8} (h:Wr1K P E F U.u args bs w):Wr1 P E F U args bs w :=
 fun dv xs h1 h2 h3=>(h dv xs h1.own h2 h3).mono fun _ _ ⟨a,b,c⟩=>⟨⟨a,h1.keep c⟩,b⟩
theorem r_appendK {d s x t tx ty p af g e sz U v n xs u m news} (hB:xo P t e sz=true) (hs:a.eval s=v) (hx:a.eval x=u) (hown:w.ownsRow U e sz v n xs) (hU:U<=w.heap.size) (hsrc:Src P sz tx u m news w) (hb:n+m<=big) (h:∀ v' w',w'.ownsRow U e sz v' (n+m) (xs++news)->Below U w w'->Keep w v v' w'->rO_ P Q r (a.put (some d) v') w'):
  rO_ P Q (⟨some d,.call { callee:=.builtin .append,args:=#[s,x],argTypes:=#[t,tx] },ty,p,af,g⟩::r) a w:=by
 refine st ?_
 obtain ⟨v',w',hr,h1,h2,h3⟩:=jE w U t tx ty e sz hB v n xs hown u m news hsrc hb hU
 subst hs;subst hx
 simp only[Oper.wp,execOp,resolve,invoke,builtin,Sem.run_bind,Sem.run_pure,Result.andThen_ok,List.map_toArray,List.map_cons,List.map_nil,hr,Oper.upon_value]
 exact h v' w' h1 (kb hown h2 hU) ⟨fun k hk hne=>h2.block k hk (fun e=>hne e.symm),h3⟩
theorem yu {d d2:Nat} {t n ps ty p af g ty2 p2 af2 g2 e U v} {xs:List UInt8} {zs:List Int} (hB:xo P t e 1=true) (hp:(ps.map fun (x:Nat × Operand)=>(x.1,a.eval x.2)).toList=((zs.map fun z=>Value.int .u8 z).zipIdx 0).map fun x=>(x.2,x.1)) (h8:∀ z ∈ zs,0<=z/\z<256) (hn:zs.length=n) (hlim:n<=1000) (hn0:0<n) (hs:a.eval (.tmp s)=v) (hsd:d≠s) (hd:d<a.tmps.size) (hown:w.ownsRow U e 1 v xs.length (xs.map bv)) (hU:U<=w.heap.size) (hb:xs.length+n<=big) (h:∀ v' w',w'.ownsRow U e 1 v' (xs++zs.map o8).length ((xs++zs.map o8).map bv)->Below U w w'/\Keep w v v' w'->rO_ P Q r ((a.put (some d) (.slice (some ⟨w.heap.size,0,none⟩) n n)).put (some d2) v') w'):
  rO_ P Q (⟨some d,.buildSlice t n ps,ty,p,af,g⟩::⟨some d2,.call { callee:=.builtin .append,args:=#[.tmp s,.tmp d],argTypes:=#[t,t] },ty2,p2,af2,g2⟩::r) a w:=by
 refine xM (s:=1) (vs:=zs.map fun z=>.int .u8 z) hB hp (by simpa using hn) (by intro v hv;obtain ⟨z,_,rfl⟩:=List.mem_map.1 hv;rfl) zH hn0 ?_
 have hcs:((zs.map fun z=>Value.int .u8 z).flatMap fun v=>v.cells.toList)=(zs.map o8).map bv:=by
  rw[map_o8 h8,flat_u8]
 rw[hcs]
 refine r_appendK (sz:=1) (m:=n) (U:=U) (v:=v) (n:=xs.length) (xs:=xs.map bv) (news:=(zs.map o8).map bv) hB (by rw[qj _ _ _ _ hsd];exact hs) (qE _ _ _ hd) (hown.alloc _) (by simp;omega) ?_ hb ?_
 ·refine zh (rB hB) ?_ (by simp[hn]) (xH _)
  intro j u hu
  rw[Nat.zero_add]
  exact qm w _ e (by simpa using hu)
 ·intro v' w' h1 h2 h3
  refine h v' w' (by simpa [hn] using h1) ⟨((Below.refl U w).alloc (o:=.cells _ e) hU).trans h2,fun k hk hne=>?_,fun g hg=>?_⟩
  ·rw[h3.1 k (by simp;omega) hne]
   exact Below.heap_alloc w _ k hk
  ·rcases h3.2 g hg with h | h
   ·exact .inl h
   ·exact .inr (by simp at h;omega)
theorem k_uvarK (ht:Text P E.wUvarint 2 93 #[.tmp 4] (yS E)) (htl:Text P E.uvLen 1 8 #[.tmp 2] (gR E)) (hl:Text P E.len32 1 19 #[.tmp 2] (wl E)) (hB:xo P E.tB E.tU8 1=true) (i8:qu P E.tU8=some .u8) (iu:qu P E.tW=some .u32) (ii:qu P E.tI=some .i64) (hs9:P.underlying E.tStr=some .string) (hn:n<4294967296):Wr1K P E E.wUvarint U [.int .u32 n] (Go.Km.uvar n) w:=by
 intro dv xs hown hU hb
 refine qa.enter ht zS ?_
 intro a hsz hdf harg
 have e0:=harg 0 dv zS
 have e1:=harg 1 (.int .u32 n) zS
 unfold yS
 refine vX (rA (dn (vS (vX (rM ?_)))))
 refine q8 (args:=#[.int .u32 n]) ?_ (k_uvLen htl hl i8 iu ii hs9 hn) ?_
 ·simp only[lM]
  simp (disch:=(try simp only[sP]);omega) only[eV,e1]
 rintro v w' ⟨rfl,rfl⟩
 refine dn ?_
 generalize hA:((a.put (some 4) _).put (some 5) _).put (some 6) (.int .i64 ((uvl n:Nat):Int))=A
 have f0:A.eval (.tmp 0)=dv:=by rw[← hA];exact zA
 have f1:A.eval (.tmp 1)=.int .u32 n:=by rw[← hA];exact zA
 have f6:A.eval (.tmp 6)=.int .i64 ((uvl n:Nat):Int):=by rw[← hA];exact zE
 have fs:A.tmps.size=93:=by rw[← hA];simp only[zP];exact hsz
 have fd:A.defers=[]:=by rw[← hA];simp only[dF];exact hdf
 clear hA
 refine vS (qk ?_)
 refine vX ?_
 refine xG (k:=.i64) (m:=((uvl n:Nat):Int)) (n:=5) zA rfl ?_
 refine rA (dn ?_)
 refine vS (vC (t:=((uvl n:Nat):Int)==5) zM ?_ ?_)
 ·intro hk
  have hk':uvl n=5:=by simp only[beq_iff_eq] at hk;omega
  have hr:268435456<=n/\n<4294967296:=by have:=kN hn;omega
  refine vX (rM (rM ?_))
  refine r_andN zM rfl zH ?_
  refine r_orN zM rfl zH ?_
  refine qY (by assumption) (by assumption) zM ?_
  refine rM ?_
  refine ki (n:=n) (k:=7) (mm:=128) zA rfl (by decide) ?_
  refine r_andN zM rfl zH ?_
  refine r_orN zM rfl zH ?_
  refine qY (by assumption) (by assumption) zM ?_
  refine rM ?_
  refine ki (n:=n) (k:=14) (mm:=16384) zA rfl (by decide) ?_
  refine r_andN zM rfl zH ?_
  refine r_orN zM rfl zH ?_
  refine qY (by assumption) (by assumption) zM ?_
  refine rM ?_
  refine ki (n:=n) (k:=21) (mm:=2097152) zA rfl (by decide) ?_
  refine r_andN zM rfl zH ?_
  refine r_orN zM rfl zH ?_
  refine qY (by assumption) (by assumption) zM ?_
  refine rM ?_
  refine ki (n:=n) (k:=28) (mm:=268435456) zA rfl (by decide) ?_
  refine qY (by assumption) (by assumption) zM ?_
  rw[uvar_5 hr.1 hr.2] at hb ⊢
  refine yu (zs:=[IntKind.u8.wrap ((n % 128+128:Nat):Int),IntKind.u8.wrap ((n / 128 % 128+128:Nat):Int),IntKind.u8.wrap ((n / 16384 % 128+128:Nat):Int),IntKind.u8.wrap ((n / 2097152 % 128+128:Nat):Int),IntKind.u8.wrap ((n / 268435456:Nat):Int)]) hB ?_ (by intro z hz;simp only[List.mem_cons,List.not_mem_nil,or_false] at hz;rcases hz with rfl | rfl | rfl | rfl | rfl<;>exact zj _) rfl zH zH zA zH (by simp only[zP];omega) hown hU (by simpa using hb) ?_
  ·simp only[lM]
   simp (disch:=(try simp only[sP]);omega) only[eV]
   rfl
  intro v' w' h1 h2
  refine rA (dn (vS (vT ?_)))
  exact ⟨by simp only[dF];exact fd,v',rO zE,⟨h1,h2⟩⟩
 ·intro hk5
  generalize hA:((A.put (some _) _).put (some _) _)=B
  have g0:B.eval (.tmp 0)=dv:=by rw[← hA];exact zA
  have g1:B.eval (.tmp 1)=.int .u32 n:=by rw[← hA];exact zA
  have g6:B.eval (.tmp 6)=.int .i64 ((uvl n:Nat):Int):=by rw[← hA];exact zA
  have gs:B.tmps.size=93:=by rw[← hA];simp only[zP];exact fs
  have gd:B.defers=[]:=by rw[← hA];simp only[dF];exact fd
  clear hA f0 f1 f6 fs fd
  revert B
  intro A f0 f1 f6 fs fd
  refine vX ?_
  refine xG (k:=.i64) (m:=((uvl n:Nat):Int)) (n:=4) zA rfl ?_
  refine rA (dn ?_)
  refine vS (vC (t:=((uvl n:Nat):Int)==4) zM ?_ ?_)
  ·intro hk
   have hk':uvl n=4:=by simp only[beq_iff_eq] at hk;omega
   have hr:2097152<=n/\n<268435456:=by have:=kN hn;omega
   refine vX (rM (rM ?_))
   refine r_andN zM rfl zH ?_
   refine r_orN zM rfl zH ?_
   refine qY (by assumption) (by assumption) zM ?_
   refine rM ?_
   refine ki (n:=n) (k:=7) (mm:=128) zA rfl (by decide) ?_
   refine r_andN zM rfl zH ?_
   refine r_orN zM rfl zH ?_
   refine qY (by assumption) (by assumption) zM ?_
   refine rM ?_
   refine ki (n:=n) (k:=14) (mm:=16384) zA rfl (by decide) ?_
   refine r_andN zM rfl zH ?_
   refine r_orN zM rfl zH ?_
   refine qY (by assumption) (by assumption) zM ?_
   refine rM ?_
   refine ki (n:=n) (k:=21) (mm:=2097152) zA rfl (by decide) ?_
   refine qY (by assumption) (by assumption) zM ?_
   rw[uvar_4 hr.1 hr.2] at hb ⊢
   refine yu (zs:=[IntKind.u8.wrap ((n % 128+128:Nat):Int),IntKind.u8.wrap ((n / 128 % 128+128:Nat):Int),IntKind.u8.wrap ((n / 16384 % 128+128:Nat):Int),IntKind.u8.wrap ((n / 2097152:Nat):Int)]) hB ?_ (by intro z hz;simp only[List.mem_cons,List.not_mem_nil,or_false] at hz;rcases hz with rfl | rfl | rfl | rfl<;>exact zj _) rfl zH zH zA zH (by simp only[zP];omega) hown hU (by simpa using hb) ?_
   ·simp only[lM]
    simp (disch:=(try simp only[sP]);omega) only[eV]
    rfl
   intro v' w' h1 h2
   refine rA (dn (vS (vT ?_)))
   exact ⟨by simp only[dF];exact fd,v',rO zE,⟨h1,h2⟩⟩
  ·intro hk4
   generalize hA:((A.put (some _) _).put (some _) _)=B
   have g0:B.eval (.tmp 0)=dv:=by rw[← hA];exact zA
   have g1:B.eval (.tmp 1)=.int .u32 n:=by rw[← hA];exact zA
   have g6:B.eval (.tmp 6)=.int .i64 ((uvl n:Nat):Int):=by rw[← hA];exact zA
   have gs:B.tmps.size=93:=by rw[← hA];simp only[zP];exact fs
   have gd:B.defers=[]:=by rw[← hA];simp only[dF];exact fd
   clear hA f0 f1 f6 fs fd
   revert B
   intro A f0 f1 f6 fs fd
   refine vX ?_
   refine xG (k:=.i64) (m:=((uvl n:Nat):Int)) (n:=3) zA rfl ?_
   refine rA (dn ?_)
   refine vS (vC (t:=((uvl n:Nat):Int)==3) zM ?_ ?_)
   ·intro hk
    have hk':uvl n=3:=by simp only[beq_iff_eq] at hk;omega
    have hr:16384<=n/\n<2097152:=by have:=kN hn;omega
    refine vX (rM (rM ?_))
    refine r_andN zM rfl zH ?_
    refine r_orN zM rfl zH ?_
    refine qY (by assumption) (by assumption) zM ?_
    refine rM ?_
    refine ki (n:=n) (k:=7) (mm:=128) zA rfl (by decide) ?_
    refine r_andN zM rfl zH ?_
    refine r_orN zM rfl zH ?_
    refine qY (by assumption) (by assumption) zM ?_
    refine rM ?_
    refine ki (n:=n) (k:=14) (mm:=16384) zA rfl (by decide) ?_
    refine qY (by assumption) (by assumption) zM ?_
    rw[uvar_3 hr.1 hr.2] at hb ⊢
    refine yu (zs:=[IntKind.u8.wrap ((n % 128+128:Nat):Int),IntKind.u8.wrap ((n / 128 % 128+128:Nat):Int),IntKind.u8.wrap ((n / 16384:Nat):Int)]) hB ?_ (by intro z hz;simp only[List.mem_cons,List.not_mem_nil,or_false] at hz;rcases hz with rfl | rfl | rfl<;>exact zj _) rfl zH zH zA zH (by simp only[zP];omega) hown hU (by simpa using hb) ?_
    ·simp only[lM]
     simp (disch:=(try simp only[sP]);omega) only[eV]
     rfl
    intro v' w' h1 h2
    refine rA (dn (vS (vT ?_)))
    exact ⟨by simp only[dF];exact fd,v',rO zE,⟨h1,h2⟩⟩
   ·intro hk3
    generalize hA:((A.put (some _) _).put (some _) _)=B
    have g0:B.eval (.tmp 0)=dv:=by rw[← hA];exact zA
    have g1:B.eval (.tmp 1)=.int .u32 n:=by rw[← hA];exact zA
    have g6:B.eval (.tmp 6)=.int .i64 ((uvl n:Nat):Int):=by rw[← hA];exact zA
    have gs:B.tmps.size=93:=by rw[← hA];simp only[zP];exact fs
    have gd:B.defers=[]:=by rw[← hA];simp only[dF];exact fd
    clear hA f0 f1 f6 fs fd
    revert B
    intro A f0 f1 f6 fs fd
    refine vX ?_
    refine xG (k:=.i64) (m:=((uvl n:Nat):Int)) (n:=2) zA rfl ?_
    refine rA (dn ?_)
    refine vS (vC (t:=((uvl n:Nat):Int)==2) zM ?_ ?_)
    ·intro hk
     have hk':uvl n=2:=by simp only[beq_iff_eq] at hk;omega
     have hr:128<=n/\n<16384:=by have:=kN hn;omega
     refine vX (rM (rM ?_))
     refine r_andN zM rfl zH ?_
     refine r_orN zM rfl zH ?_
     refine qY (by assumption) (by assumption) zM ?_
     refine rM ?_
     refine ki (n:=n) (k:=7) (mm:=128) zA rfl (by decide) ?_
     refine qY (by assumption) (by assumption) zM ?_
     rw[uvar_2 hr.1 hr.2] at hb ⊢
     refine yu (zs:=[IntKind.u8.wrap ((n % 128+128:Nat):Int),IntKind.u8.wrap ((n / 128:Nat):Int)]) hB ?_ (by intro z hz;simp only[List.mem_cons,List.not_mem_nil,or_false] at hz;rcases hz with rfl | rfl<;>exact zj _) rfl zH zH zA zH (by simp only[zP];omega) hown hU (by simpa using hb) ?_
     ·simp only[lM]
      simp (disch:=(try simp only[sP]);omega) only[eV]
      rfl
     intro v' w' h1 h2
     refine rA (dn (vS (vT ?_)))
     exact ⟨by simp only[dF];exact fd,v',rO zE,⟨h1,h2⟩⟩
    ·intro hk2
     generalize hA:((A.put (some _) _).put (some _) _)=B
     have g0:B.eval (.tmp 0)=dv:=by rw[← hA];exact zA
     have g1:B.eval (.tmp 1)=.int .u32 n:=by rw[← hA];exact zA
     have g6:B.eval (.tmp 6)=.int .i64 ((uvl n:Nat):Int):=by rw[← hA];exact zA
     have gs:B.tmps.size=93:=by rw[← hA];simp only[zP];exact fs
     have gd:B.defers=[]:=by rw[← hA];simp only[dF];exact fd
     clear hA f0 f1 f6 fs fd
     revert B
     intro A f0 f1 f6 fs fd
     refine vX ?_
     refine xG (k:=.i64) (m:=((uvl n:Nat):Int)) (n:=1) zA rfl ?_
     refine rA (dn ?_)
     refine vS (vC (t:=((uvl n:Nat):Int)==1) zM ?_ ?_)
     ·intro hk
      have hk':uvl n=1:=by simp only[beq_iff_eq] at hk;omega
      have hr:0<=n/\n<128:=by have:=kN hn;omega
      refine vX (rM (rM ?_))
      refine qY (by assumption) (by assumption) zM ?_
      rw[uvar_1 hr.1 hr.2] at hb ⊢
      refine yu (zs:=[IntKind.u8.wrap ((n:Nat):Int)]) hB ?_ (by intro z hz;simp only[List.mem_cons,List.not_mem_nil,or_false] at hz;rcases hz with rfl<;>exact zj _) rfl zH zH zA zH (by simp only[zP];omega) hown hU (by simpa using hb) ?_
      ·simp only[lM]
       simp (disch:=(try simp only[sP]);omega) only[eV]
       rfl
      intro v' w' h1 h2
      refine rA (dn (vS (vT ?_)))
      exact ⟨by simp only[dF];exact fd,v',rO zE,⟨h1,h2⟩⟩
     ·intro hk1
      exfalso
      have:uvl n=5\/uvl n=4\/uvl n=3\/uvl n=2\/uvl n=1:=by have:=kN hn;omega
      simp only[beq_eq_false_iff_ne,ne_eq] at hk1 hk2 hk3 hk4 hk5
      omega
theorem k_uvar (ht:Text P E.wUvarint 2 93 #[.tmp 4] (yS E)) (htl:Text P E.uvLen 1 8 #[.tmp 2] (gR E)) (hl:Text P E.len32 1 19 #[.tmp 2] (wl E)) (hB:xo P E.tB E.tU8 1=true) (i8:qu P E.tU8=some .u8) (iu:qu P E.tW=some .u32) (ii:qu P E.tI=some .i64) (hs9:P.underlying E.tStr=some .string) {U:Gd} (hn:n<4294967296):Wr1 P E E.wUvarint U [.int .u32 n] (Go.Km.uvar n) w:=(k_uvarK ht htl hl hB i8 iu ii hs9 hn).one
theorem yv {d x t ty p af g kt vt n} (ht:P.underlying t=some (.map kt vt)) (hx:a.eval x=v) (hv:(v=.map none/\n=0)\/∃ q es clock,v=.map (some q)/\w.heap[q]? = some (.map es clock)/\es.size=n) (h:rO_ P Q r (a.put (some d) (.int .i64 (n:Nat))) w):
  rO_ P Q (⟨some d,.call { callee:=.builtin .len,args:=#[x],argTypes:=#[t] },ty,p,af,g⟩::r) a w:=by
 refine st ?_
 have hr:(Builtin.len_ #[t] ty #[a.eval x]).run P w=.ok (.int .i64 (n:Nat)) w:=by
  rw[hx]
  rcases hv with ⟨rfl,rfl⟩ | ⟨q,es,clock,rfl,hq,rfl⟩
  ·simp[Builtin.len_,run_underlying ht,goInt]
  ·have hg:(getObj q).run P w=.ok (.map es clock) w:=by simp[getObj,Sem.run,hq]
   simp[Builtin.len_,run_underlying ht,goInt,hg]
 simp only[Oper.wp,execOp,resolve,invoke,builtin,Sem.run_bind,Sem.run_pure,Result.andThen_ok,List.map_toArray,List.map_cons,List.map_nil,hr,Oper.upon_value]
 exact h
theorem wO {d f xs ys ty p af g} (h:rO_ P Q r (a.put (some d) (.func (.func f) (xs.map a.eval) (ys.map a.eval))) w):rO_ P Q (⟨some d,.makeFunc (.func f) xs ys,ty,p,af,g⟩::r) a w:=by
 refine st ?_
 simp only[Oper.wp,execOp,Instr.makeFunc,Sem.run_bind,Sem.run_pure,Result.andThen_ok,Oper.upon_value]
 exact h
def mapB (P:Program) (t:TypeId):Bool:=match P.underlying t with | some (.map _ _)=>true | _=>false
theorem mapB_inv {t:TypeId} (h:mapB P t=true):∃ k v,P.underlying t=some (.map k v):=by
 unfold mapB at h
 split at h
 ·rename_i k v hu;exact ⟨k,v,hu⟩
 ·cases h
section
variable {U : Gd}
theorem tags_len {W0:World} {sb:Sb} (h:xx W0 sb B v tags) (hw:Below W0.heap.size W0 w):
  (v=.map none/\tags.length=0)\/∃ q es clock,v=.map (some q)/\w.heap[q]? = some (.map es clock)/\es.size=tags.length:=by
 obtain ⟨_,_,h⟩:=h
 rcases h with ⟨rfl,rfl⟩ | ⟨q,es,clock,rfl,_,hq,hm,_,_,l,hp,hl,_⟩
 ·exact .inl ⟨rfl,rfl⟩
 ·exact .inr ⟨q,es,clock,rfl,by rw[hw.block q hq];exact hm,by rw[← hl.1];exact hp.length_eq⟩
theorem k_tlen (ht:Text P E.tLen 1 8 #[.tmp 2] (c_tLen E)) (ho:qW P E.tTagMap=true) (hf:qh P E.tTags 0=some 0) (hm:mapB P E.tTagMap=true) {W0:World} {sb:Sb} (hcw:w.cell? ⟨b,o,none⟩=some v) (hr:xx W0 sb 0 v tags) (hw:Below W0.heap.size W0 w):
  qa P E.tLen #[.pointer (some ⟨b,o,none⟩)] w fun r w'=>r=.int .i64 (tags.length:Int)/\Grow w w':=by
 refine qa.enter ht zS ?_
 intro a hsz hdf harg
 have e0:=harg 0 (.pointer (some ⟨b,o,none⟩)) zS
 obtain ⟨kt,vt,hu⟩:=mapB_inv hm
 unfold c_tLen
 refine vX (rA (dn (vX (rM ?_))))
 refine xe (ad:=⟨b,o,none⟩) zA ?_
 refine rF (b:=b) (o:=o) zE hf ?_
 refine rL (b:=b) (o:=o) zM ho hcw ?_
 refine yv (v:=v) (n:=tags.length) hu zE (tags_len hr hw) ?_
 refine rA (dn (vS (vT ?_)))
 exact ⟨by simp only[dF];exact hdf,.int .i64 (tags.length:Nat),rO zE,rfl,Eff.refl _ _⟩
theorem k_gAll0 (ht:Text P E.gAll 2 53 #[] (gc E)) (ho:qW P E.tTagMap=true) (hf:qh P E.tTags 0=some 0) (hm:mapB P E.tTagMap=true) {fn:Value} (hcw:w.cell? ⟨b,o,none⟩=some v) (hv:(v=.map none/\(0:Nat)=0)\/∃ q es clock,v=.map (some q)/\w.heap[q]? = some (.map es clock)/\es.size=0):
  qa P E.gAll #[.pointer (some ⟨b,o,none⟩),fn] w fun r w'=>w'=w:=by
 refine qa.enter ht zS ?_
 intro a hsz hdf harg
 have e0:=harg 0 (.pointer (some ⟨b,o,none⟩)) zS
 obtain ⟨kt,vt,hu⟩:=mapB_inv hm
 unfold gc
 refine vS (vX (rM ?_))
 refine xe (ad:=⟨b,o,none⟩) zA ?_
 refine rF (b:=b) (o:=o) zE hf ?_
 refine rL (b:=b) (o:=o) zM ho hcw ?_
 refine yv (v:=v) (n:=0) hu zE hv ?_
 refine xG (k:=.i64) (m:=((0:Nat):Int)) (n:=0) zE rfl ?_
 refine dn ?_
 refine vS (vC (t:=true) zM ?_ (fun h=>by cases h))
 intro _
 refine vT ?_
 refine ⟨by simp only[dF];exact hdf,.tuple #[],?_,rfl⟩
 simp[results]
theorem k_teach0 (ht:Text P E.tEach 2 9 #[.tmp 4] (gT E)) (hta:Text P E.gAll 2 53 #[] (gc E)) (hob:qW P E.tB=true) (ho:qW P E.tTagMap=true) (hf:qh P E.tTags 0=some 0) (hm:mapB P E.tTagMap=true) {W0:World} {sb:Sb} (h0:tags=[]) (hc:w.cell? ⟨b,o,none⟩=some v) (hr:xx W0 sb 0 v tags) (hw:Below W0.heap.size W0 w) {dv:Value} {xs:List UInt8} (hown:w.ownsG ⟨W0.heap.size,G⟩ E.tU8 1 dv xs.length (xs.map bv)):
  qa P E.tEach #[.pointer (some ⟨b,o,none⟩),dv] w fun v' w'=>w'.ownsG ⟨W0.heap.size,G⟩ E.tU8 1 v' (xs++(tags.map qV).flatten).length ((xs++(tags.map qV).flatten).map bv)/\Below W0.heap.size w w':=by
 subst h0
 refine qa.enter ht zS ?_
 intro a hsz hdf harg
 have e0:=harg 0 (.pointer (some ⟨b,o,none⟩)) zS
 have e1:=harg 1 dv zS
 have hdc:dv.cells=#[dv]:=by
  rcases hown.own.2 with ⟨rfl,_⟩ | ⟨g,cap,cur,rfl,_⟩<;>rfl
 have hbl:Below W0.heap.size w (w.alloc (.cells dv.cells E.tB)):=(Below.refl _ w).alloc (o:=.cells _ _) hw.size
 have hw1:Below W0.heap.size W0 (w.alloc (.cells dv.cells E.tB)):=hw.trans hbl
 have hcw:(w.alloc (.cells dv.cells E.tB)).cell? ⟨b,o,none⟩=some v:=by
  rw[((Below.refl w.heap.size w).alloc (o:=.cells dv.cells E.tB) (Nat.le_refl _)).cell (p:=⟨b,o,none⟩) (qi hc)]
  exact hc
 unfold gT
 refine vX ?_
 refine xN (v:=dv) zA ?_
 refine rA (dn (vX (rM ?_)))
 refine wO ?_
 refine q8 (args:=#[.pointer (some ⟨b,o,none⟩),.func (.func E.gEach1) #[] #[.pointer (some ⟨w.heap.size,0,none⟩)]]) ?_ (k_gAll0 hta ho hf hm hcw (tags_len hr hw1)) ?_
 ·simp only[lM]
  simp (disch:=(try simp only[sP]);omega) only[eV,e0]
 rintro v' w' rfl
 refine dn (vX ?_)
 refine rL (b:=w.heap.size) (o:=0) (v:=dv) zE hob (qm w _ _ (by rw[hdc];rfl)) ?_
 refine rA (dn (vS (vT ?_)))
 refine ⟨by simp only[dF];exact hdf,dv,rO zE,?_,hbl⟩
 simpa using hown.alloc _
end
def on (f:Nat) (c:Bool):Bool:=f==0||c
theorem on_inv {f:Nat} {c:Bool} (h:on f c=true) (hf:f≠0):c=true:=by
 simp only[on,Bool.or_eq_true,beq_iff_eq] at h
 exact h.resolve_left hf
def strB (P:Program) (t:TypeId):Bool:=match P.underlying t with | some .string=>true | _=>false
theorem kP {t:TypeId} (h:strB P t=true):P.underlying t=some .string:=by
 unfold strB at h
 split at h
 ·assumption
 ·cases h
def arrB (P:Program) (t e:TypeId) (n:Nat):Bool:=match P.underlying t with | some (.array n' e')=>n'==n&&e'==e | _=>false
theorem arrB_inv {t:TypeId} (h:arrB P t e n=true):P.underlying t=some (.array n e):=by
 unfold arrB at h
 split at h
 ·rename_i n' e' hu
  simp only[Bool.and_eq_true,beq_iff_eq] at h
  obtain ⟨rfl,rfl⟩:=h
  exact hu
 ·cases h
def kB (P:Program) (E:Env):Bool :=
 xo P E.tB E.tU8 1&&(qu P E.tU8==some .u8)&&(qu P E.tI==some .i64)&&qW P E.tB&&((P.info? E.tU8).map (·.size)==some 1) &&
 on E.wU16 (qu P E.tU16==some .u16)&&on E.wU32 (qu P E.tW==some .u32)&&on E.wU64 (qu P E.tU64==some .u64) &&
 on E.wI8 (qu P E.tI8==some .i8)&&on E.wI16 (qu P E.tI16==some .i16&&E.wU16 != 0)&&on E.wI32 (qu P E.tI32==some .i32&&E.wU32 != 0)&&on E.wI64 (qu P E.tI64==some .i64&&E.wU64 != 0) &&
 on E.wUvarint (qu P E.tW==some .u32&&strB P E.tStr&&E.uvLen != 0&&E.len32 != 0) &&
 on E.wStr (strB P E.tStr&&E.wI16 != 0)&&on E.wCStr (strB P E.tStr&&E.wUvarint != 0) &&
 on E.wNStr (ptrB P E.tPStr&&qW P E.tStr&&E.wStr != 0&&E.wI16 != 0)&&on E.wCNStr (ptrB P E.tPStr&&qW P E.tStr&&E.wCStr != 0&&E.wUvarint != 0) &&
 on E.wBytes (E.wI32 != 0)&&on E.wCBytes (E.wUvarint != 0)&&on E.wNBytes (E.wBytes != 0&&E.wI32 != 0)&&on E.wCNBytes (E.wCBytes != 0&&E.wUvarint != 0) &&
 on E.wLen (E.wI32 != 0)&&on E.wCLen (E.wUvarint != 0)&&on E.wNLen (E.wI32 != 0)&&on E.wCNLen (E.wUvarint != 0) &&
 on E.wUuid (arrB P E.tUuid E.tU8 16)&&on E.tLen (qW P E.tTagMap&&mapB P E.tTagMap&&qh P E.tTags 0==some 0)&&on E.tEach (qW P E.tTagMap&&mapB P E.tTagMap&&qh P E.tTags 0==some 0&&E.gAll != 0) &&
 on E.wUvarint (qu P E.tW==some .u32)&&(E.wF64==0)
structure KTexts (P:Program) (E:Env):Prop where
 wBool:E.wBool≠0->Text P E.wBool 2 12 #[.tmp 4] (c_wBool E)
 wI8:E.wI8≠0->Text P E.wI8 2 10 #[.tmp 4] (c_wI8 E)
 wI16:E.wI16≠0->Text P E.wI16 2 9 #[.tmp 4] (c_wI16 E)
 wU16:E.wU16≠0->Text P E.wU16 2 13 #[.tmp 4] (c_wU16 E)
 wI32:E.wI32≠0->Text P E.wI32 2 9 #[.tmp 4] (c_wI32 E)
 wU32:E.wU32≠0->Text P E.wU32 2 19 #[.tmp 4] (c_wU32 E)
 wI64:E.wI64≠0->Text P E.wI64 2 9 #[.tmp 4] (c_wI64 E)
 wU64:E.wU64≠0->Text P E.wU64 2 31 #[.tmp 4] (c_wU64 E)
 wUuid:E.wUuid≠0->Text P E.wUuid 2 8 #[.tmp 4] (c_wUuid E)
 wStr:E.wStr≠0->Text P E.wStr 2 13 #[.tmp 4] (c_wStr E)
 wCStr:E.wCStr≠0->Text P E.wCStr 2 14 #[.tmp 4] (c_wCStr E)
 wNStr:E.wNStr≠0->Text P E.wNStr 2 14 #[.tmp 4] (c_wNStr E)
 wCNStr:E.wCNStr≠0->Text P E.wCNStr 2 14 #[.tmp 4] (c_wCNStr E)
 wBytes:E.wBytes≠0->Text P E.wBytes 2 13 #[.tmp 4] (c_wBytes E)
 wCBytes:E.wCBytes≠0->Text P E.wCBytes 2 14 #[.tmp 4] (c_wCBytes E)
 wNBytes:E.wNBytes≠0->Text P E.wNBytes 2 12 #[.tmp 4] (c_wNBytes E)
 wCNBytes:E.wCNBytes≠0->Text P E.wCNBytes 2 12 #[.tmp 4] (wW E)
 wLen:E.wLen≠0->Text P E.wLen 2 9 #[.tmp 4] (c_wLen E)
 wCLen:E.wCLen≠0->Text P E.wCLen 2 10 #[.tmp 4] (c_wCLen E)
 wNLen:E.wNLen≠0->Text P E.wNLen 3 14 #[.tmp 6] (c_wNLen E)
 wCNLen:E.wCNLen≠0->Text P E.wCNLen 3 15 #[.tmp 6] (c_wCNLen E)
 uvLen:E.uvLen≠0->Text P E.uvLen 1 8 #[.tmp 2] (gR E)
 len32:E.len32≠0->Text P E.len32 1 19 #[.tmp 2] (wl E)
 wUvarint:E.wUvarint≠0->Text P E.wUvarint 2 93 #[.tmp 4] (yS E)
 tLen:E.tLen≠0->Text P E.tLen 1 8 #[.tmp 2] (c_tLen E)
 tEach:E.tEach≠0->Text P E.tEach 2 9 #[.tmp 4] (gT E)
 gAll:E.gAll≠0->Text P E.gAll 2 53 #[] (gc E)
theorem envW0 (HT:KTexts P E) (hB:kB P E=true):EnvW P E (fun tags=>tags=[]):=by
 simp only[kB,Bool.and_eq_true,beq_iff_eq,bne_iff_ne,ne_eq] at hB
 obtain ⟨⟨⟨⟨⟨⟨⟨⟨⟨⟨⟨⟨⟨⟨⟨⟨⟨⟨⟨⟨⟨⟨⟨⟨⟨⟨⟨⟨⟨row,u8⟩,ii⟩,ob⟩,s8⟩,oU16⟩,oU32⟩,oU64⟩,oI8⟩,oI16⟩,oI32⟩,oI64⟩,oUv⟩,oStr⟩,oCStr⟩,oNStr⟩,oCNStr⟩,oB⟩,oCB⟩,oNB⟩,oCNB⟩,oL⟩,oCL⟩,oNL⟩,oCNL⟩,oUu⟩,oTl⟩,oTe⟩,oUv2⟩,oF⟩:=hB
 have dec:∀ {f:Nat} {c:Bool},on f c=true->f≠0->c=true:=fun h hf=>on_inv h hf
 have cU16:E.wU16≠0->∀ (n:Int) (U:Gd) w,0<=n/\n<=65535->Wr1 P E E.wU16 U [.int .u16 n] (be 2 n) w:=fun h n U w hn =>
  k_u16 (HT.wU16 h) row (by simpa using dec oU16 h) u8 hn
 have cI16:E.wI16≠0->∀ (n:Int) (U:Gd) w,Wr1 P E E.wI16 U [.int .i16 n] (be 2 n) w:=fun h n U w=>by
  have h2:=dec oI16 h
  simp only[Bool.and_eq_true,beq_iff_eq,bne_iff_ne,ne_eq] at h2
  exact k_i16 (HT.wI16 h) h2.1 (by simpa using dec oU16 h2.2) (cU16 h2.2)
 have cU32:E.wU32≠0->∀ (n:Int) (U:Gd) w,0<=n/\n<=4294967295->Wr1 P E E.wU32 U [.int .u32 n] (be 4 n) w:=fun h n U w hn =>
  k_u32 (HT.wU32 h) row (by simpa using dec oU32 h) u8 hn
 have cI32:E.wI32≠0->∀ (n:Int) (U:Gd) w,Wr1 P E E.wI32 U [.int .i32 n] (be 4 n) w:=fun h n U w=>by
  have h2:=dec oI32 h
  simp only[Bool.and_eq_true,beq_iff_eq,bne_iff_ne,ne_eq] at h2
  exact k_i32 (HT.wI32 h) h2.1 (by simpa using dec oU32 h2.2) (cU32 h2.2)
 have cU64:E.wU64≠0->∀ (n:Int) (U:Gd) w,0<=n/\n<=18446744073709551615->Wr1 P E E.wU64 U [.int .u64 n] (be 8 n) w:=fun h n U w hn =>
  k_u64 (HT.wU64 h) row (by simpa using dec oU64 h) u8 hn
 have cI64:E.wI64≠0->∀ (n:Int) (U:Gd) w,Wr1 P E E.wI64 U [.int .i64 n] (be 8 n) w:=fun h n U w=>by
  have h2:=dec oI64 h
  simp only[Bool.and_eq_true,beq_iff_eq,bne_iff_ne,ne_eq] at h2
  exact k_i64 (HT.wI64 h) h2.1 (by simpa using dec oU64 h2.2) (cU64 h2.2)
 have cUv:E.wUvarint≠0->∀ (n:Nat) (U:Gd) w,n<4294967296->Wr1 P E E.wUvarint U [.int .u32 n] (Go.Km.uvar n) w:=fun h n U w hn=>by
  have h2:=dec oUv h
  simp only[Bool.and_eq_true,beq_iff_eq,bne_iff_ne,ne_eq] at h2
  exact k_uvar (HT.wUvarint h) (HT.uvLen h2.1.2) (HT.len32 h2.2) row u8 h2.1.1.1 ii (kP h2.1.1.2) hn
 have iU32:E.wUvarint≠0->qu P E.tW=some .u32:=fun h=>by simpa using dec oUv2 h
 have iI16:E.wI16≠0->qu P E.tI16=some .i16:=fun h=>by
  have h2:=dec oI16 h
  simp only[Bool.and_eq_true,beq_iff_eq] at h2
  exact h2.1
 have iI32:E.wI32≠0->qu P E.tI32=some .i32:=fun h=>by
  have h2:=dec oI32 h
  simp only[Bool.and_eq_true,beq_iff_eq] at h2
  exact h2.1
 have cStr:E.wStr≠0->∀ (l:List UInt8) (U:Gd) w,Wr1 P E E.wStr U [.string ⟨l.toArray⟩] (ze false l) w:=fun h l U w=>by
  have h2:=dec oStr h
  simp only[Bool.and_eq_true,bne_iff_ne,ne_eq] at h2
  exact k_str (HT.wStr h) row (iI16 h2.2) ii (kP h2.1) (cI16 h2.2)
 have cCStr:E.wCStr≠0->∀ (l:List UInt8) (U:Gd) w,Wr1 P E E.wCStr U [.string ⟨l.toArray⟩] (ze true l) w:=fun h l U w=>by
  have h2:=dec oCStr h
  simp only[Bool.and_eq_true,bne_iff_ne,ne_eq] at h2
  exact k_cstr (HT.wCStr h) row (iU32 h2.2) ii (kP h2.1) (cUv h2.2)
 have cB:E.wBytes≠0->∀ v o (U:Gd) w,jA w U.u v o->Wr1 P E E.wBytes U [v] (xn false (o.getD [])) w:=fun h v o U w hv=>by
  have h2:=dec oB h
  simp only[bne_iff_ne,ne_eq] at h2
  exact k_octs (HT.wBytes h) row (iI32 h2) ii hv (cI32 h2)
 have cCB:E.wCBytes≠0->∀ v o (U:Gd) w,jA w U.u v o->Wr1 P E E.wCBytes U [v] (xn true (o.getD [])) w:=fun h v o U w hv=>by
  have h2:=dec oCB h
  simp only[bne_iff_ne,ne_eq] at h2
  exact k_cocts (HT.wCBytes h) row (iU32 h2) ii hv (cUv h2)
 refine { bytes:=rB row,scal:=?_,uuid:=?_,str:=fun h l U w=>cStr h l U w,cstr:=fun h l U w=>cCStr h l U w,nstr:=?_,cnstr:=?_,octs:=cB,cocts:=cCB,nocts:=?_,cnocts:=?_,len:=?_,clen:=?_,nlen:=?_,cnlen:=?_,uvar:=cUv,tlen:=?_,teach:=?_ }
 ·intro s hs n U w hn
  cases s with
  | bool =>
   have hb:=k_bool (U:=U) (w:=w) (b:=n != 0) (HT.wBool hs) row
   exact hb
  | i8 =>
   have h2:=dec oI8 hs
   simp only[beq_iff_eq] at h2
   exact k_i8 (HT.wI8 hs) row h2 u8
  | i16=>exact cI16 hs n U w
  | i32=>exact cI32 hs n U w
  | i64=>exact cI64 hs n U w
  | u16=>exact cU16 hs n U w hn
  | f64=>exact absurd oF hs
 ·intro h l U w hl
  exact k_uuid (HT.wUuid h) row hl (arrB_inv (dec oUu h)) s8
 ·intro h v o U w hv
  have h2:=dec oNStr h
  simp only[Bool.and_eq_true,bne_iff_ne,ne_eq] at h2
  obtain ⟨te,hte⟩:=gF h2.1.1.1
  exact k_nstr (HT.wNStr h) hte h2.1.1.2 hv (cI16 h2.2) (cStr h2.1.2)
 ·intro h v o U w hv
  have h2:=dec oCNStr h
  simp only[Bool.and_eq_true,bne_iff_ne,ne_eq] at h2
  obtain ⟨te,hte⟩:=gF h2.1.1.1
  exact k_cnstr (HT.wCNStr h) hte h2.1.1.2 hv (cUv h2.2) (cCStr h2.1.2)
 ·intro h v o U w hv
  have h2:=dec oNB h
  simp only[Bool.and_eq_true,bne_iff_ne,ne_eq] at h2
  exact k_nocts (HT.wNBytes h) row hv (cI32 h2.2) (cB h2.1)
 ·intro h v o U w hv
  have h2:=dec oCNB h
  simp only[Bool.and_eq_true,bne_iff_ne,ne_eq] at h2
  exact k_cnocts (HT.wCNBytes h) row hv (cUv h2.2) (cCB h2.1)
 ·intro h n U w hn
  have h2:=dec oL h
  simp only[bne_iff_ne,ne_eq] at h2
  exact k_len (HT.wLen h) (iI32 h2) ii hn (cI32 h2)
 ·intro h n U w hn
  have h2:=dec oCL h
  simp only[bne_iff_ne,ne_eq] at h2
  exact k_clen (HT.wCLen h) (iU32 h2) ii hn (cUv h2)
 ·intro h n b U w hn
  have h2:=dec oNL h
  simp only[bne_iff_ne,ne_eq] at h2
  exact k_nlen (HT.wNLen h) (iI32 h2) ii hn (cI32 h2)
 ·intro h n b U w hn
  have h2:=dec oCNL h
  simp only[bne_iff_ne,ne_eq] at h2
  exact k_cnlen (HT.wCNLen h) (iU32 h2) ii hn (cUv h2)
 ·intro h W0 sb b o v tags w _ hc hr hw
  have h2:=dec oTl h
  simp only[Bool.and_eq_true,beq_iff_eq] at h2
  exact k_tlen (HT.tLen h) h2.1.1 h2.2 h2.1.2 hc hr hw
 ·intro h W0 sb b o v tags w hT hc hr hw G dv xs hown _ hb
  have h2:=dec oTe h
  simp only[Bool.and_eq_true,beq_iff_eq,bne_iff_ne,ne_eq] at h2
  have h0:tags=[]:=by
   have:=hr.2.1
   rw[hT] at this
   exact this
  exact k_teach0 (HT.tEach h) (HT.gAll h2.2) ob h2.1.1.1 h2.1.2 h2.1.1.2 h0 hc hr hw hown
theorem xZ {body:Code} (I:Nat->Act->World->Prop) (n:Nat) (h0:I n a w) (step:∀ m a w,I (m+1) a w->vc P body (Exit.then (I m) Q) a w) (done:∀ a w,I 0 a w->vc P body (Exit.then (fun _ _=>False) Q) a w):vc P (.loop body) Q a w:=by
 classical
 have hmin:∀ (p:Nat->Prop) (m:Nat),p m->∃ k,k<=m/\p k/\∀ j,j<k->¬ p j:=by
  intro p m
  induction m using Nat.strongRecOn with
  | ind m ih =>
   intro hm
   by_cases h:∃ j,j<m/\p j
   ·obtain ⟨j,hj,hp⟩:=h
    obtain ⟨k,hk,hpk,hl⟩:=ih j hj hp
    exact ⟨k,by omega,hpk,hl⟩
   ·exact ⟨m,Nat.le_refl _,hm,fun j hj hp=>h ⟨j,hj,hp⟩⟩
 let μ:Act->World->Nat:=fun a w=>if h:∃ m,I m a w then Classical.choose (hmin (fun m=>I m a w) (Classical.choose h) (Classical.choose_spec h)) else 0
 have hμ:∀ a w,(∃ m,I m a w)->I (μ a w) a w/\∀ j,j<μ a w->¬ I j a w:=by
  intro a w h
  have:=Classical.choose_spec (hmin (fun m=>I m a w) (Classical.choose h) (Classical.choose_spec h))
  have e:μ a w=Classical.choose (hmin (fun m=>I m a w) (Classical.choose h) (Classical.choose_spec h)):=dif_pos h
  rw[e]
  exact ⟨this.2.1,this.2.2⟩
 refine zU (fun a w=>∃ m,I m a w) μ ⟨n,h0⟩ ?_
 intro a w h
 obtain ⟨h1,h2⟩:=hμ a w h
 cases hm:μ a w with
 | zero =>
  rw[hm] at h1
  refine xi _ (done a w h1) ?_
  intro e a' w' h
  cases e<;>first | exact h.elim | exact h
 | succ m =>
  rw[hm] at h1
  refine xi _ (step m a w h1) ?_
  intro e a' w' h
  cases e with
  | normal =>
   refine ⟨⟨m,h⟩,?_⟩
   have:=(hμ a' w' ⟨m,h⟩).2
   rcases Nat.lt_or_ge (μ a' w') (m+1) with h' | h'
   ·exact h'
   ·exact absurd h (this m zH)
  | _=>exact h
theorem be_succ (k:Nat) (n:Int):be (k+1) n=o8 (n.fdiv (256 ^ k) % 256)::be k n:=rfl
theorem shr_be {j:Nat} (hj:j<=7) (n:Int):o8 (IntKind.u8.wrap (n.fdiv (2 ^ (min (IntKind.i64.wrap (8*(j:Int))).toNat IntKind.i64.bits))))=o8 (n.fdiv (256 ^ j) % 256):=by
 rw[yj,wrap_i64 zH zH,show (8*(j:Int)).toNat=8*j by omega,show min (8*j) IntKind.i64.bits=8*j by simp only[IntKind.bits];omega,Int.pow_mul]
 rfl
def vL (P:Program) (E:Env) (F:FuncId) (U:Nat) (args:Array Value) (bs:List UInt8) (w:World):Prop :=
 qa P F args w fun v w'=>w'.ownsRow U E.tU8 1 v bs.length (bs.map bv)/\Below U w w'
theorem j6 (ht:Text P E.sFixed 2 22 #[.tmp 4] (vD E)) (hB:xo P E.tB E.tU8 1=true) (i8:qu P E.tU8=some .u8) (i64:qu P E.tI64=some .i64) (ii:qu P E.tI=some .i64) {n:Int} (hk:k<=8) (hU:U<=w.heap.size):
  vL P E E.sFixed U #[.int .i64 n,.int .i64 k] (be k n) w:=by
 refine qa.enter ht zS ?_
 intro a hsz hdf harg
 have e0:=harg 0 (.int .i64 n) zS
 have e1:=harg 1 (.int .i64 k) zS
 unfold vD
 refine vX (rA (dn (vX (rA (dn (vS (vX (rM ?_))))))))
 refine yX zM zM ?_
 refine rA (dn ?_)
 refine vS (qk (xZ (fun m a' w'=>m<=k/\a'.tmps.size=22/\a'.defers=[]/\a'.eval (.tmp 0)=.int .i64 n/\a'.eval (.tmp 6)=.int .i64 ((m:Int)-1)/\U<=w'.heap.size/\Below U w w' ∧
  ∃ xs:List UInt8,w'.ownsRow U E.tU8 1 (a'.eval (.tmp 5)) xs.length (xs.map bv)/\xs++be m n=be k n) k ?_ ?_ ?_))
 ·refine ⟨Nat.le_refl _,by simp only[zP];exact hsz,by simp only[dF];exact hdf,zA,?_,hU,Below.refl _ _,[],?_,rfl⟩
  ·simp (disch:=(try simp only[sP]);omega) only[eV]
   rw[wrap_i64 zH zH]
  ·rw[show Act.eval _ (.tmp 5)=Value.slice none 0 0 by exact zE]
   exact World.ownsRow_nil _ _ _ _
 ·rintro m A W ⟨hm,hs,hd,h0,h6,hUW,hbl,xs,hown,hxs⟩
  refine vS (vX (rM ?_))
  refine yw zM zM ?_
  refine dn ?_
  refine vS (vC (t:=true) ?_ ?_ (fun h=>by cases h))
  ·simp (disch:=(try simp only[sP]);omega) only[eV]
   simp only[Value.bool.injEq,decide_eq_true_eq]
   omega
  intro _
  refine vK (vN ?_)
  refine vS (qk (vR zS ?_))
  have hm1:(((m+1:Nat):Int)-1)=(m:Int):=by omega
  rw[hm1] at h6
  refine rM (rM (rM ?_))
  refine r_mul (k:=.i64) (m:=8) (n:=(m:Int)) (xr _ _) zA ?_
  refine r_shr (k:=.i64) (m:=n) (k':=.i64) (n:=IntKind.i64.wrap (8*(m:Int))) zA zE (by rw[wrap_i64 zH zH];omega) ?_
  refine qY (by assumption) (by assumption) zM ?_
  refine yp (U:=U) (xs:=xs) (zs:=[IntKind.u8.wrap (n.fdiv (2 ^ (min (IntKind.i64.wrap (8*(m:Int))).toNat IntKind.i64.bits)))]) hB ?_ (by intro z hz;simp only[List.mem_cons,List.not_mem_nil,or_false] at hz;rcases hz with rfl;exact zj _) rfl zH zH rfl zH (by simp only[zP];omega) (v:=_) ?_ hUW ?_ ?_
  ·simp only[lM]
   simp (disch:=(try simp only[sP]);omega) only[eV]
   rfl
  ·simp (disch:=(try simp only[sP]);omega) only[eV]
   exact hown
  ·have:=congrArg List.length hxs
   rw[List.length_append,qO,qO] at this
   unfold big
   omega
  intro v' w' h1 h2
  refine rA (dn (vX (rM ?_)))
  refine yX zM zM ?_
  refine rA (dn (vN ?_))
  rw[List.map_cons,List.map_nil,shr_be zH] at h1
  refine ⟨by omega,by simp only[zP];exact hs,by simp only[dF];exact hd,zA,?_,Nat.le_trans hUW h2.size,hbl.trans h2,xs++[o8 (n.fdiv (256 ^ m) % 256)],?_,?_⟩
  ·simp (disch:=(try simp only[sP]);omega) only[eV]
   rw[wrap_i64 zH zH]
  ·rw[show Act.eval _ (.tmp 5)=v' by exact zE]
   exact h1
  ·rw[← hxs,be_succ]
   simp
 ·rintro A W ⟨hm,hs,hd,h0,h6,hUW,hbl,xs,hown,hxs⟩
  refine vS (vX (rM ?_))
  refine yw zM zM ?_
  refine dn ?_
  refine vS (vC (t:=false) zM (fun h=>by cases h) ?_)
  intro _
  refine xp ?_
  simp only[Exit.then,Exit.inBlock,if_true]
  refine vN (vX (rM (rA (dn (vS (vT ?_))))))
  refine ⟨by simp only[dF];exact hd,A.eval (.tmp 5),rO zE,?_,hbl⟩
  rw[be,List.append_nil] at hxs
  rw[← hxs]
  exact hown
theorem yF {ops:List Oper} (ord:List Nat) (ho:List.range ops.length=ord) (h:qP P ops Q ord a w):vc P (rg ops) Q a w:=by
 subst ho
 exact xQ h
theorem r_and64 {d xt x c yt ty p af g} (hx:a.eval x=.int .u64 (n:Int)) (hc:c=.const (.int .u64 127)) (hn:n<18446744073709551616) (h:rO_ P Q r (a.put (some d) (.int .u64 ((n % 128:Nat):Int))) w):rO_ P Q (⟨some d,.binOp .and xt x c yt,ty,p,af,g⟩::r) a w:=by
 subst hc
 refine vu (v:=.int .u64 ((n % 128:Nat):Int)) hx rfl zS ?_ h
 have:=u64_and_nat n 127 hn (by decide)
 rw[show n &&& 127=n % 128 from Nat.and_two_pow_sub_one_eq_mod n 7] at this
 show (pure (Value.int .u64 (bits .and .u64 (n:Int) 127)):Sem Value)=_
 rw[show (127:Int)=((127:Nat):Int) from rfl,this]
theorem r_rem {d xt x y yt ty p af g k m n} (hx:a.eval x=.int k m) (hy:a.eval y=.int k n) (hn:n≠0) (h:rO_ P Q r (a.put (some d) (.int k (m.tmod n))) w):rO_ P Q (⟨some d,.binOp .rem xt x y yt,ty,p,af,g⟩::r) a w:=by
 refine st ?_
 simp only[Oper.wp,execOp,hx,hy,eqGuard_at_int,binOp_rem,Op.intDiv,hn,if_false,Sem.run_bind,Sem.run_pure,Result.andThen_ok,Oper.upon_value]
 exact h
theorem or128:∀ n:Nat,n<128->n ||| 128=n+128:=by decide
theorem r_or8 {d xt x c yt ty p af g} (hx:a.eval x=.int .u8 (n:Int)) (hc:c=.const (.int .u8 128)) (hn:n<128) (h:rO_ P Q r (a.put (some d) (.int .u8 ((n+128:Nat):Int))) w):rO_ P Q (⟨some d,.binOp .or xt x c yt,ty,p,af,g⟩::r) a w:=by
 subst hc
 refine vu (v:=.int .u8 ((n+128:Nat):Int)) hx rfl zS ?_ h
 have:=u8_or_nat n 128 zH (by decide)
 rw[or128 n hn] at this
 show (pure (Value.int .u8 (bits .or .u8 (n:Int) 128)):Sem Value)=_
 rw[show (128:Int)=((128:Nat):Int) from rfl,this]
theorem r_shr64 {d xt x c yt ty p af g} {mm:Nat} (hx:a.eval x=.int .u64 (n:Int)) (hc:c=.const (.int .u64 (k:Int))) (hm:2 ^ (min k 64)=mm) (h:rO_ P Q r (a.put (some d) (.int .u64 ((n / mm:Nat):Int))) w):rO_ P Q (⟨some d,.binOp .shr xt x c yt,ty,p,af,g⟩::r) a w:=by
 subst hc
 subst hm
 refine r_shr hx rfl zS ?_
 have:(n:Int).fdiv (2 ^ (min ((k:Int).toNat) IntKind.u64.bits))=((n / 2 ^ (min k 64):Nat):Int):=by
  rw[Int.fdiv_eq_ediv_of_nonneg _ (Int.le_of_lt (Int.pow_pos (by decide)))]
  simp[IntKind.bits]
 rw[this]
 exact h
def xJ (k:Nat):Nat:=if k=1 then 1 else if k=2\/k=5 then 2 else if k=3 then 4 else 8
theorem s_width (ht:Text P E.sWidth 1 11 #[.tmp 2] (c_sWidth E)) (hk:k<=11):qa P E.sWidth #[.int .i64 (k:Int)] w fun v w'=>v=.int .i64 (xJ k:Nat)/\w'=w:=by
 refine qa.enter ht zS ?_
 intro a hsz hdf harg
 have e0:=harg 0 (.int .i64 k) zS
 unfold c_sWidth
 (repeat' (first | (refine vS ?_) | (refine vR zS ?_) | (first | refine rM ?_ | refine rA ?_ | refine xG zM zM ?_) | (refine dn ?_) | (refine qk ?_) | (refine vC zM ?_ ?_<;>intro hcnd<;>first | (exfalso;revert hcnd;decide) | skip) | (refine vK ?_)))
 all_goals
  refine vT ?_
  refine ⟨by simp only[dF];exact hdf,_,rO zM,?_,rfl⟩
  unfold xJ
  (repeat' split)<;>first | rfl | (exfalso;simp only[beq_iff_eq,beq_eq_false_iff_ne,ne_eq] at *;omega)
theorem jf (ht:Text P E.lVersion 2 10 #[.tmp 4] (y3 E)) (i8:qu P E.tU8=some .u8) (ii:qu P E.tI=some .i64) {most:Nat} (hn:n<256) (hm:most<32768):
  qa P E.lVersion #[.int .u8 n,.int .i64 most] w fun v w'=>v=.int .i64 ((n % (most+1):Nat):Int)/\w'=w:=by
 refine qa.enter ht zS ?_
 intro a hsz hdf harg
 have e0:=harg 0 (.int .u8 n) zS
 have e1:=harg 1 (.int .i64 most) zS
 unfold y3
 refine vX (rA (dn (vX (rM ?_))))
 refine qY (by assumption) (by assumption) zM ?_
 refine rM ?_
 refine z8 zM zM ?_
 have h1:IntKind.i64.wrap ((n:Nat):Int)=n:=wrap_i64 zH zH
 have h2:IntKind.i64.wrap ((most:Int)+1)=((most+1:Nat):Int):=by rw[wrap_i64 zH zH];omega
 rw[h1,h2]
 refine r_rem (k:=.i64) (m:=(n:Int)) (n:=((most+1:Nat):Int)) zE zE zH ?_
 refine rA (dn (vS (vT ?_)))
 refine ⟨by simp only[dF];exact hdf,_,rO zM,?_,rfl⟩
 rw[Int.tmod_eq_emod_of_nonneg zH]
 simp
theorem s_uvar (ht:Text P E.sUvar 1 20 #[.tmp 2] (c_sUvar E)) (hB:xo P E.tB E.tU8 1=true) (i8:qu P E.tU8=some .u8) (iu:qu P E.tU64=some .u64) (hn:n<18446744073709551616) (hU:U<=w.heap.size):
  vL P E E.sUvar U #[.int .u64 n] (Go.Km.uvar n) w:=by
 refine qa.enter ht zS ?_
 intro a hsz hdf harg
 have e0:=harg 0 (.int .u64 n) zS
 unfold c_sUvar
 refine vX (rA (dn (vX (rA (dn ?_)))))
 refine vS (qk (xZ (fun m A W=>A.tmps.size=20/\A.defers=[]/\U<=W.heap.size/\Below U w W/\∃ f r:Nat,∃ xs:List UInt8,f<=9/\m+1=(uvF f r).length/\r<18446744073709551616/\r<128 ^ (f+1)/\A.eval (.tmp 0)=.int .u64 (r:Int) ∧
  W.ownsRow U E.tU8 1 (A.eval (.tmp 3)) xs.length (xs.map bv)/\xs++uvF f r=Go.Km.uvar n/\xs.length+f=9) ((Go.Km.uvar n).length-1) ?_ ?_ ?_))
 ·refine ⟨by simp only[zP];exact hsz,by simp only[dF];exact hdf,hU,Below.refl _ _,9,n,[],Nat.le_refl _,?_,hn,by omega,zA,?_,rfl,rfl⟩
  ·have:=yG 9 n
   unfold Go.Km.uvar
   omega
  ·rw[show Act.eval _ (.tmp 3)=Value.slice none 0 0 by exact zE]
   exact World.ownsRow_nil _ _ _ _
 ·rintro m A W ⟨hs,hd,hUW,hbl,f,r,xs,hf,hm,hr,hrf,h0,hown,hxs,hlf⟩
  have hge:128<=r:=by
   rcases Nat.lt_or_ge r 128 with h | h
   ·exfalso
    cases f with
    | zero=>simp[uvF] at hm
    | succ f=>rw[jK h] at hm;simp at hm
   ·exact h
  obtain ⟨f',rfl⟩:∃ f',f=f'+1:=by
   cases f with
   | zero=>exfalso;rw[Nat.zero_add,Nat.pow_one] at hrf;omega
   | succ f=>exact ⟨f,rfl⟩
  rw[js hge] at hm hxs
  refine vS (vX (rM ?_))
  refine jq zM zM ?_
  refine dn ?_
  refine vS (vC (t:=true) ?_ ?_ (fun h=>by cases h))
  ·simp (disch:=(try simp only[sP]);omega) only[eV]
   simp only[Value.bool.injEq,decide_eq_true_eq]
   omega
  intro _
  refine vK (vN ?_)
  refine vS (qk (vX ?_))
  refine rM (rM ?_)
  refine r_and64 (n:=r) zA rfl hr ?_
  refine qY (k:=.u64) (k':=.u8) (m:=((r % 128:Nat):Int)) iu i8 zE ?_
  have hw:IntKind.u8.wrap ((r % 128:Nat):Int)=((r % 128:Nat):Int):=by rw[yj];omega
  rw[hw]
  refine r_or8 (n:=r % 128) zE rfl zH ?_
  refine yp (U:=U) (xs:=xs) (zs:=[((r % 128+128:Nat):Int)]) hB ?_ (by intro z hz;simp only[List.mem_cons,List.not_mem_nil,or_false] at hz;subst hz;omega) rfl zH zH rfl zH (by simp only[zP];omega) (v:=_) ?_ hUW ?_ ?_
  ·simp only[lM]
   simp (disch:=(try simp only[sP]);omega) only[eV]
   rfl
  ·simp (disch:=(try simp only[sP]);omega) only[eV]
   exact hown
  ·unfold big;omega
  intro v' w' h1 h2
  refine rA (dn (vX (rM ?_)))
  refine r_shr64 (n:=r) (k:=7) (mm:=128) zA rfl (by decide) ?_
  refine rA (dn (vN (vN ?_)))
  refine ⟨by simp only[zP];exact hs,by simp only[dF];exact hd,Nat.le_trans hUW h2.size,hbl.trans h2,f',r / 128,xs++[UInt8.ofNat (r % 128+128)],by omega,by simpa using hm,by omega,?_,zE,?_,?_,?_⟩
  ·rw[Nat.pow_succ] at hrf
   omega
  ·rw[show Act.eval _ (.tmp 3)=v' by exact zE]
   exact h1
  ·rw[← hxs];simp
  ·simp only[List.length_append,List.length_cons,List.length_nil];omega
 ·rintro A W ⟨hs,hd,hUW,hbl,f,r,xs,hf,hm,hr,hrf,h0,hown,hxs,hlf⟩
  have hlt:r<128:=by
   rcases Nat.lt_or_ge r 128 with h | h
   ·exact h
   ·exfalso
    cases f with
    | zero=>rw[Nat.zero_add,Nat.pow_one] at hrf;omega
    | succ f =>
     rw[js h] at hm
     have:=yG f (r / 128)
     simp only[List.length_cons] at hm
     omega
  have huv:uvF f r=[UInt8.ofNat r]:=by
   cases f with
   | zero=>rfl
   | succ f=>exact jK hlt
  refine vS (vX (rM ?_))
  refine jq zM zM ?_
  refine dn ?_
  refine vS (vC (t:=false) ?_ (fun h=>by cases h) ?_)
  ·simp (disch:=(try simp only[sP]);omega) only[eV]
   simp only[Value.bool.injEq,decide_eq_false_iff_not]
   omega
  intro _
  refine xp ?_
  simp only[Exit.then,Exit.inBlock,if_true]
  refine vX (rM (rM ?_))
  refine qY (by assumption) (by assumption) zM ?_
  refine yp (U:=U) (xs:=xs) (zs:=[IntKind.u8.wrap (r:Int)]) hB ?_ (by intro z hz;simp only[List.mem_cons,List.not_mem_nil,or_false] at hz;subst hz;exact zj _) rfl zH zH rfl zH (by simp only[zP];omega) (v:=_) ?_ hUW ?_ ?_
  ·simp only[lM]
   simp (disch:=(try simp only[sP]);omega) only[eV]
   rfl
  ·simp (disch:=(try simp only[sP]);omega) only[eV]
   exact hown
  ·unfold big;omega
  intro v' w' h1 h2
  refine rA (dn (vS (vT ?_)))
  refine ⟨by simp only[dF];exact hd,v',rO zE,?_,hbl.trans h2⟩
  rw[← hxs,huv]
  rw[List.map_cons,List.map_nil,o8_nat] at h1
  exact h1
def cnt (flex null:Bool) (n size:Nat):List UInt8:=if flex&&null then [0] else if flex then Go.Km.uvar (n+1) else if null then be size (-1) else be size n
theorem s_counted (ht:Text P E.sCounted 4 28 #[.tmp 8] (wY E)) (htu:Text P E.sUvar 1 20 #[.tmp 2] (c_sUvar E)) (htf:Text P E.sFixed 2 22 #[.tmp 4] (vD E)) (hB:xo P E.tB E.tU8 1=true) (i8:qu P E.tU8=some .u8) (iu:qu P E.tU64=some .u64) (i64:qu P E.tI64=some .i64) (ii:qu P E.tI=some .i64) {flex null:Bool} {size:Nat} (hn:n<=big) (hs:size<=8) (hU:U<=w.heap.size):vL P E E.sCounted U #[.bool flex,.bool null,.int .i64 n,.int .i64 size] (cnt flex null n size) w:=by
 refine qa.enter ht zS ?_
 intro a hsz hdf harg
 have e0:=harg 0 (.bool flex) zS
 have e1:=harg 1 (.bool null) zS
 have e2:=harg 2 (.int .i64 n) zS
 have e3:=harg 3 (.int .i64 size) zS
 unfold big at hn
 unfold wY
 refine vX (rA (dn ?_))
 have hA:∀ A:Act,A.tmps.size=28->A.defers=[]->(∀ k:Nat,k<4->A.eval (.tmp k)=a.eval (.tmp k))->flex=false->null=false->vc P (sq [(rg [(qM 25 2 E.tI),
   (qM 26 3 E.tI),
   (oQ 27 (qC E.sFixed #[(.tmp 25),(.tmp 26)] #[E.tI64,E.tI]) E.tB),
   (qA 8 27 E.tB)]),.ret]) (Out P #[.tmp 8] fun v w'=>w'.ownsRow U E.tU8 1 v (cnt flex null n size).length ((cnt flex null n size).map bv)/\Below U w w') A w:=by
  intro A hs2 hd hk hf hn0
  subst hf;subst hn0
  have f2:=(hk 2 (by decide)).trans e2
  have f3:=(hk 3 (by decide)).trans e3
  refine vX (rM (rM ?_))
  refine q8 (args:=#[.int .i64 n,.int .i64 size]) ?_ (j6 (U:=U) (n:=(n:Int)) htf hB i8 i64 ii hs hU) ?_
  ·simp only[lM]
   simp (disch:=(try simp only[sP]);omega) only[eV,f2,f3]
  intro v w' hs
  refine rA (dn (vS (vT ?_)))
  exact ⟨by simp only[dF];exact hd,v,rO zE,hs⟩
 refine vS (qk ?_)
 refine vS (yF [0,1,2,3,4] rfl ?_)
 (refine rD rfl (wN rfl) ?_;refine rM ?_;refine dn (rT ?_))
 (refine rD rfl (wN rfl) ?_;refine rM ?_;refine dn (rT ?_))
 cases flex with
 | true =>
  (refine rD rfl (by rw[wS (b:=true) rfl rfl zM];rfl) ?_;refine rM ?_;refine dn (rT ?_))
  (refine rD rfl (wN rfl) ?_;(refine xf ?_ ?_;(try exact zA)<;>(first | rfl | assumption));refine dn (rT ?_))
  (refine rD rfl (wN rfl) ?_;refine rA ?_;refine dn (rT ?_))
  refine qx ?_
  refine vS (vC (t:=null) zM ?_ ?_)
  ·intro hnl
   subst hnl
   refine vX ?_
   refine xM (s:=1) (vs:=[.int .u8 0]) hB ?_ rfl (by intro v hv;simp only[List.mem_cons,List.not_mem_nil,or_false] at hv;subst hv;rfl) zH zH ?_
   ·simp only[lM]
    rfl
   refine rA (dn (vS (vT ?_)))
   refine ⟨by simp only[dF];exact hdf,_,rO zM,?_,(Below.refl U w).alloc (o:=.cells _ _) hU⟩
   exact World.ownsRow_lit w _ 1 hU (by decide) (by decide)
  ·intro hnl
   subst hnl
   refine vX (rM (rA (dn ?_)))
   refine vS (vC (t:=true) zM ?_ (fun h=>by cases h))
   intro _
   have hw:IntKind.u64.wrap (IntKind.u64.wrap (n:Int)+1)=((n+1:Nat):Int):=by rw[jo,jo];omega
   refine vX (rM ?_)
   refine qY (by assumption) (by assumption) zM ?_
   refine z8 zM zM ?_
   rw[hw]
   refine q8 (args:=#[.int .u64 ((n+1:Nat):Int)]) ?_ (s_uvar (U:=U) htu hB i8 iu zH hU) ?_
   ·simp only[lM]
    exact zE
   intro v w' hs
   refine rA (dn (vS (vT ?_)))
   exact ⟨by simp only[dF];exact hdf,v,rO zE,hs⟩
 | false =>
  (refine x7 rfl (by rw[wS (b:=false) rfl rfl zM];rfl) ?_)
  (refine rD rfl (wN rfl) ?_;(refine xE ?_ ?_;(try exact zA)<;>(first | rfl | assumption));refine dn (rT ?_))
  (refine rD rfl (wN rfl) ?_;refine rA ?_;refine dn (rT ?_))
  refine qx ?_
  refine vS (vC (t:=false) zM (fun h=>by cases h) ?_)
  intro _
  refine vX (rM (rA (dn ?_)))
  refine vS (vC (t:=false) zM (fun h=>by cases h) ?_)
  intro _
  refine vX (rM (rA (dn ?_)))
  refine vS (vC (t:=null) zM ?_ ?_)
  ·intro hnl
   subst hnl
   refine vX (rM ?_)
   refine q8 (args:=#[.int .i64 (-1),.int .i64 size]) ?_ (j6 (U:=U) (n:=-1) htf hB i8 i64 ii hs hU) ?_
   ·simp only[lM]
    simp (disch:=(try simp only[sP]);omega) only[eV,e3]
   intro v w' hs
   refine rA (dn (vS (vT ?_)))
   exact ⟨by simp only[dF];exact hdf,v,rO zE,hs⟩
  ·intro hnl
   refine vK (vN (vN (vN ?_)))
   exact hA _ (by simp only[zP];exact hsz) (by simp only[dF];exact hdf) (fun k hk=>by exact zE) rfl hnl
mutual
inductive Tr where
 | mk (n:Int) (s:List UInt8) (nl:Bool) (l:Trs) (u:List (Nat × List UInt8))
inductive Trs where
 | nil
 | cons (t:Tr) (r:Trs)
end
mutual
inductive SF where
 | mk (kind fr to nul tag df el:Int) (sub:SFs)
inductive SFs where
 | nil
 | cons (f:SF) (r:SFs)
end
def Trs.len:Trs->Nat
 | .nil=>0
 | .cons _ r=>r.len+1
def Trs.get:Trs->Nat->Option Tr
 | .nil,_=>none
 | .cons t _,0=>some t
 | .cons _ r,i+1=>r.get i
def SFs.len:SFs->Nat
 | .nil=>0
 | .cons _ r=>r.len+1
def SFs.get:SFs->Nat->Option SF
 | .nil,_=>none
 | .cons t _,0=>some t
 | .cons _ r,i+1=>r.get i
def Tr.zero:Tr:=.mk 0 [] false .nil []
def Tr.at (t:Tr) (i:Nat):Tr:=match t with | .mk _ _ _ l _=>(l.get i).getD .zero
def NilS (v:Value):Prop:=∃ ad cap,v=.slice ad 0 cap
theorem nilS:NilS (.slice none 0 0):=⟨_,_,rfl⟩
def z9 (w:World) (U:Nat) (v:Value) (l:List UInt8):Prop :=
 (NilS v/\l=[])\/∃ q o cap,v=.slice (some ⟨q,o,none⟩) l.length cap/\l.length<=cap/\q<U/\qb w q o (l.map bv)
def yh (w:World) (U:Nat) (v:Value) (u:List (Nat × List UInt8)):Prop :=
 (NilS v/\u=[])\/∃ q o cap,v=.slice (some ⟨q,o,none⟩) u.length cap/\u.length<=cap/\q<U ∧
  ∀ (i:Nat) (x:Nat × List UInt8),u[i]? = some x->∃ sv,x.1<4294967296/\qb w q (o+i*2) [.int .u32 x.1,sv]/\z9 w U sv x.2
mutual
def Tr.Rep (w:World) (U:Nat):Tr->List Value->Prop
 | .mk n s nl l u,cs=>∃ sv lv uv,cs=[.int .i64 n,sv,.bool nl,lv,uv]/\z9 w U sv s/\yh w U uv u ∧
   ((NilS lv/\l.len=0)\/∃ q o cap,lv=.slice (some ⟨q,o,none⟩) l.len cap/\l.len<=cap/\q<U/\l.Rep w U q o)
def Trs.Rep (w:World) (U q:Nat):Trs->Nat->Prop
 | .nil,_=>True
 | .cons t r,o=>(∃ c,qb w q o c/\t.Rep w U c)/\r.Rep w U q (o+5)
end
mutual
def SF.Rep (w:World) (U:Nat):SF->List Value->Prop
 | .mk kind fr to nul tag df el sub,cs=>∃ sv,cs=[.int .i64 kind,.int .i64 fr,.int .i64 to,.int .i64 nul,.int .i64 tag,.int .i64 df,.int .i64 el,sv] ∧
   ((sv=.slice none 0 0/\sub.len=0)\/∃ q o cap,sv=.slice (some ⟨q,o,none⟩) sub.len cap/\sub.len<=cap/\q<U/\sub.Rep w U q o)
def SFs.Rep (w:World) (U q:Nat):SFs->Nat->Prop
 | .nil,_=>True
 | .cons f r,o=>(∃ c,qb w q o c/\f.Rep w U c)/\r.Rep w U q (o+8)
end
theorem Tr.Rep.len {t:Tr} (h:t.Rep w U cs):cs.length=5:=by
 cases t with
 | mk n s nl l u=>obtain ⟨_,_,_,rfl,_⟩:=h;rfl
theorem SF.Rep.len {f:SF} (h:f.Rep w U cs):cs.length=8:=by
 cases f with
 | mk=>obtain ⟨_,rfl,_⟩:=h;rfl
theorem Trs.Rep.get {w:World} {U q:Nat}:∀ {l:Trs} {o:Nat},l.Rep w U q o->∀ {i:Nat} {t:Tr},l.get i=some t->∃ c,qb w q (o+i*5) c/\t.Rep w U c
 | .nil,_,_,_,_,h=>by cases h
 | .cons t r,o,⟨h1,h2⟩,i,u,h=>by
  cases i with
  | zero =>
   simp only[Trs.get,Option.some.injEq] at h
   subst h
   simpa using h1
  | succ i =>
   obtain ⟨c,h3,h4⟩:=Trs.Rep.get (l:=r) h2 (i:=i) h
   exact ⟨c,by rwa [show o+5+i*5=o+(i+1)*5 by omega] at h3,h4⟩
theorem SFs.Rep.get {w:World} {U q:Nat}:∀ {l:SFs} {o:Nat},l.Rep w U q o->∀ {i:Nat} {t:SF},l.get i=some t->∃ c,qb w q (o+i*8) c/\t.Rep w U c
 | .nil,_,_,_,_,h=>by cases h
 | .cons t r,o,⟨h1,h2⟩,i,u,h=>by
  cases i with
  | zero =>
   simp only[SFs.get,Option.some.injEq] at h
   subst h
   simpa using h1
  | succ i =>
   obtain ⟨c,h3,h4⟩:=SFs.Rep.get (l:=r) h2 (i:=i) h
   exact ⟨c,by rwa [show o+8+i*8=o+(i+1)*8 by omega] at h3,h4⟩
theorem Trs.get_lt:∀ (l:Trs) (i:Nat),i<l.len->∃ t,l.get i=some t
 | .nil,i,h=>by simp[Trs.len] at h
 | .cons t r,0,_=>⟨t,rfl⟩
 | .cons t r,i+1,h=>Trs.get_lt r i (by simp[Trs.len] at h;omega)
theorem Trs.get_ge:∀ (l:Trs) (i:Nat),l.len<=i->l.get i=none
 | .nil,i,h=>rfl
 | .cons t r,0,h=>by simp[Trs.len] at h
 | .cons t r,i+1,h=>Trs.get_ge r i (by simp[Trs.len] at h;omega)
theorem SFs.get_lt:∀ (l:SFs) (i:Nat),i<l.len->∃ t,l.get i=some t
 | .nil,i,h=>by simp[SFs.len] at h
 | .cons t r,0,_=>⟨t,rfl⟩
 | .cons t r,i+1,h=>SFs.get_lt r i (by simp[SFs.len] at h;omega)
theorem z9.below {w w':World} {U:Nat} {v:Value} {l:List UInt8} (h:z9 w U v l) (hw:Below U w w'):z9 w' U v l:=by
 rcases h with h | ⟨q,o,cap,h1,h2,h3,h4⟩
 ·exact .inl h
 ·exact .inr ⟨q,o,cap,h1,h2,h3,h4.below hw h3⟩
theorem yh.below {w w':World} {U:Nat} {v:Value} {u:List (Nat × List UInt8)} (h:yh w U v u) (hw:Below U w w'):yh w' U v u:=by
 rcases h with h | ⟨q,o,cap,h1,h2,h3,h4⟩
 ·exact .inl h
 ·refine .inr ⟨q,o,cap,h1,h2,h3,fun i x hx=>?_⟩
  obtain ⟨sv,h0,h5,h6⟩:=h4 i x hx
  exact ⟨sv,h0,h5.below hw h3,h6.below hw⟩
mutual
theorem Tr.Rep.below {w w':World} {U:Nat} (hw:Below U w w'):∀ {t:Tr} {cs:List Value},t.Rep w U cs->t.Rep w' U cs
 | .mk n s nl l u,cs,⟨sv,lv,uv,h1,h2,h3,h4⟩=>by
  refine ⟨sv,lv,uv,h1,h2.below hw,h3.below hw,?_⟩
  rcases h4 with h4 | ⟨q,o,cap,h5,h6,h7,h8⟩
  ·exact .inl h4
  ·exact .inr ⟨q,o,cap,h5,h6,h7,Trs.Rep.below hw h7 h8⟩
theorem Trs.Rep.below {w w':World} {U q:Nat} (hw:Below U w w') (hq:q<U):∀ {l:Trs} {o:Nat},l.Rep w U q o->l.Rep w' U q o
 | .nil,_,_=>trivial
 | .cons t r,o,⟨⟨c,h1,h2⟩,h3⟩=>⟨⟨c,h1.below hw hq,Tr.Rep.below hw h2⟩,Trs.Rep.below hw hq h3⟩
end
mutual
theorem SF.Rep.below {w w':World} {U:Nat} (hw:Below U w w'):∀ {t:SF} {cs:List Value},t.Rep w U cs->t.Rep w' U cs
 | .mk kind fr to nul tag df el sub,cs,⟨sv,h1,h4⟩=>by
  refine ⟨sv,h1,?_⟩
  rcases h4 with h4 | ⟨q,o,cap,h5,h6,h7,h8⟩
  ·exact .inl h4
  ·exact .inr ⟨q,o,cap,h5,h6,h7,SFs.Rep.below hw h7 h8⟩
theorem SFs.Rep.below {w w':World} {U q:Nat} (hw:Below U w w') (hq:q<U):∀ {l:SFs} {o:Nat},l.Rep w U q o->l.Rep w' U q o
 | .nil,_,_=>trivial
 | .cons t r,o,⟨⟨c,h1,h2⟩,h3⟩=>⟨⟨c,h1.below hw hq,SF.Rep.below hw h2⟩,SFs.Rep.below hw hq h3⟩
end
theorem r_min {d x y t ty p af g k m n} (hx:a.eval x=.int k m) (hy:a.eval y=.int k n) (h:rO_ P Q r (a.put (some d) (.int k (if n<m then n else m))) w):
  rO_ P Q (⟨some d,.call { callee:=.builtin .min,args:=#[x,y],argTypes:=t },ty,p,af,g⟩::r) a w:=by
 refine st ?_
 have hr:(Builtin.min_ t ty #[a.eval x,a.eval y]).run P w=.ok (.int k (if n<m then n else m)) w:=by
  rw[hx,hy]
  simp[Builtin.min_,Builtin.min2]
 simp only[Oper.wp,execOp,resolve,invoke,builtin,Sem.run_bind,Sem.run_pure,Result.andThen_ok,List.map_toArray,List.map_cons,List.map_nil,hr,Oper.upon_value]
 exact h
def offs (P:Program) (t:TypeId) (n:Nat):Bool:=(List.range n).all fun i=>qh P t i==some i
theorem qn {t:TypeId} {i:Nat} (h:offs P t n=true) (hi:i<n):qh P t i=some i:=by
 have:=List.all_eq_true.1 h i (List.mem_range.2 hi)
 simpa using this
def SF.has:SF->Int->Bool
 | .mk _ fr to _ _ _ _ _,v=>decide (fr<=v)&&(decide (to<0)||decide (v<=to))
def SF.isNull:SF->Int->Tr->Bool
 | .mk _ _ _ nul _ _ _ _,v,.mk _ _ nl _ _=>nl&&decide (nul ≥ 0)&&decide (v ≥ nul)
structure SEnv (P:Program) (E:Env):Prop where
 row:xo P E.tB E.tU8 1=true
 u8:qu P E.tU8=some .u8
 int:qu P E.tI=some .i64
 i64:qu P E.tI64=some .i64
 u32:qu P E.tW=some .u32
 u64:qu P E.tU64=some .u64
 oInt:qW P E.tI=true
 oI64:qW P E.tI64=true
 oU32:qW P E.tW=true
 oU8:qW P E.tU8=true
 oBool:qW P E.tO=true
 oBytes:qW P E.tB=true
 oTrees:qW P E.tS=true
 oFlds:qW P E.tFlds=true
 oUnks:qW P E.tK=true
 fFld:offs P E.tFld 8=true
 fTree:offs P E.tT 5=true
 fUnk:offs P E.tUnk 2=true
 aFld:zd P E.tFld=some 8
 aTree:zd P E.tT=some 5
 aUnk:zd P E.tUnk=some 2
 sFlds:xK P E.tFlds=some (E.tFld,8)
 rTrees:xo P E.tS E.tT 5=true
 rUnks:xo P E.tK E.tUnk 2=true
theorem s_has (H:SEnv P E) (ht:Text P E.sHas 2 20 #[.tmp 4] (c_sHas E)) {f:SF} {v:Int} (hr:f.Rep w U cs) (hU:U<=w.heap.size):
  qa P E.sHas #[.agg cs.toArray,.int .i64 v] w fun r w'=>r=.bool (f.has v)/\Below U w w':=by
 refine qa.enter ht zS ?_
 intro a hsz hdf harg
 have e0:=harg 0 (.agg cs.toArray) zS
 have e1:=harg 1 (.int .i64 v) zS
 cases f with
 | mk kind fr to nul tag df el sub =>
 obtain ⟨sv,rfl,_⟩:=hr
 unfold c_sHas
 refine vX ?_
 refine xN (v:=.agg [Value.int .i64 kind,.int .i64 fr,.int .i64 to,.int .i64 nul,.int .i64 tag,.int .i64 df,.int .i64 el,sv].toArray) zA ?_
 refine rA (dn ?_)
 have hbl:Below U w (w.alloc (.cells (Value.agg [Value.int .i64 kind,.int .i64 fr,.int .i64 to,.int .i64 nul,.int .i64 tag,.int .i64 df,.int .i64 el,sv].toArray).cells E.tFld)):=(Below.refl U w).alloc (o:=.cells _ _) hU
 have c1:=qm w (Value.agg [Value.int .i64 kind,.int .i64 fr,.int .i64 to,.int .i64 nul,.int .i64 tag,.int .i64 df,.int .i64 el,sv].toArray).cells E.tFld (i:=1) (v:=.int .i64 fr) rfl
 have c2:=qm w (Value.agg [Value.int .i64 kind,.int .i64 fr,.int .i64 to,.int .i64 nul,.int .i64 tag,.int .i64 df,.int .i64 el,sv].toArray).cells E.tFld (i:=2) (v:=.int .i64 to) rfl
 refine vS (yF [0,1,2,3,4,5,6,7,8,9,10,11,12,13,14,15] rfl ?_)
 have fin:∀ (A:Act) (b:Bool),A.defers=[]->A.eval (.tmp 4)=.bool b->b=(SF.mk kind fr to nul tag df el sub).has v->vc P (sq [.ret]) (Out P #[.tmp 4] fun r w'=>r=.bool ((SF.mk kind fr to nul tag df el sub).has v)/\Below U w w') A (w.alloc (.cells (Value.agg [Value.int .i64 kind,.int .i64 fr,.int .i64 to,.int .i64 nul,.int .i64 tag,.int .i64 df,.int .i64 el,sv].toArray).cells E.tFld)):=by
  intro A b hd h4 hb
  refine vT ?_
  exact ⟨hd,.bool b,rO h4,by rw[hb],hbl⟩
 refine rD rfl (wN rfl) (rF (b:=w.heap.size) (o:=0) zE (qn H.fFld (by decide)) (dn (rT ?_)))
 refine rD rfl (wN rfl) (rL (b:=w.heap.size) (o:=1) (v:=.int .i64 fr) zM H.oInt c1 (dn (rT ?_)))
 (refine rD rfl (wN rfl) ?_;refine rM ?_;refine dn (rT ?_))
 refine rD rfl (wN rfl) (ww (k:=.i64) (m:=fr) (n:=v) zE zA (dn (rT ?_)))
 (refine rD rfl (wN rfl) ?_;refine rM ?_;refine dn (rT ?_))
 by_cases h1:fr<=v
 ·have d1:decide (fr<=v)=true:=by simpa using h1
  rw[d1]
  refine rD rfl (by rw[wS (b:=true) rfl rfl zM];rfl) (rF (b:=w.heap.size) (o:=0) zE (qn H.fFld (by decide)) (dn (rT ?_)))
  refine rD rfl (by rw[wS (b:=true) rfl rfl zM];rfl) (rL (b:=w.heap.size) (o:=2) (v:=.int .i64 to) zM H.oInt c2 (dn (rT ?_)))
  refine rD rfl (by rw[wS (b:=true) rfl rfl zM];rfl) (xm (k:=.i64) (m:=to) (n:=0) zE rfl (dn (rT ?_)))
  (refine rD rfl (by rw[wS (b:=true) rfl rfl zM];rfl) ?_;refine rM ?_;refine dn (rT ?_))
  by_cases h2:to<0
  ·have d2:decide (to<0)=true:=by simpa using h2
   rw[d2]
   (refine x7 rfl (by rw[wS (b:=true) rfl rfl zM];rfl) ?_)
   (refine x7 rfl (by rw[wS (b:=true) rfl rfl zM];rfl) ?_)
   (refine x7 rfl (by rw[wS (b:=true) rfl rfl zM];rfl) ?_)
   (refine x7 rfl (by rw[wS (b:=true) rfl rfl zM];rfl) ?_)
   (refine rD rfl (by rw[wS (b:=true) rfl rfl zM];rfl) ?_;(refine xf ?_ ?_;(try exact zE)<;>(first | rfl | assumption));refine dn (rT ?_))
   (refine rD rfl (wN rfl) ?_;(refine xf ?_ ?_;(try exact zE)<;>(first | rfl | assumption));refine dn (rT ?_))
   (refine rD rfl (wN rfl) ?_;refine rA ?_;refine dn (rT ?_))
   refine qx ?_
   exact fin _ true (by simp only[dF];exact hdf) zM (by simp[SF.has,h1,h2])
  ·have d2:decide (to<0)=false:=by simpa using h2
   rw[d2]
   (refine rD rfl (by rw[wS (b:=false) rfl rfl zM];rfl) ?_;refine rM ?_;refine dn (rT ?_))
   refine rD rfl (by rw[wS (b:=false) rfl rfl zM];rfl) (rF (b:=w.heap.size) (o:=0) zE (qn H.fFld (by decide)) (dn (rT ?_)))
   refine rD rfl (by rw[wS (b:=false) rfl rfl zM];rfl) (rL (b:=w.heap.size) (o:=2) (v:=.int .i64 to) zM H.oInt c2 (dn (rT ?_)))
   refine rD rfl (by rw[wS (b:=false) rfl rfl zM];rfl) (ww (k:=.i64) (m:=v) (n:=to) zA zE (dn (rT ?_)))
   (refine rD rfl (by rw[wS (b:=true) rfl rfl zM];rfl) ?_;(refine xE ?_ ?_;(try exact zE)<;>(first | rfl | assumption));refine dn (rT ?_))
   (refine rD rfl (wN rfl) ?_;(refine xf ?_ ?_;(try exact zE)<;>(first | rfl | assumption));refine dn (rT ?_))
   (refine rD rfl (wN rfl) ?_;refine rA ?_;refine dn (rT ?_))
   refine qx ?_
   exact fin _ (decide (v<=to)) (by simp only[dF];exact hdf) zM (by simp[SF.has,h1,h2])
 ·have d1:decide (fr<=v)=false:=by simpa using h1
  rw[d1]
  (refine x7 rfl (by rw[wS (b:=false) rfl rfl zM];rfl) ?_)
  (refine x7 rfl (by rw[wS (b:=false) rfl rfl zM];rfl) ?_)
  (refine x7 rfl (by rw[wS (b:=false) rfl rfl zM];rfl) ?_)
  (refine x7 rfl (by rw[wS (b:=false) rfl rfl zM];rfl) ?_)
  (refine x7 rfl (vh rfl rfl zM (by simp only[zP,hsz];decide)) ?_)
  (refine x7 rfl (vh rfl rfl zM (by simp only[zP,hsz];decide)) ?_)
  (refine x7 rfl (vh rfl rfl zM (by simp only[zP,hsz];decide)) ?_)
  (refine x7 rfl (vh rfl rfl zM (by simp only[zP,hsz];decide)) ?_)
  (refine x7 rfl (by rw[wS (b:=false) rfl rfl zM];rfl) ?_)
  (refine rD rfl (wN rfl) ?_;(refine xE ?_ ?_;(try exact zE)<;>(first | rfl | assumption));refine dn (rT ?_))
  (refine rD rfl (wN rfl) ?_;refine rA ?_;refine dn (rT ?_))
  refine qx ?_
  exact fin _ false (by simp only[dF];exact hdf) zM (by simp[SF.has,h1])
theorem s_null (H:SEnv P E) (ht:Text P E.sNull 3 20 #[.tmp 6] (c_sNull E)) {f:SF} {v:Int} {t:Tr} (hr:f.Rep w U cs) (hrt:t.Rep w U ts) (hU:U<=w.heap.size):
  qa P E.sNull #[.agg cs.toArray,.int .i64 v,.agg ts.toArray] w fun r w'=>r=.bool (f.isNull v t)/\Below U w w':=by
 refine qa.enter ht zS ?_
 intro a hsz hdf harg
 have e0:=harg 0 (.agg cs.toArray) zS
 have e1:=harg 1 (.int .i64 v) zS
 have e2:=harg 2 (.agg ts.toArray) zS
 cases f with
 | mk kind fr to nul tag df el sub =>
 cases t with
 | mk n s nl l u =>
 obtain ⟨sv,rfl,_⟩:=hr
 obtain ⟨s1,s2,s3,rfl,_⟩:=hrt
 unfold c_sNull
 refine vX ?_
 refine xN (v:=.agg [Value.int .i64 kind,.int .i64 fr,.int .i64 to,.int .i64 nul,.int .i64 tag,.int .i64 df,.int .i64 el,sv].toArray) zA ?_
 refine xN (v:=.agg [Value.int .i64 n,s1,.bool nl,s2,s3].toArray) zA ?_
 refine rA (dn ?_)
 generalize hw1:w.alloc (.cells (Value.agg [Value.int .i64 kind,.int .i64 fr,.int .i64 to,.int .i64 nul,.int .i64 tag,.int .i64 df,.int .i64 el,sv].toArray).cells E.tFld)=w1
 have hb1:Below U w w1:=by rw[← hw1];exact (Below.refl U w).alloc (o:=.cells _ _) hU
 have hz1:w1.heap.size=w.heap.size+1:=by rw[← hw1];simp
 have c3:w1.cell? ⟨w.heap.size,3,none⟩=some (.int .i64 nul):=by rw[← hw1];exact qm w _ E.tFld (i:=3) rfl
 clear hw1
 generalize hw2:w1.alloc (.cells (Value.agg [Value.int .i64 n,s1,.bool nl,s2,s3].toArray).cells E.tT)=w2
 have hb2:Below U w w2:=by rw[← hw2];exact hb1.trans ((Below.refl U w1).alloc (o:=.cells _ _) zH)
 have d3:w2.cell? ⟨w.heap.size,3,none⟩=some (.int .i64 nul):=by rw[← hw2];exact (Eff.refl (fun _ _=>False) w1 |>.alloc _).cellSome c3 (fun h=>h)
 have d2:w2.cell? ⟨w1.heap.size,2,none⟩=some (.bool nl):=by rw[← hw2];exact qm w1 _ E.tT (i:=2) rfl
 clear hw2
 refine vS (yF [0,1,2,3,4,5,6,7,8,9,10,11,12,13] rfl ?_)
 have fin:∀ (A:Act) (b:Bool),A.defers=[]->A.eval (.tmp 6)=.bool b->b=(SF.mk kind fr to nul tag df el sub).isNull v (.mk n s nl l u)->vc P (sq [.ret]) (Out P #[.tmp 6] fun r w'=>r=.bool ((SF.mk kind fr to nul tag df el sub).isNull v (.mk n s nl l u))/\Below U w w') A w2:=by
  intro A b hd h4 hb
  refine vT ?_
  exact ⟨hd,.bool b,rO h4,by rw[hb],hb2⟩
 refine rD rfl (wN rfl) (rF (b:=w1.heap.size) (o:=0) zE (qn H.fTree (by decide)) (dn (rT ?_)))
 refine rD rfl (wN rfl) (rL (b:=w1.heap.size) (o:=2) (v:=.bool nl) zM H.oBool d2 (dn (rT ?_)))
 (refine rD rfl (wN rfl) ?_;refine rM ?_;refine dn (rT ?_))
 cases nl with
 | true =>
  refine rD rfl (by rw[wS (b:=true) rfl rfl zM];rfl) (rF (b:=w.heap.size) (o:=0) zE (qn H.fFld (by decide)) (dn (rT ?_)))
  refine rD rfl (by rw[wS (b:=true) rfl rfl zM];rfl) (rL (b:=w.heap.size) (o:=3) (v:=.int .i64 nul) zM H.oInt d3 (dn (rT ?_)))
  refine rD rfl (by rw[wS (b:=true) rfl rfl zM];rfl) (yw (k:=.i64) (m:=nul) (n:=0) zE rfl (dn (rT ?_)))
  (refine rD rfl (wN rfl) ?_;(refine xf ?_ ?_;(try exact zE)<;>(first | rfl | assumption));refine dn (rT ?_))
  (refine rD rfl (wN rfl) ?_;refine rM ?_;refine dn (rT ?_))
  by_cases h1:nul ≥ 0
  ·have g1:decide (nul ≥ 0)=true:=by simpa using h1
   rw[g1]
   (refine rD rfl (by rw[wS (b:=true) rfl rfl zM];rfl) ?_;refine rM ?_;refine dn (rT ?_))
   refine rD rfl (by rw[wS (b:=true) rfl rfl zM];rfl) (rF (b:=w.heap.size) (o:=0) zE (qn H.fFld (by decide)) (dn (rT ?_)))
   refine rD rfl (by rw[wS (b:=true) rfl rfl zM];rfl) (rL (b:=w.heap.size) (o:=3) (v:=.int .i64 nul) zM H.oInt d3 (dn (rT ?_)))
   refine rD rfl (by rw[wS (b:=true) rfl rfl zM];rfl) (yw (k:=.i64) (m:=v) (n:=nul) zA zE (dn (rT ?_)))
   (refine rD rfl (wN rfl) ?_;(refine xf ?_ ?_;(try exact zE)<;>(first | rfl | assumption));refine dn (rT ?_))
   (refine rD rfl (wN rfl) ?_;refine rA ?_;refine dn (rT ?_))
   refine qx ?_
   exact fin _ (decide (v ≥ nul)) (by simp only[dF];exact hdf) zM (by simp[SF.isNull,h1])
  ·have g1:decide (nul ≥ 0)=false:=by simpa using h1
   rw[g1]
   (refine x7 rfl (by rw[wS (b:=false) rfl rfl zM];rfl) ?_)
   (refine x7 rfl (by rw[wS (b:=false) rfl rfl zM];rfl) ?_)
   (refine x7 rfl (by rw[wS (b:=false) rfl rfl zM];rfl) ?_)
   (refine x7 rfl (by rw[wS (b:=false) rfl rfl zM];rfl) ?_)
   (refine rD rfl (wN rfl) ?_;(refine xE ?_ ?_;(try exact zE)<;>(first | rfl | assumption));refine dn (rT ?_))
   (refine rD rfl (wN rfl) ?_;refine rA ?_;refine dn (rT ?_))
   refine qx ?_
   exact fin _ false (by simp only[dF];exact hdf) zM (by simp[SF.isNull,h1])
 | false =>
  (refine x7 rfl (by rw[wS (b:=false) rfl rfl zM];rfl) ?_)
  (refine x7 rfl (by rw[wS (b:=false) rfl rfl zM];rfl) ?_)
  (refine x7 rfl (by rw[wS (b:=false) rfl rfl zM];rfl) ?_)
  (refine rD rfl (wN rfl) ?_;(refine xE ?_ ?_;(try exact zE)<;>(first | rfl | assumption));refine dn (rT ?_))
  (refine rD rfl (wN rfl) ?_;refine rM ?_;refine dn (rT ?_))
  (refine x7 rfl (by rw[wS (b:=false) rfl rfl zM];rfl) ?_)
  (refine x7 rfl (by rw[wS (b:=false) rfl rfl zM];rfl) ?_)
  (refine x7 rfl (by rw[wS (b:=false) rfl rfl zM];rfl) ?_)
  (refine x7 rfl (by rw[wS (b:=false) rfl rfl zM];rfl) ?_)
  (refine rD rfl (wN rfl) ?_;(refine xE ?_ ?_;(try exact zE)<;>(first | rfl | assumption));refine dn (rT ?_))
  (refine rD rfl (wN rfl) ?_;refine rA ?_;refine dn (rT ?_))
  refine qx ?_
  exact fin _ false (by simp only[dF];exact hdf) zM (by simp[SF.isNull])
theorem ym {d t x y ty p af g e s ad len cap k} {h:Nat} (ht:xK P t=some (e,s)) (hx:a.eval x=.slice ad len cap) (hy:a.eval y=.int k (h:Int)) (hh:h<=cap) (hn:rO_ P Q r (a.put (some d) (.slice ad h cap)) w):rO_ P Q (⟨some d,.slice t x none (some y) none,ty,p,af,g⟩::r) a w:=by
 refine kC 0 h cap ht hx rfl ⟨k,hy⟩ rfl (Nat.zero_le _) hh (Nat.le_refl _) ?_
 have:(if cap=0 then ad else ad.map (·.add (0*s)))=ad:=by cases ad<;>simp[Addr.add_zero']
 rw[this]
 exact hn
def wo (P:Program) (t:TypeId):Option (List (Nat × Nat) × Array Value) :=
 match P.underlying t,P.info? t with
 | some (.struct fs),some it =>
  match it.zero,fs.toList.mapM (fun f=>(P.info? f.type).map fun i=>(f.offset,i.size)) with
  | some z,some pl=>some (pl,z.cells)
  | _,_=>none
 | _,_=>none
theorem run_buildL {t:TypeId} {pl:List (Nat × Nat)} {z cells:Array Value} {parts:Array (Nat × Value)} (h:wo P t=some (pl,z)) (hf:Instr.fill (pl.toArray[·]?) z parts.toList=some cells):
  (Instr.build t parts).run P w=.ok (.agg cells) w:=by
 refine run_build w t parts cells ?_
 unfold wo at h
 split at h
 ·rename_i fs it hu hi
  split at h
  ·rename_i z' pl' hz hp
   simp only[Option.some.injEq,Prod.mk.injEq] at h
   obtain ⟨rfl,rfl⟩:=h
   unfold Program.built
   rw[hi,hu]
   simp only[hz,hp]
   exact hf
  ·cases h
 ·cases h
theorem zp {d t ps ty p af g pl z cells} (h:wo P t=some (pl,z)) (hf:Instr.fill (pl.toArray[·]?) z (ps.map fun (x:Nat × Operand)=>(x.1,a.eval x.2)).toList=some cells) (hn:rO_ P Q r (a.put (some d) (.agg cells)) w):rO_ P Q (⟨some d,.build t ps,ty,p,af,g⟩::r) a w:=by
 refine st ?_
 have hr:(Instr.build t (ps.map fun (i,x)=>(i,a.eval x))).run P w=.ok (.agg cells) w:=run_buildL h hf
 simp only[Oper.wp,execOp,Sem.run_bind,hr,Sem.run_pure,Result.andThen_ok,Oper.upon_value]
 exact hn
theorem za {T:TypeId} (h:a.eval (.tmp t)=.pointer (some ⟨b,o,none⟩)) (hT:zd P T=some cs.length) (hc:qb w b o cs):
  (results { (default:Func) with results:=#[.cell t T] } a.tmps).run P w=.ok (.agg cs.toArray) w:=by
 obtain ⟨h1,h2⟩:=pf hT
 have hl:(loadVar T ⟨b,o,none⟩).run P w=.ok (.agg cs.toArray) w:=by
  simp only[loadVar,Sem.run_bind,h1,Result.andThen_ok,if_true,h2,yd hc,Sem.run_pure]
 have h':a.tmps[t]?.getD undef=.pointer (some ⟨b,o,none⟩):=by simpa [Act.eval] using h
 simp[results,h',asAddr,hl]
theorem s_first {f T e:Nat} {c:Code} (hT:xK P T=some (e,1)\/xK P T=some (e,5)) (hint:qu P E.tI=some .i64) (hn:n<=cap) (ht:Text P f 1 8 #[.tmp 2] (sq [(rg [(oQ 2 (.assign (.const (.slice none 0 0))) T)]),
  (rg [(qM 3 0 T),
   (qM 4 0 T),
   (qN 5 4 T E.tI),
   (oQ 6 (.call { callee:=.builtin .min,args:=#[(.tmp 5),(.const (.int .i64 32767))],argTypes:=#[E.tI,E.tI] }) E.tI),
   (oQ 7 (.slice T (.tmp 3) none (some (.tmp 6)) none) T),
   (qA 2 7 T)]),
  .ret])):qa P f #[.slice ad n cap] w fun v w'=>v=.slice ad (min n 32767) cap/\w'=w:=by
 refine qa.enter ht zS ?_
 intro a hsz hdf harg
 have e0:=harg 0 (.slice ad n cap) zS
 obtain ⟨s,hs⟩:∃ s,xK P T=some (e,s):=by rcases hT with h | h<;>exact ⟨_,h⟩
 refine vX (rA (dn (vX (rM (rM ?_)))))
 refine xh (ad:=ad) (n:=n) (c:=cap) hs zA ?_
 refine r_min (k:=.i64) (m:=(n:Int)) (n:=32767) zE rfl ?_
 have hm:(if (32767:Int)<(n:Int) then (32767:Int) else (n:Int))=((min n 32767:Nat):Int):=by split<;>omega
 rw[hm]
 refine ym (ad:=ad) (cap:=cap) (k:=.i64) (h:=min n 32767) (len:=n) hs zA zE zH ?_
 refine rA (dn (vS (vT ?_)))
 exact ⟨by simp only[dF];exact hdf,_,rO zM,rfl,rfl⟩
structure SLay (P:Program) (E:Env):Prop where
 tree:wo P E.tT=some ([(0,1),(1,1),(2,1),(3,1),(4,1)],#[.int .i64 0,.slice none 0 0,.bool false,.slice none 0 0,.slice none 0 0])
 fld:wo P E.tFld=some ([(0,1),(1,1),(2,1),(3,1),(4,1),(5,1),(6,1),(7,1)],#[.int .i64 0,.int .i64 0,.int .i64 0,.int .i64 0,.int .i64 0,.int .i64 0,.int .i64 0,.slice none 0 0])
 msg:wo P E.tMsg=some ([(0,1),(1,1)],#[.slice none 0 0,.int .i64 0])
 unk:wo P E.tUnk=some ([(0,1),(1,1)],#[.int .u32 0,.slice none 0 0])
theorem xO {t:TypeId} {pl:List (Nat × Nat)} {z:Array Value} (h:wo P t=some (pl,z)):∃ v,qQ P t=some v/\v.cells=z:=by
 unfold wo at h
 split at h
 ·rename_i fs it hu hi
  split at h
  ·rename_i z' pl' hz hp
   simp only[Option.some.injEq,Prod.mk.injEq] at h
   exact ⟨z',by simp[qQ,hi,hz],h.2⟩
  ·cases h
 ·cases h
theorem Tr.zero_rep (w:World) (U:Nat):Tr.zero.Rep w U [.int .i64 0,.slice none 0 0,.bool false,.slice none 0 0,.slice none 0 0] :=
 ⟨_,_,_,rfl,.inl ⟨nilS,rfl⟩,.inl ⟨nilS,rfl⟩,.inl ⟨nilS,rfl⟩⟩
theorem z9.one (h:z9 w U v l):v.oneCell'=true:=by
 rcases h with ⟨⟨_,_,rfl⟩,_⟩ | ⟨q,o,cap,rfl,_⟩<;>rfl
theorem Tr.Rep.one {w:World} {U:Nat} {t:Tr} {cs:List Value} (h:t.Rep w U cs):∀ v ∈ cs,v.oneCell'=true:=by
 cases t with
 | mk n s nl l u =>
  obtain ⟨sv,lv,uv,rfl,h1,h2,h3⟩:=h
  have e1:=h1.one
  have e2:uv.oneCell'=true:=by rcases h2 with ⟨⟨_,_,rfl⟩,_⟩ | ⟨q,o,cap,rfl,_⟩<;>rfl
  have e3:lv.oneCell'=true:=by rcases h3 with ⟨⟨_,_,rfl⟩,_⟩ | ⟨q,o,cap,rfl,_⟩<;>rfl
  intro v hv
  simp only[List.mem_cons,List.not_mem_nil,or_false] at hv
  rcases hv with rfl | rfl | rfl | rfl | rfl<;>first | rfl | assumption
theorem SF.Rep.one {f:SF} (h:f.Rep w U cs):∀ v ∈ cs,v.oneCell'=true:=by
 cases f with
 | mk =>
  obtain ⟨sv,rfl,h3⟩:=h
  have e3:sv.oneCell'=true:=by rcases h3 with ⟨rfl,_⟩ | ⟨q,o,cap,rfl,_⟩<;>rfl
  intro v hv
  simp only[List.mem_cons,List.not_mem_nil,or_false] at hv
  rcases hv with rfl | rfl | rfl | rfl | rfl | rfl | rfl | rfl<;>first | rfl | assumption
theorem s_at (H:SEnv P E) (HL:SLay P E) (ht:Text P E.sAt 2 16 #[.cell 4 E.tT] (c_sAt E)) {t:Tr} {i:Nat} (hr:t.Rep w U ts) (hU:U<=w.heap.size):
  qa P E.sAt #[.agg ts.toArray,.int .i64 i] w fun r w'=>∃ c,r=.agg c.toArray/\(t.at i).Rep w U c/\Below U w w':=by
 refine qa.enter ht zS ?_
 intro a hsz hdf harg
 have e0:=harg 0 (.agg ts.toArray) zS
 have e1:=harg 1 (.int .i64 i) zS
 obtain ⟨z,hz,hzc⟩:=xO HL.tree
 cases t with
 | mk n s nl l u =>
 obtain ⟨s1,lv,s3,rfl,_,_,hl⟩:=hr
 unfold c_sAt
 refine vX ?_
 refine xN (v:=.agg [Value.int .i64 n,s1,.bool nl,lv,s3].toArray) zA ?_
 refine qR hz ?_
 refine dn ?_
 rw[hzc]
 generalize hw1:w.alloc (.cells (Value.agg [Value.int .i64 n,s1,.bool nl,lv,s3].toArray).cells E.tT)=w1
 have hb1:Below U w w1:=by rw[← hw1];exact (Below.refl U w).alloc (o:=.cells _ _) hU
 have hz1:w1.heap.size=w.heap.size+1:=by rw[← hw1];simp
 have c3:w1.cell? ⟨w.heap.size,3,none⟩=some lv:=by rw[← hw1];exact qm w _ E.tT (i:=3) rfl
 clear hw1
 generalize hw2:w1.alloc (.cells #[.int .i64 0,.slice none 0 0,.bool false,.slice none 0 0,.slice none 0 0] E.tT)=w2
 have hb2:Below U w w2:=by rw[← hw2];exact hb1.trans ((Below.refl U w1).alloc (o:=.cells _ _) zH)
 have d3:w2.cell? ⟨w.heap.size,3,none⟩=some lv:=by rw[← hw2];exact (Eff.refl (fun _ _=>False) w1 |>.alloc _).cellSome c3 (fun h=>h)
 have hfree:∀ j,j<5->qr w2 w1.heap.size (0+j):=by
  intro j hj
  rw[← hw2,Nat.zero_add]
  exact qq w1 _ E.tT (by simpa using hj)
 have hz2:w2.heap.size=w1.heap.size+1:=by rw[← hw2];simp
 clear hw2
 have fin:∀ (A:Act) (c:List Value),A.defers=[]->A.eval (.tmp 4)=.pointer (some ⟨w1.heap.size,0,none⟩)->((Tr.mk n s nl l u).at i).Rep w U c->Out P #[.cell 4 E.tT] (fun r w'=>∃ c,r=.agg c.toArray/\((Tr.mk n s nl l u).at i).Rep w U c/\Below U w w') .ret A (setCells w2 w1.heap.size 0 c):=by
  intro A c hd h4 hc
  have hbs:Below U w (setCells w2 w1.heap.size 0 c):=hb2.trans ((qe w1.heap.size c w2 0).below zH (by rintro k i hk ⟨rfl,_,_⟩;omega))
  refine ⟨hd,.agg c.toArray,za h4 (by rw[hc.len];exact H.aTree) ?_,c,rfl,hc,hbs⟩
  intro j v hv
  exact qg w1.heap.size c w2 0 (fun j hj=>(hfree j (by rw[hc.len] at hj;exact hj)).1) j v hv
 have hlen:∃ ad cap,lv=.slice ad l.len cap/\(l.len=0\/∃ q o,ad=some ⟨q,o,none⟩/\q<U/\l.Rep w U q o):=by
  rcases hl with ⟨⟨ad,cap,rfl⟩,h0⟩ | ⟨q,o,cap,rfl,_,hq,hrep⟩
  ·exact ⟨ad,cap,by rw[h0],.inl h0⟩
  ·exact ⟨_,cap,rfl,.inr ⟨q,o,rfl,hq,hrep⟩⟩
 obtain ⟨ad,cap,rfl,had⟩:=hlen
 refine vS (vX (rM ?_))
 refine rF (b:=w.heap.size) (o:=0) zE (qn H.fTree (by decide)) ?_
 refine rL (b:=w.heap.size) (o:=3) zM H.oTrees d3 ?_
 refine xh (ad:=ad) (n:=l.len) (c:=cap) (rB H.rTrees) zE ?_
 refine xm (k:=.i64) (m:=(i:Int)) (n:=(l.len:Int)) zA zE ?_
 refine dn ?_
 refine vS (vC (t:=decide ((i:Int)<(l.len:Int))) zM ?_ ?_)
 ·intro hlt
  have hlt':i<l.len:=by simpa using hlt
  obtain ⟨q,o,rfl,hq,hrep⟩:=had.resolve_left zH
  obtain ⟨t,hget⟩:=Trs.get_lt l i hlt'
  obtain ⟨c,hc,hrc⟩:=hrep.get hget
  have hat:(Tr.mk n s nl l u).at i=t:=by simp[Tr.at,hget]
  rw[hat] at fin ⊢
  refine vX ?_
  refine rF (b:=w.heap.size) (o:=0) zE (qn H.fTree (by decide)) ?_
  refine rL (b:=w.heap.size) (o:=3) zM H.oTrees d3 ?_
  refine rM ?_
  refine qH (k:=.i64) (j:=i) (b:=q) (o:=o) (len:=l.len) (cap:=cap) (rB H.rTrees) zE zA hlt' ?_
  refine qf (b:=q) (o:=o+i*5) (cs:=c) zE (by rw[hrc.len];exact H.aTree) (hc.below hb2 hq) ?_
  refine qy (b:=w1.heap.size) (o:=0) (cs:=c) zE zE hrc.one (by rw[hrc.len];exact H.aTree) (by rw[hrc.len];exact hfree) ?_
  refine dn (vS (vT ?_))
  exact fin _ c (by simp only[dF];exact hdf) zM hrc
 ·intro hge
  have hge':l.len<=i:=by simpa using hge
  have hat:(Tr.mk n s nl l u).at i=Tr.zero:=by simp[Tr.at,Trs.get_ge l i hge']
  rw[hat] at fin ⊢
  refine vK (vN (vX ?_))
  refine zp (cells:=#[.int .i64 0,.slice none 0 0,.bool false,.slice none 0 0,.slice none 0 0]) HL.tree (by simp[Instr.fill]) ?_
  refine qy (b:=w1.heap.size) (o:=0) (cs:=[.int .i64 0,.slice none 0 0,.bool false,.slice none 0 0,.slice none 0 0]) zE zE (Tr.zero_rep w U).one H.aTree hfree ?_
  refine dn (vS (vT ?_))
  exact fin _ _ (by simp only[dF];exact hdf) zM (Tr.zero_rep w U)
def xA (w:World) (v:Value) (l:List UInt8):Prop :=
 (v=.slice none 0 0/\l=[])\/∃ q o cap,v=.slice (some ⟨q,o,none⟩) l.length cap/\qb w q o (l.map bv)
theorem xA.of_own (h:w.ownsRow U e 1 v l.length (l.map bv)):xA w v l:=by
 rcases h.2 with ⟨rfl,h0⟩ | ⟨g,cap,cur,rfl,hbg,hg,hnc,hcm,hcs,htake⟩
 ·exact .inl ⟨rfl,List.eq_nil_of_length_eq_zero h0⟩
 ·refine .inr ⟨g,0,cap,rfl,?_⟩
  intro j u hu
  have:=h.cells (g:=g) rfl j u hu
  rwa [Addr.add_lit] at this
theorem xA.form (h:xA w v l):∃ ad cap,v=.slice ad l.length cap:=by
 rcases h with ⟨rfl,rfl⟩ | ⟨q,o,cap,rfl,_⟩<;>exact ⟨_,_,rfl⟩
theorem xA.at {w:World} {v:Value} {l:List UInt8} (h:xA w v l) {i:Nat} (hi:i<l.length):∃ q o cap,v=.slice (some ⟨q,o,none⟩) l.length cap/\w.cell? ⟨q,o+i,none⟩=some (.int .u8 (l[i]).toNat):=by
 rcases h with ⟨rfl,rfl⟩ | ⟨q,o,cap,rfl,hc⟩
 ·simp at hi
 ·refine ⟨q,o,cap,rfl,?_⟩
  exact hc i (bv l[i]) (by simp[hi])
theorem cell_heap (h:w'.heap=w.heap) (p:Addr):w'.cell? p=w.cell? p:=by
 unfold World.cell?
 rw[h]
theorem xA.heap {w w':World} (h:w'.heap=w.heap) {v:Value} {l:List UInt8} (hr:xA w v l):xA w' v l:=by
 rcases hr with hr | ⟨q,o,cap,h1,h2⟩
 ·exact .inl hr
 ·exact .inr ⟨q,o,cap,h1,fun i u hu=>by rw[cell_heap h];exact h2 i u hu⟩
theorem xq {ops:List Oper} (ord:List (Nat × Bool)) (S:World->Prop) (hm:P.follows .mixedOrders=true) (hs:Region.noSelect ops.toArray=true) (hl:ord.length=ops.length) (hB:ordB ops.toArray ord (Array.replicate ops.length false)=true) (hQ:∀ c a a' w,Q (.panic c) a w->Q (.panic c) a' w) (h:qJ P ops Q S ord a { w with drawn:=w.drawn+1 }):vc P (rgd ops) Q a w:=vc_runD ord S hm hs hl hB hQ h
theorem wK (hrw:xo P E.tB E.tU8 1=true) (hU8:qW P E.tU8=true) (hmix:P.follows .mixedOrders=true) (ht:Text P E.sSame 2 26 #[.tmp 4] (gW E)) {v1 v2:Value} {xs ys:List UInt8} (h1:xA w v1 xs) (h2:xA w v2 ys) (hb1:xs.length<=big) (hb2:ys.length<=big):
  qa P E.sSame #[v1,v2] w fun r w'=>r=.bool (decide (xs=ys))/\Below U w w':=by
 unfold big at hb1 hb2
 refine qa.enter ht zS ?_
 intro a hsz hdf harg
 have e0:=harg 0 v1 zS
 have e1:=harg 1 v2 zS
 have hsl:=rB hrw
 obtain ⟨ad1,cap1,f1⟩:=h1.form
 obtain ⟨ad2,cap2,f2⟩:=h2.form
 unfold gW
 refine vX (rA (dn (vS (vX (rM ?_)))))
 refine xh (ad:=ad1) (n:=xs.length) (c:=cap1) hsl (by simp (disch:=(try simp only[sP]);omega) only[eV,e0,f1]) ?_
 refine rM ?_
 refine xh (ad:=ad2) (n:=ys.length) (c:=cap2) hsl (by simp (disch:=(try simp only[sP]);omega) only[eV,e1,f2]) ?_
 refine gC (k:=.i64) (m:=(xs.length:Int)) (n:=(ys.length:Int)) zE zE ?_
 refine dn ?_
 refine vS (vC (t:=((xs.length:Int) != (ys.length:Int))) zM ?_ ?_)
 ·intro hne
  have hne':¬ xs=ys:=by
   intro he
   subst he
   simp at hne
  refine vX (rA (dn (vS (vT ?_))))
  exact ⟨by simp only[dF];exact hdf,_,rO zM,by simp[hne'],Below.refl _ _⟩
 intro heq
 have hlen:xs.length=ys.length:=by simp only[bne_eq_false_iff_eq] at heq;omega
 refine vK (vN (vS (vX (rM ?_))))
 refine xh (ad:=ad1) (n:=xs.length) (c:=cap1) hsl (by simp (disch:=(try simp only[sP]);omega) only[eV,e0,f1]) ?_
 refine rM (dn ?_)
 refine vS (qk (xZ (fun m A W=>m<=xs.length/\A.tmps.size=26/\A.defers=[]/\A.eval (.tmp 0)=v1/\A.eval (.tmp 1)=v2/\A.eval (.tmp 12)=.int .i64 (xs.length:Int)/\A.eval (.tmp 13)=.int .i64 ((xs.length-m:Nat):Int) ∧
  W.heap=w.heap/\Below U w W/\∀ j (h:j<xs.length),j<xs.length-m->xs[j]=ys[j]'zH) xs.length ?_ ?_ ?_))
 ·refine ⟨Nat.le_refl _,by simp only[zP];exact hsz,by simp only[dF];exact hdf,zA,zA,zE,?_,rfl,Below.refl _ _,fun j h h'=>by omega⟩
  simp (disch:=(try simp only[sP]);omega) only[eV]
  simp
 ·rintro m A W ⟨hm,hs,hd,g0,g1,g12,g13,hheap,hbl,hall⟩
  have hi:xs.length-(m+1)<xs.length:=by omega
  generalize hii:xs.length-(m+1)=i at *
  have r1:=h1.heap hheap
  have r2:=h2.heap hheap
  obtain ⟨q1,o1,c1,k1,l1⟩:=r1.at hi
  obtain ⟨q2,o2,c2,k2,l2⟩:=r2.at (show i<ys.length by omega)
  obtain ⟨x8,hx8⟩:∃ x8:Nat,(xs[i]).toNat=x8:=⟨_,rfl⟩
  obtain ⟨y8,hy8⟩:∃ y8:Nat,(ys[i]'zH).toNat=y8:=⟨_,rfl⟩
  rw[hx8] at l1
  rw[hy8] at l2
  refine vX ?_
  refine xm (k:=.i64) (m:=(i:Int)) (n:=(xs.length:Int)) g13 g12 ?_
  refine dn ?_
  refine vS (vC (t:=true) ?_ ?_ (fun h=>by cases h))
  ·simp (disch:=(try simp only[sP]);omega) only[eV]
   simp only[Value.bool.injEq,decide_eq_true_eq]
   omega
  intro _
  refine vK ?_
  refine vS (qk (vX ?_))
  refine rM (rA (dn ?_))
  refine vS (xq [(0,true),(1,true),(2,true),(3,true),(4,true),(5,true),(6,true),(7,true),(8,true)] (fun W'=>W'.heap=W.heap) hmix (by kernel_rfl) rfl (by kernel_rfl) (fun _ _ _ _ h=>False.elim h) ?_)
  have hS:({ W with drawn:=W.drawn+1 }:World).heap=W.heap:=rfl
  have hs0:=hs
  refine dP rfl rfl rfl (wN rfl) (by simp only[zP,hs];decide) hS (fun w' hS'=>rM (dn ⟨rfl,rfl,rfl⟩)) ?_
  refine dP rfl rfl rfl (wN rfl) (by simp only[zP,hs];decide) hS (fun w' hS'=>rM (dn ⟨rfl,rfl,rfl⟩)) ?_
  refine dP rfl rfl rfl (wN rfl) (by simp only[zP,hs];decide) hS (fun w' hS'=>qH (k:=.i64) (j:=i) (b:=q1) (o:=o1) (len:=xs.length) (cap:=c1) hsl (by simp (disch:=(try simp only[sP]);omega) only[eV,g0,k1]) zA hi (dn ⟨rfl,rfl,rfl⟩)) ?_
  refine dP rfl rfl rfl (wN rfl) (by simp only[zP,hs];decide) hS (fun w' hS'=>rL (b:=q1) (o:=o1+i*1) zE hU8 (by rw[cell_heap hS',Nat.mul_one];exact l1) (dn ⟨rfl,rfl,rfl⟩)) ?_
  refine dP rfl rfl rfl (wN rfl) (by simp only[zP,hs];decide) hS (fun w' hS'=>rM (dn ⟨rfl,rfl,rfl⟩)) ?_
  refine dP rfl rfl rfl (wN rfl) (by simp only[zP,hs];decide) hS (fun w' hS'=>rM (dn ⟨rfl,rfl,rfl⟩)) ?_
  refine dP rfl rfl rfl (wN rfl) (by simp only[zP,hs];decide) hS (fun w' hS'=>qH (k:=.i64) (j:=i) (b:=q2) (o:=o2) (len:=ys.length) (cap:=c2) hsl (by simp (disch:=(try simp only[sP]);omega) only[eV,g1,k2]) zA zH (dn ⟨rfl,rfl,rfl⟩)) ?_
  refine dP rfl rfl rfl (wN rfl) (by simp only[zP,hs];decide) hS (fun w' hS'=>rL (b:=q2) (o:=o2+i*1) zE hU8 (by rw[cell_heap hS',Nat.mul_one];exact l2) (dn ⟨rfl,rfl,rfl⟩)) ?_
  refine dP rfl rfl rfl (wN rfl) (by simp only[zP,hs];decide) hS (fun w' hS'=>gC (k:=.u8) (m:=(x8:Int)) (n:=(y8:Int)) zE zE (dn ⟨rfl,rfl,rfl⟩)) ?_
  refine xI ?_
  have hbl':Below U w { W with drawn:=W.drawn+1 }:=⟨hbl.os,hbl.tape,hbl.output,hbl.size,hbl.block⟩
  refine vS (vC (t:=((x8:Int) != (y8:Int))) zM ?_ ?_)
  ·intro hne
   have hne':¬ xs=ys:=by
    intro he
    subst he
    rw[hx8] at hy8
    subst hy8
    simp at hne
   refine vX (rA (dn (vS (vT ?_))))
   exact ⟨by simp only[dF];exact hd,_,rO zM,by simp[hne'],hbl'⟩
  ·intro hq
   have hxy:xs[i]=ys[i]'zH:=by
    have:(xs[i]).toNat=(ys[i]'zH).toNat:=by
     simp only[bne_eq_false_iff_eq] at hq
     rw[hx8,hy8]
     omega
    exact UInt8.toNat_inj.1 this
   refine vK (vN (vX ?_))
   refine z8 (k:=.i64) (m:=(i:Int)) (n:=1) zA rfl ?_
   refine rM (dn (vN ?_))
   refine ⟨by omega,by simp only[zP];exact hs,by simp only[dF];exact hd,zA,zA,zA,?_,hheap,hbl',fun j h h'=>?_⟩
   ·simp (disch:=(try simp only[sP]);omega) only[eV]
    rw[wrap_i64 zH zH]
    congr 1
    omega
   ·by_cases hj:j=i
    ·subst hj;exact hxy
    ·exact hall j h zH
 ·rintro A W ⟨hm,hs,hd,g0,g1,g12,g13,hheap,hbl,hall⟩
  have hxy:xs=ys:=List.ext_getElem hlen (fun j h h'=>hall j h zH)
  refine vX ?_
  refine xm (k:=.i64) (m:=((xs.length-0:Nat):Int)) (n:=(xs.length:Int)) g13 g12 ?_
  refine dn ?_
  refine vS (vC (t:=false) ?_ (fun h=>by cases h) ?_)
  ·simp (disch:=(try simp only[sP]);omega) only[eV]
   simp only[Value.bool.injEq,decide_eq_false_iff_not]
   omega
  intro _
  refine xp ?_
  simp only[Exit.then,Exit.inBlock,if_true]
  refine vN (vX (rA (dn (vS (vT ?_)))))
  exact ⟨by simp only[dF];exact hd,_,rO zM,by simp[hxy],hbl⟩
end
end Go.Km
