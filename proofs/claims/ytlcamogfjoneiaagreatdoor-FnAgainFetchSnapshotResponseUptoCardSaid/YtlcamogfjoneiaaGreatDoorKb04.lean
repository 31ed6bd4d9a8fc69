/- Over any program: what the functions of kmsg, kbin and the spec compute. -/
import Derived.Test.YtlcamogfjoneiaaGreatDoorKb02
import Derived.Test.YtlcamogfjoneiaaGreatDoorKb03
import Derived.Laws.IdiomCopy
import Derived.Maps.RangeRun
set_option maxHeartbeats 4000000
set_option linter.unusedSimpArgs false
set_option linter.unusedVariables false
namespace Go.Km
open Go Go.RowKit
variable {B L b cap k n o off rb s sb t ver:Nat} {E:Env} {F:FuncId} {M:Nat->Nat->Prop} {P:Program} {Q:Exit->Act->World->Prop} {S:Value->World->Prop} {T:List (Nat × List UInt8) ->Prop} {W w w':World} {a:Act} {ck:Nat->List UInt8->Bool} {cs:List Value} {ev v:Value} {fx:Bool} {l:List UInt8} {r:List Oper} {st:RSt} {tags:List (Nat × List UInt8)} {x:Cx}
section
attribute [local irreducible] vc rO_ qz qP qJ
theorem RdS.keep {W':World} (h:RdS W rb sb st) (he:Eff M W W') (h1:∀ i,¬ M rb i) (h2:∀ i,¬ M sb i):RdS W' rb sb st:=by
 obtain ⟨v,h3,h4⟩:=h.cells
 exact ⟨h.ne,Nat.lt_of_lt_of_le h.lt he.size,⟨v,h3.eff he (fun i _=>h1 _),h4.heap (he.blockEq h.lt h2)⟩,h.f0.eff he,h.f1.eff he,h.len⟩
theorem RSta.keep {E:Env} {x:Cx} {ver:Nat} {fx:Bool} {rb sb:Nat} {ev:Value} {a a':Act} {w w':World} {st:RSt} {L n t:Nat} {M:Nat->Nat->Prop}
  (h:RSta E x ver fx rb sb ev a w st) (hs:RSl x L n t fx) (hf:Fr (KR L n t) a a') (he:Eff M w w') (h1:∀ i,¬ M rb i) (h2:∀ i,¬ M sb i) (h3:∀ i,¬ M E.vErr i):RSta E x ver fx rb sb ev a' w' st :=
 ⟨h.rd.keep he h1 h2,(h.fr hs hf).p7,(h.fr hs hf).us,(h.fr hs hf).ver,(h.fr hs hf).fl,he.cellSome h.err (h3 _),h.evr,h.evi⟩
theorem m_rcallSt {T0:TypeId} {y q:Nat} {p:Value} {K:Nat->Prop} (hp:a.eval (.tmp x.rd)=p) (hq:a.eval (.tmp y)=.pointer (some ⟨q,0,none⟩)) (hc:qa P F #[p] w S) (h1:qW P T0=true) (hS:∀ v w',S v w'->v.oneCell'=true/\qr w' q 0) (ht:∀ d,t<=d->¬ K d) (hyt:y<t) (hsz:t+1<=a.tmps.size) (k:∀ a' v w',Fr K a a'->(∀ k:Nat,k<t->a'.eval (.tmp k)=a.eval (.tmp k))->S v w'->Q .normal a' (setCells w' q 0 [v])):vc P (ji E x F T0 y t) Q a w:=by
 refine vR zS ?_
 refine q8 (args:=#[p]) ?_ hc ?_
 ·simp only[lM]
  simp (disch:=(try simp only[sP]);omega) only[eV,hp]
 intro v w' hs
 obtain ⟨hv,hf⟩:=hS v w' hs
 refine xC (b:=q) (o:=0) (v:=v) zA zE hv h1 hf ?_
 refine dn ?_
 exact k _ v w' ((Fr.refl K a).put _ (ht _ zH)) (fun k hk=>qj _ _ _ _ zH) hs
theorem m_way4 {y q:Nat} {FC U1 U2 U3:FuncId} {T0:TypeId} (hs:RSl x L n t fx) (hy:y<n) (hst:RSta E x ver fx rb sb ev a w st) (ht:t+x.r3<=a.tmps.size) (hq:a.eval (.tmp y)=.pointer (some ⟨q,0,none⟩)) (hc:qa P (if fx then FC else F) #[.pointer (some ⟨rb,0,none⟩)] w S) (h1:qW P T0=true) (hS:∀ v w',S v w'->v.oneCell'=true/\qr w' q 0) (k:∀ a' v w',Fr (KR L n t) a a'->(∀ k:Nat,k<t->a'.eval (.tmp k)=a.eval (.tmp k))->S v w'->Q .normal a' (setCells w' q 0 [v])):
  vc P (match x.fl with
   | none=>rIf E t 2 (ji E x U1 T0 y (t+1)) (ji E x F T0 y (t+2))
   | some fl=>rIf E t fl (rIf E (t+1) 2 (ji E x U2 T0 y (t+2)) (ji E x FC T0 y (t+3))) (rIf E (t+4) 2 (ji E x U3 T0 y (t+5)) (ji E x F T0 y (t+6)))) Q a w:=by
 have h2:=hs.nL;have h3:=hs.Lt;have h7:=hs.seven;have hrd:=hs.rd
 unfold Cx.r3 at ht
 cases hx:x.fl with
 | none =>
  simp only[hx] at ht ⊢
  have hfx:=hs.no hx
  subst hfx
  refine vz (K:=KR L n t) hst.us (hs.kt _ (Nat.le_refl _)) zH zH (fun h=>by cases h) (fun _ a' hf he=>?_)
  exact m_rcallSt (K:=KR L n t) (by rw[he x.rd zH];exact hst.p7) (by rw[he y zH];exact hq) hc h1 hS (fun d hd=>hs.kt d zH) zH (by rw[hf.size];omega) (fun a2 v w' hf2 he2=>k a2 v w' (hf.trans hf2) (fun j hj=>by rw[he2 j zH,he j zH]))
 | some fl =>
  simp only[hx] at ht ⊢
  have hfl:=hs.fl fl hx
  refine vz (K:=KR L n t) (hst.fl fl hx) (hs.kt _ (Nat.le_refl _)) zH zH ?_ ?_
  ·intro h a' hf he
   subst h
   refine vz (K:=KR L n t) (b:=false) (by rw[he 2 zH];exact hst.us) (hs.kt _ zH) zH (by rw[hf.size];omega) (fun h=>by cases h) (fun _ a2 hf2 he2=>?_)
   exact m_rcallSt (K:=KR L n t) (by rw[he2 x.rd zH,he x.rd zH];exact hst.p7) (by rw[he2 y zH,he y zH];exact hq) hc h1 hS (fun d hd=>hs.kt d zH) zH (by rw[hf2.size,hf.size];omega) (fun a3 v w' hf3 he3=>k a3 v w' ((hf.trans hf2).trans hf3) (fun j hj=>by rw[he3 j zH,he2 j zH,he j zH]))
  ·intro h a' hf he
   subst h
   refine vz (K:=KR L n t) (b:=false) (by rw[he 2 zH];exact hst.us) (hs.kt _ zH) zH (by rw[hf.size];omega) (fun h=>by cases h) (fun _ a2 hf2 he2=>?_)
   exact m_rcallSt (K:=KR L n t) (by rw[he2 x.rd zH,he x.rd zH];exact hst.p7) (by rw[he2 y zH,he y zH];exact hq) hc h1 hS (fun d hd=>hs.kt d zH) zH (by rw[hf2.size,hf.size];omega) (fun a3 v w' hf3 he3=>k a3 v w' ((hf.trans hf2).trans hf3) (fun j hj=>by rw[he3 j zH,he2 j zH,he j zH]))
theorem rv_ntextFrom (H:EnvR P E T) (N:Nat):(Ty.ntextFrom N).RVal P E T:=by
 intro x ver fx L TP TU s f n t b rb sb ev a w st Q hok htx hs hn ht hst hl kn kr
 have h2:=hs.nL;have h3:=hs.Lt;have h7:=hs.seven;have hrd:=hs.rd;have hvs:=hs.vs
 simp only[Ty.okR,Bool.and_eq_true] at hok
 obtain ⟨⟨⟨⟨hok1,hok2⟩,hP⟩,hS⟩,hZ⟩:=hok
 obtain ⟨z,hz,hzc⟩:=zero1_inv hZ
 have hF1:=Cx.ok_fx hok1 hs.no
 have hF2:=Cx.ok_fx hok2 hs.no
 simp only[Ty.rn] at hn
 simp only[Ty.rt] at ht
 simp only[Ty.rc]
 refine vX (rA (dn ?_))
 generalize ha1:Act.put a (some n) _=a1
 have hf1:Fr (KR L n t) a a1:=by subst ha1;exact (Fr.refl _ a).put _ (hs.kn n (Nat.le_refl _) zH)
 clear ha1
 have hz1:=hf1.size
 have hst1:=hst.fr hs hf1
 refine vS (m_ifLss (K:=KR L n t) hst1.ver zH hs.kt zH ?_ ?_)
 ·intro hlt a2 hf2 he2
  simp only[Ty.rd,if_pos hlt] at kn
  have hf2':=hf1.trans hf2
  have hz2:=hf2'.size
  refine vX ?_
  refine qR hz ?_
  refine dn ?_
  generalize ha3:Act.put a2 (some (n+1)) _=a3
  have hf3:Fr (KR L n t) a a3:=by subst ha3;exact hf2'.put _ (hs.kn (n+1) zH zH)
  have he3:a3.eval (.tmp (n+1))=.pointer (some ⟨w.heap.size,0,none⟩):=by subst ha3;exact zE
  clear ha3
  have hz3:=hf3.size
  have hfree:qr (w.alloc (.cells z.cells E.tStr)) w.heap.size 0:=qq w _ _ zH
  have hb0:Below w.heap.size w (w.alloc (.cells z.cells E.tStr)):=(Below.refl w.heap.size w).alloc (o:=.cells _ _) (Nat.le_refl _)
  have hE0:Eff (RM rb) w (w.alloc (.cells z.cells E.tStr)):=(Eff.refl _ w).alloc _
  generalize w.alloc (.cells z.cells E.tStr)=w0 at *
  have hst3:RSta E x ver fx rb sb ev a3 w0 st:=hst.step hs hf3 (hst.rd.below hb0 hst.rd.rb_lt hst.rd.lt) hE0
  refine vS (m_way4 (n:=n+2) (L:=L) (hs.up zH zH zH) zH hst3 zH he3 (H.str fx hF1 rb sb st w0 hst3.rd) hS ?_ ?_)
  ·rintro v w1 ⟨rfl,hr1,hE1⟩
   exact ⟨rfl,hfree.eff hE1⟩
  rintro a4 v w1 hf4 he4 ⟨rfl,hr1,hE1⟩
  have hfree1:=hfree.eff hE1
  have hf4':Fr (KR L n t) a a4:=hf3.trans (hf4.mono (KR.mono zH zH))
  have hz4:=hf4'.size
  have he44:a4.eval (.tmp (n+1))=.pointer (some ⟨w.heap.size,0,none⟩):=by rw[he4 _ zH];exact he3
  have hg:Eff (fun k _=>k=w.heap.size) w1 (setCells w1 w.heap.size 0 [.string ⟨(zT (rdL fx st)).1.toArray⟩]):=(qe _ _ _ _).mono (fun k i _ h=>h.1)
  have hlt1:=hst.rd.lt
  have hlt2:=hst.rd.rb_lt
  have hr2:RdS (setCells w1 w.heap.size 0 [.string ⟨(zT (rdL fx st)).1.toArray⟩]) rb sb (zT (rdL fx st)).2:=hr1.keep hg (by intro i h;omega) (by intro i h;omega)
  have hE2:Eff (RM rb) w (setCells w1 w.heap.size 0 [.string ⟨(zT (rdL fx st)).1.toArray⟩]):=(hE0.trans hE1).trans' hg (by rintro k i hk rfl;omega)
  have hcell:(setCells w1 w.heap.size 0 [.string ⟨(zT (rdL fx st)).1.toArray⟩]).cell? ⟨w.heap.size,0,none⟩=some (.string ⟨(zT (rdL fx st)).1.toArray⟩) :=
   qg _ _ _ _ (fun j hj=>by
    have:j=0:=by simpa using hj
    subst this
    exact hfree1.1) 0 _ rfl
  refine vX (rA (dn ?_))
  have hf5:∀ v,Fr (KR L n t) a (a4.put (some n) v):=fun v=>hf4'.put _ (hs.kn n (Nat.le_refl _) zH)
  refine vN (vN (kn _ _ [.pointer (some ⟨w.heap.size,0,none⟩)] (.bytes (some (zT (rdL fx st)).1)) (hf5 _) (hst.step hs (hf5 _) hr2 hE2) ?_ ?_ hE2 (fun _=>rfl)))
  ·simp only[Ty.Val,Ty.arr,Ty.rslot,Bool.false_eq_true,if_false,Nat.add_zero]
   simp (disch:=(try simp only[sP]);omega) only[eV,he44]
  ·exact ⟨w.heap.size,rfl,Nat.le_refl _,hcell⟩
 ·intro hlt a2 hf2 he2
  simp only[Ty.rd,if_neg hlt] at kn
  have hf2':=hf1.trans hf2
  have hz2:=hf2'.size
  have hst2:=hst.fr hs hf2'
  have fin:∀ a1 v w1,Fr (KR L n t) a a1->a1.eval (.tmp n)=v->((PStr w1 w.heap.size v (x6 (rdL fx st)).1)/\RdS w1 rb sb (x6 (rdL fx st)).2/\Eff (RM rb) w w1)->Q .normal a1 w1:=by
   rintro a1 v w1 hf he ⟨hv,hr,hE⟩
   refine kn a1 w1 [v] (.bytes (x6 (rdL fx st)).1) hf (hst.step hs hf hr hE) ?_ ?_ hE (fun _=>rfl)
   ·simp only[Ty.Val,Ty.arr,Ty.rslot,Bool.false_eq_true,if_false,Nat.add_zero,he]
   ·revert hv
    generalize (x6 (rdL fx st)).1=o
    intro hv
    cases o with
    | none=>simp only[PStr] at hv;rw[hv];rfl
    | some l =>
     obtain ⟨q,h1,h2,h3⟩:=hv
     exact ⟨q,by rw[h1],h2,h3⟩
  refine m_way3 (n:=n) (L:=L) (t:=t+2+x.r3) (hs.up (Nat.le_refl _) zH zH) zH hst2 (by rw[hz2];show t+2+x.r3+x.r3<=_;omega) (H.nstr fx hF2 rb sb st w hst2.rd) ?_
  exact fun a3 v w1 hf3 he3 hS3=>vN (fin a3 v w1 (hf2'.trans (hf3.mono (KR.mono zH zH))) he3 hS3)
def leafV (e:Ty) (cs:List Value):Value:=if e.arr then .agg cs.toArray else cs.headD undef
def Ty.okS (P:Program) (E:Env) (e:Ty):Prop:=if e.arr then zd P (e.T E)=some e.size else qW P (e.T E)=true/\e.size=1
theorem Ty.okR_okS (e:Ty) (h:e.okR P E x=true) (ht:e.tp=none):e.okS P E:=by
 cases e<;>simp_all [Ty.okR,Ty.okS,Ty.arr,Ty.T,Ty.size,Ty.tp]
theorem Ty.Rep.leaf {sb:Sb} (e:Ty) {d:D} (ht:e.tp=none) (h:e.Rep w sb B cs d):cs.length=e.size/\∀ v ∈ cs,v.oneCell'=true:=by
 cases e with
 | struct _ _ _ _=>cases ht
 | scal k _ | named k _ _ =>
  cases d<;>simp only[Ty.Rep] at h
  obtain ⟨rfl,_⟩:=h
  simp[Ty.size,Scal.val_one]
 | uuid =>
  cases d with
  | bytes o =>
   cases o<;>simp only[Ty.Rep] at h
   obtain ⟨h1,rfl⟩:=h
   exact ⟨by simp[h1,Ty.size],xH _⟩
  | _=>simp only[Ty.Rep] at h
 | text =>
  cases d with
  | bytes o =>
   cases o<;>simp only[Ty.Rep] at h
   subst h
   simp[Ty.size,Value.oneCell']
  | _=>simp only[Ty.Rep] at h
 | ntext | ntextFrom _ =>
  cases d with
  | bytes o =>
   cases o<;>simp only[Ty.Rep] at h
   ·subst h;simp[Ty.size,Value.oneCell']
   ·obtain ⟨q,rfl,_⟩:=h;simp[Ty.size,Value.oneCell']
  | _=>simp only[Ty.Rep] at h
 | bytes | nbytes =>
  cases d with
  | bytes o =>
   cases o<;>simp only[Ty.Rep] at h
   ·subst h;simp[Ty.size,Value.oneCell']
   ·obtain ⟨q,o,cap,rfl,_⟩:=h;simp[Ty.size,Value.oneCell']
  | _=>simp only[Ty.Rep] at h
 | list _ _ _ =>
  cases d with
  | list o =>
   cases o<;>simp only[Ty.Rep] at h
   ·rcases h with h | ⟨_,q,cap,h,_⟩<;>subst h<;>simp[Ty.size,Value.oneCell']
   ·obtain ⟨q,cap,rfl,_⟩:=h;simp[Ty.size,Value.oneCell']
  | _=>simp only[Ty.Rep] at h
 | nstruct _ _ _ _ _ =>
  cases d with
  | list o =>
   rcases o with _ | ⟨_ | ⟨d0,_ | ⟨d1,r⟩⟩⟩
   ·simp only[Ty.Rep] at h;subst h;simp[Ty.size,Value.oneCell']
   ·simp only[Ty.Rep] at h
   ·cases d0<;>simp only[Ty.Rep] at h
    obtain ⟨q,c,rfl,_⟩:=h;simp[Ty.size,Value.oneCell']
   ·cases d0<;>simp only[Ty.Rep] at h
  | _=>simp only[Ty.Rep] at h
theorem r_leafLoad {e:Ty} {d:Nat} (hS:e.okS P E) (hl:cs.length=e.size) (hv:e.Val w a s cs) (h:rO_ P Q r (a.put (some d) (leafV e cs)) w):rO_ P Q ((if e.arr then kx d (e.T E) (.tmp s) else qd d (.tmp s) (e.T E))::r) a w:=by
 unfold Ty.Val at hv
 unfold Ty.okS at hS
 unfold leafV at h
 cases ha:e.arr with
 | true =>
  simp only[ha,if_true] at *
  obtain ⟨q,h1,h2⟩:=hv
  exact qf (b:=q) (o:=0) h1 (by rw[hl];exact hS) h2 h
 | false =>
  simp only[ha,Bool.false_eq_true,if_false] at *
  subst hv
  exact rM h
theorem r_leafStore {e:Ty} {x y:Operand} (hS:e.okS P E) (hl:cs.length=e.size) (h1:∀ v ∈ cs,v.oneCell'=true) (hx:a.eval x=.pointer (some ⟨b,o,none⟩)) (hy:a.eval y=leafV e cs) (hf:∀ i,i<e.size->qr w b (o+i)) (h:rO_ P Q r a (setCells w b o cs)):rO_ P Q (zq (e.T E) x y::r) a w:=by
 unfold Ty.okS at hS
 unfold leafV at hy
 cases ha:e.arr with
 | true =>
  simp only[ha,if_true] at *
  exact qy (b:=b) (o:=o) (cs:=cs) hx hy h1 (by rw[hl];exact hS) (by rw[hl];exact hf) h
 | false =>
  simp only[ha,Bool.false_eq_true,if_false] at *
  obtain ⟨hS,hz⟩:=hS
  match cs,hl with
  | [],hl=>rw[hz] at hl;cases hl
  | [v],hl=>exact xC (b:=b) (o:=o) (v:=v) hx hy (h1 v zS) hS (by simpa using hf 0 zH) h
  | _::_::_,hl=>rw[hz] at hl;simp at hl
def FM (rb pb lo n:Nat):Nat->Nat->Prop:=fun k i=>RM rb k i\/(k=pb/\lo<=i/\i<lo+n)
def Flds.RVal (P:Program) (E:Env) (T:List (Nat × List UInt8)->Prop) (fs:Flds):Prop :=
 ∀ (x:Cx) (ver:Nat) (fx:Bool) (L:Nat) (TP TU:TypeId) (s idx off n t b rb sb pb po B:Nat) (ev:Value) (a:Act) (w:World) (st:RSt) (Q:Exit->Act->World->Prop),
  fs.okR P E x TU idx off=true->fs.txR P E->RSl x L n t fx->n+fs.rn<=L->t+fs.rt x<=a.tmps.size->RSta E x ver fx rb sb ev a w st →
  a.eval (.tmp s)=.pointer (some ⟨pb,po,none⟩)->s<n->qb w pb (po+off) fs.dz->(∀ i,i<fs.size->qr w pb (po+off+i))->pb≠rb->pb≠sb->pb≠E.vErr->pb<B->rb<B->B<=w.heap.size →
  (∀ a' w' cs ds tags,Fr (KR L n t) a a'->RSta E x ver fx rb sb ev a' w' (fs.rd fx ver noK st).2.2->cs.length=fs.size->qb w' pb (po+off) cs->fs.Rep w' ⟨sb,T⟩ B cs ds tags->Eff (FM rb pb (po+off) fs.size) w w' →
   ((fs.rd fx ver noK st).2.2.2=false->ds=(fs.rd fx ver noK st).1/\tags=(fs.rd fx ver noK st).2.1)->Q .normal a' w') →
  (∀ a' w',a'.defers=a.defers->a'.tmps.size=a.tmps.size->a'.eval (.tmp 6)=ev->Eff (FM rb pb (po+off) fs.size) w w'->(fs.rd fx ver noK st).2.2.2=true->Q .ret a' w') →
  vc P (sq (Flds.rc E x TP TU s idx [] n t b fs)) Q a w
theorem m_struct {TP TU:TypeId} {FD:FuncId} {fs:Flds} (hF:fs.RVal P E T) {pb po:Nat} {cs0:List Value} (hok:(Ty.struct TP TU FD fs).okR P E x=true) (htx:(Ty.struct TP TU FD fs).txR P E) (hs:RSl x L n t fx) (hn:n+2+fs.rn<=L) (ht:t+(3+fs.rt x)<=a.tmps.size) (hst:RSta E x ver fx rb sb ev a w st) (hp:a.eval (.tmp n)=.pointer (some ⟨pb,po,none⟩)) (hc0:cs0.length=fs.size) (hov:fs.over cs0=fs.dz) (hc:qb w pb po cs0) (hf:∀ i,i<fs.size->qr w pb (po+i)) (h1:pb≠rb) (h2:pb≠sb) (h3:pb≠E.vErr) (hB:pb<B) (hrB:rb<B) (hBw:B<=w.heap.size) (kn:∀ a' w' cs ds tags,Fr (KR L n t) a a'->RSta E x ver fx rb sb ev a' w' (fs.rd fx ver noK st).2.2->cs.length=fs.size->qb w' pb po cs->fs.Rep w' ⟨sb,T⟩ B cs ds tags->Eff (FM rb pb po fs.size) w w' →
   ((fs.rd fx ver noK st).2.2.2=false->ds=(fs.rd fx ver noK st).1/\tags=(fs.rd fx ver noK st).2.1)->Q .normal a' w') (kr:∀ a' w',a'.defers=a.defers->a'.tmps.size=a.tmps.size->a'.eval (.tmp 6)=ev->Eff (FM rb pb po fs.size) w w'->(fs.rd fx ver noK st).2.2.2=true->Q .ret a' w'):
  vc P (sq (Ty.rc E x 0 0 0 0 n t b (.struct TP TU FD fs))) Q a w:=by
 have hnL:=hs.nL;have hLt:=hs.Lt;have h7:=hs.seven;have hrd:=hs.rd
 simp only[Ty.okR,Bool.and_eq_true] at hok
 simp only[Ty.txR] at htx
 obtain ⟨⟨np,nt,htxt,hnt⟩,htx⟩:=htx
 simp only[Ty.rc,List.cons_append,List.nil_append]
 refine vX (rM ?_)
 refine q8 (args:=#[.pointer (some ⟨pb,po,none⟩)]) ?_ (c_dflt (b:=pb) (o:=po) (off:=0) (cs:=cs0) htxt hnt hok.2 hc0 (by rw[Nat.add_zero];exact hc) (by rw[Nat.add_zero];exact hf)) ?_
 ·simp only[lM]
  simp (disch:=(try simp only[sP]);omega) only[eV,hp]
 rintro v w1 ⟨hE1,hc1⟩
 rw[Nat.add_zero] at hE1 hc1
 rw[hov] at hc1
 refine dn (vX (rM (rA (dn ?_))))
 generalize ha1:((((a.put (some t) (a.eval (.tmp n))).put (some (t+1)) v).put (some (t+2)) _).put (some (n+1)) _)=a1
 have hfr:Fr (KR L n t) a a1:=by
  subst ha1
  exact ((((Fr.refl _ a).put _ (hs.kt _ zH)).put _ (hs.kt _ zH)).put _ (hs.kt _ zH)).put _ (hs.kn (n+1) zH zH)
 have hp1:a1.eval (.tmp (n+1))=.pointer (some ⟨pb,po,none⟩):=by
  subst ha1
  exact zA
 have hsz:=hfr.size
 have hE1':Eff (FM rb pb po fs.size) w w1:=hE1.mono (fun k i _ h=>.inr h)
 refine hF x ver fx L TP TU (n+1) 0 0 (n+2) (t+3) b rb sb pb po B ev a1 w1 st Q hok.1 htx (hs.up zH zH zH) hn (by rw[hsz];omega)
  (hst.keep hs hfr hE1 (by rintro i ⟨h,_⟩;exact h1 h.symm) (by rintro i ⟨h,_⟩;exact h2 h.symm) (by rintro i ⟨h,_⟩;exact h3 h.symm)) hp1 zH hc1 (fun i hi=>(hf i hi).eff hE1) h1 h2 h3 hB hrB (Nat.le_trans hBw hE1.size) ?_ ?_
 ·intro a' w' cs ds tags b1 b2 b3 b4 b5 b6 b7
  exact kn a' w' cs ds tags (hfr.trans (b1.mono (KR.mono zH zH))) b2 b3 b4 b5 (hE1'.trans b6) b7
 ·intro a' w' b1 b2 b3 b4 b5
  exact kr a' w' (by rw[b1,hfr.defers]) (by rw[b2,hsz]) b3 (hE1'.trans b4) b5
section
variable {K : Nat → Prop}
theorem m_listNull {TS te:TypeId} {sz N vs y z:Nat} {l:Int} {v0:Value} (hB:xo P TS te sz=true) (hy:a.eval (.tmp y)=v0) (hz:a.eval (.tmp z)=.int .i32 l) (hv:a.eval (.tmp vs)=.int .i16 (ver:Int)) (hky:¬ K y) (ht:∀ d,t<=d->¬ K d) (hyt:y<t) (hzt:z<t) (hvt:vs<t) (hsz:t+7<=a.tmps.size) (k:∀ a' w' v,Fr K a a'->Below w.heap.size w w'->a'.eval (.tmp y)=v->(if (decide (ver<N)||l==0)=true then ∃ q,v=.slice (some ⟨q,0,none⟩) 0 0/\w.heap.size<=q/\q<w'.heap.size else v=v0)->Q .normal a' w'):
  vc P (sq [rg [qd t (.tmp vs) E.tI16,zZ (t+1) .lss E.tI16 (.tmp t) (i16 N) E.tI16 E.tO,qd (t+2) (.tmp (t+1)) E.tO,
    ⟨some (t+3),.move (.tmp z),E.tI32,"",#[],some (2,false)⟩,
    ⟨some (t+4),.binOp .eql E.tI32 (.tmp (t+3)) (i32 0) E.tI32,E.tO,"",#[],some (2,false)⟩,
    (oQ (t+5) (.pick (.tmp (t+2)) (.const (.bool true)) (.tmp (t+4))) E.tO)],
    .cond (.tmp (t+5)) (rg [zB (t+6) TS 0 #[],qc y (.tmp (t+6)) TS]) .skip]) Q a w:=by
 have hfr:∀ v0 v1 v2 v3 v4 v5,Fr K a ((((((a.put (some t) v0).put (some (t+1)) v1).put (some (t+2)) v2).put (some (t+3)) v3).put (some (t+4)) v4).put (some (t+5)) v5):=fun _ _ _ _ _ _ =>
  ((((((Fr.refl K a).put _ (ht _ zH)).put _ (ht _ zH)).put _ (ht _ zH)).put _ (ht _ zH)).put _ (ht _ zH)).put _ (ht _ zH)
 have fin:∀ (a1:Act),Fr K a a1->a1.eval (.tmp y)=v0->a1.eval (.tmp (t+5))=.bool (decide (ver<N)||l==0)->vc P (sq [.cond (.tmp (t+5)) (rg [zB (t+6) TS 0 #[],qc y (.tmp (t+6)) TS]) .skip]) Q a1 w:=by
  intro a1 hf hy1 h5
  have hs1:=hf.size
  refine vS (vC h5 ?_ ?_)
  ·intro h
   refine vR zS ?_
   refine jY hB ?_
   refine rA (dn (vN ?_))
   refine k _ _ (.slice (some ⟨w.heap.size,0,none⟩) 0 0) ((hf.put _ (ht _ zH)).put _ hky) ((Below.refl w.heap.size w).alloc (o:=.cells _ _) (Nat.le_refl _)) zE ?_
   rw[if_pos h]
   exact ⟨w.heap.size,rfl,Nat.le_refl _,by simp⟩
  ·intro h
   refine vK (vN ?_)
   refine k a1 w v0 hf (Below.refl _ _) hy1 ?_
   rw[if_neg (by rw[h];decide)]
 refine vS (vc_runG (dj:=t+2) zS rfl ?_)
 refine g_mv ?_
 refine g_lss (k:=.i16) (m:=ver) (n:=N) zA rfl ?_
 refine g_mv ?_
 by_cases h:(ver:Int)<N
 ·refine g_skip (b:=decide ((ver:Int)<N)) zE (by simpa using h) ?_
  refine g_skip (b:=decide ((ver:Int)<N)) zE (by simpa using h) ?_
  refine g_pick (b:=decide ((ver:Int)<N)) (v:=.bool true) zE (by rw[if_pos (by simpa using h)];rfl) ?_
  refine g_dn ?_
  refine fin _ (hfr _ _ _ _ _ _) zA ?_
  have:(ver<N):=by omega
  rw[qE _ _ _ (by simp only[zP];omega)]
  simp[this]
 ·refine g_want (b:=decide ((ver:Int)<N)) zE (by simpa using h) ?_
  refine g_mv ?_
  refine g_want (b:=decide ((ver:Int)<N)) zE (by simpa using h) ?_
  refine g_eql (k:=.i32) (m:=l) (n:=0) zA rfl ?_
  refine g_pick (b:=decide ((ver:Int)<N)) (v:=.bool (l==0)) zE (by rw[if_neg (by simpa using h)];exact zE) ?_
  refine g_dn ?_
  refine fin _ (hfr _ _ _ _ _ _) zA ?_
  have:¬ (ver<N):=by omega
  rw[qE _ _ _ (by simp only[zP];omega)]
  simp[this]
theorem m_listOk (H:EnvR P E T) (hr:RdS w rb sb st) (he:w.cell? ⟨E.vErr,0,none⟩=some ev) (hp:a.eval (.tmp x.rd)=.pointer (some ⟨rb,0,none⟩)) (ht:∀ d,t<=d->¬ K d) (h7:7<t) (hx:x.rd<t) (hsz:t+3<=a.tmps.size) (kn:st.2=false->∀ a',Fr K a a'->Q .normal a' w) (kr:st.2=true->∀ a',a'.defers=a.defers->a'.tmps.size=a.tmps.size->a'.eval (.tmp 6)=ev->Q .ret a' w):
  vc P (sq [rg [xj (some t) E.rOk #[.tmp x.rd] #[E.tRd] E.tO,oUn (t+1) .not E.tO (.tmp t) E.tO],
   .cond (.tmp (t+1)) (sq [xb E x E.rComplete E.tErr 6 (t+2),.ret]) .skip]) Q a w:=by
 refine vX ?_
 refine q8 (args:=#[.pointer (some ⟨rb,0,none⟩)]) ?_ (H.ok rb sb st w hr) ?_
 ·simp only[lM]
  simp (disch:=(try simp only[sP]);omega) only[eV,hp]
 rintro v w1 ⟨rfl,rfl⟩
 refine zG (b:=!st.2) zE ?_
 refine dn ?_
 refine vS (vC (t:=st.2) (by rw[qE _ _ _ (by simp only[zP];omega)];simp) ?_ ?_)
 ·intro h
  refine vX ?_
  refine q8 (args:=#[.pointer (some ⟨rb,0,none⟩)]) ?_ (H.complete rb sb st w1 ev hr he) ?_
  ·simp only[lM]
   simp (disch:=(try simp only[sP]);omega) only[eV,hp]
  rintro v w2 ⟨rfl,rfl⟩
  refine rA (dn (vS (vT ?_)))
  refine kr h _ (by simp only[dF]) (by simp only[zP]) ?_
  rw[if_pos h]
  exact zE
 ·intro h
  refine vK (vN (kn h _ ?_))
  exact ((Fr.refl K a).put _ (ht _ zH)).put _ (ht _ zH)
abbrev SlM (b0:Option Addr) (c0 k:Nat):Prop:=c0≠0/\b0=some ⟨k,0,none⟩
theorem m_listGrow (H:EnvR P E T) {TS te:TypeId} {sz y z n0 c0:Nat} {l:Int} {base:Option Addr} {zv:Value} {rest:List Code} (hB:xo P TS te sz=true) (hzt:qQ P te=some zv) (hy:a.eval (.tmp y)=.slice base n0 c0) (hz:a.eval (.tmp z)=.int .i32 l) (hl:l<=big) (ho:c0≠0->(∀ v ∈ zv.cells.toList,v.oneCell'=true)/\∃ q,base=some ⟨q,0,none⟩/\∀ i,i<c0*sz->qr w q i) (hky:¬ K y) (ht:∀ d,t<=d->¬ K d) (hyt:y<t) (hzt2:z<t) (hsz:t+7<=a.tmps.size) (k:∀ a' w',Fr K a a'->Eff (fun k _=>SlM base c0 k) w w'->((l<=0/\a'.eval (.tmp y)=.slice base 0 c0/\w'=w) ∨
   (0<l/\∃ q cap,a'.eval (.tmp y)=.slice (some ⟨q,0,none⟩) l.toNat cap/\(q=w.heap.size\/SlM base c0 q)/\q<w'.heap.size/\l.toNat<=cap/\(∀ j,j<l.toNat->qb w' q (j*sz) zv.cells.toList)/\∀ i,i<cap*sz->qr w' q i))->vc P (sq rest) Q a' w'):
  vc P (sq (rg [qd t (.tmp y) TS,oSlice (t+1) TS (.tmp t) none (some (i64 0)) none,qc y (.tmp (t+1)) TS] ::
   sq [rg [qd (t+2) (.tmp z) E.tI32,zZ (t+3) .gtr E.tI32 (.tmp (t+2)) (i32 0) E.tI32 E.tO],
   .cond (.tmp (t+3)) (rg [qd (t+4) (.tmp y) TS,qd (t+5) (.tmp z) E.tI32,xR (t+6) .append #[.tmp (t+4),.tmp (t+5)] #[TS,E.tI32] TS,qc y (.tmp (t+6)) TS]) .skip]::rest)) Q a w:=by
 by_cases hyz:y=z
 ·subst hyz;rw[hy] at hz;cases hz
 refine vX (rM ?_)
 refine r_slice0 (ad:=base) (len:=n0) (cap:=c0) (k:=.i64) (rB hB) zA rfl ?_
 refine rA (dn (vS (vX (rM ?_))))
 refine jq (k:=.i32) (m:=l) (n:=0) zA rfl ?_
 refine dn ?_
 generalize ha1:Act.put (Act.put (Act.put (Act.put (Act.put a _ _) _ _) _ _) _ _) _ _=a1
 have hfr:Fr K a a1:=by
  subst ha1
  exact (((((Fr.refl K a).put _ (ht _ zH)).put _ (ht _ zH)).put _ hky).put _ (ht _ zH)).put _ (ht _ zH)
 have hy1:a1.eval (.tmp y)=.slice base 0 c0:=by subst ha1;exact zE
 have hz1:a1.eval (.tmp z)=.int .i32 l:=by subst ha1;exact zA
 have hc1:a1.eval (.tmp (t+3))=.bool (decide (l>0)):=by subst ha1;exact zE
 have hs1:=hfr.size
 clear ha1
 refine vS (vC hc1 ?_ ?_)
 ·intro h
  have hl0:0<l:=by simpa using h
  obtain ⟨n,rfl⟩:∃ n:Nat,l=(n:Int):=⟨l.toNat,by omega⟩
  refine vR zS ?_
  refine rM (rM ?_)
  refine r_appendMake (base:=base) (n:=n) (c:=c0) (k:=.i32) hB H.i32 hzt zA zA zH zH ho ?_
  intro q cap w' h1 h2 h3 h4 h5 h6
  refine rA ?_
  refine dn (vN (k _ w' ?_ h1 (.inr ⟨hl0,q,cap,?_,h2,h3,?_,?_,h6⟩)))
  ·exact (((hfr.put _ (ht _ zH)).put _ (ht _ zH)).put _ (ht _ zH)).put _ hky
  ·rw[Int.toNat_natCast]
   exact zE
  ·rw[Int.toNat_natCast];exact h4
  ·rw[Int.toNat_natCast];exact h5
 ·intro h
  have hl0:l<=0:=by simp at h;omega
  exact vK (vN (k a1 w hfr (Eff.refl _ _) (.inl ⟨hl0,hy1,rfl⟩)))
end
theorem rdCn_le (h:(xy fx st).2.2=false):(xy fx st).1<=((xy fx st).2.1.length:Int):=by
 unfold xy at h ⊢
 cases fx<;>simp only[Bool.false_eq_true,if_false,if_true,rdC4,rdCc] at h ⊢<;>(unfold zo at h ⊢;split at h<;>first | (cases h;done) | (rename_i hh;rw[if_neg hh];omega))
theorem kf (f:RSt->D × RSt):∀ (n:Nat) (st:RSt),xg f (n+1) st=((xg f n st).1++[(f (xg f n st).2).1],(f (xg f n st).2).2)
 | 0,st=>rfl
 | n+1,st=>by
  rw[xg,kf f n (f st).2]
  simp only[xg,List.cons_append]
theorem rdMany_bad {f:RSt->D × RSt} (hf:∀ st,(f st).2.2=false->st.2=false) (n:Nat) (st:RSt):∀ k,(xg f n st).2.2=true->(xg f (n+k) st).2.2=true
 | 0,h=>h
 | k+1,h=>by
  have ih:=rdMany_bad hf n st k h
  rw[← Nat.add_assoc,kf]
  cases hh:(f (xg f (n+k) st).2).2.2 with
  | true=>rfl
  | false=>rw[hf _ hh] at ih;cases ih
def ListV (null:Option Nat) (ver sz:Nat) (zc:List Value) (l:Int) (b0:Option Addr) (c0:Nat) (w w':World) (v:Value):Prop :=
 (l<=0/\∃ base cap,v=.slice base 0 cap/\(if jd null ver l=true then cap=0/\∃ q,base=some ⟨q,0,none⟩/\w.heap.size<=q/\q<w'.heap.size else base=b0/\cap=c0)) ∨
 (0<l/\∃ q cap,v=.slice (some ⟨q,0,none⟩) l.toNat cap/\(w.heap.size<=q\/SlM b0 c0 q)/\q<w'.heap.size/\l.toNat<=cap/\(∀ j,j<l.toNat->qb w' q (j*sz) zc)/\∀ i,i<cap*sz->qr w' q i)
def SlO (w:World) (rb sb ve sz:Nat) (zc:List Value) (b0:Option Addr) (c0:Nat):Prop :=
 c0≠0->(∀ v ∈ zc,v.oneCell'=true)/\∃ q,b0=some ⟨q,0,none⟩/\q≠rb/\q≠sb/\q≠ve/\∀ i,i<c0*sz->qr w q i
abbrev GM (rb:Nat) (b0:Option Addr) (c0:Nat):Nat->Nat->Prop:=fun k i=>RM rb k i\/SlM b0 c0 k
def rNull (E:Env) (x:Cx) (TS:TypeId) (null:Option Nat) (n t:Nat):List Code :=
 match null with
 | none=>[]
 | some N=>[sq [rg [qd t (.tmp x.vs) E.tI16,zZ (t+1) .lss E.tI16 (.tmp t) (i16 N) E.tI16 E.tO,qd (t+2) (.tmp (t+1)) E.tO,
    ⟨some (t+3),.move (.tmp (n+2)),E.tI32,"",#[],some (2,false)⟩,
    ⟨some (t+4),.binOp .eql E.tI32 (.tmp (t+3)) (i32 0) E.tI32,E.tO,"",#[],some (2,false)⟩,
    (oQ (t+5) (.pick (.tmp (t+2)) (.const (.bool true)) (.tmp (t+4))) E.tO)],
    .cond (.tmp (t+5)) (rg [zB (t+6) TS 0 #[],qc (n+1) (.tmp (t+6)) TS]) .skip]]
theorem m_listTail (H:EnvR P E T) {TS te:TypeId} {sz:Nat} {null:Option Nat} {t0:Nat} {a0:Act} {w0:World} {rest:List Code} {zv:Value} {l:Int} {b0:Option Addr} {n0 c0:Nat} (hB:xo P TS te sz=true) (hzt:qQ P te=some zv) (hs:RSl x L n t0 fx) (hn:n+3<=L) (h0t:t0<=t) (ht:t+(if null.isSome then 7 else 0)+3+2+5<=a.tmps.size) (hst:RSta E x ver fx rb sb ev a w st) (hf0:Fr (KR L n t0) a0 a) (hE0:Eff (RM rb) w0 w) (hy:a.eval (.tmp (n+1))=.slice b0 n0 c0) (ho:SlO w rb sb E.vErr sz zv.cells.toList b0 c0) (hz:a.eval (.tmp (n+2))=.int .i32 l) (hl:st.2=false->l<=big) (kn:∀ a' w' v,Fr (KR L n t0) a0 a'->RSta E x ver fx rb sb ev a' w' st->st.2=false->a'.eval (.tmp (n+1))=v->a'.eval (.tmp (n+2))=.int .i32 l->Eff (GM rb b0 c0) w0 w'->ListV null ver sz zv.cells.toList l b0 c0 w0 w' v->vc P (sq rest) Q a' w') (kr:∀ a' w',a'.defers=a0.defers->a'.tmps.size=a0.tmps.size->a'.eval (.tmp 6)=ev->Eff (RM rb) w0 w'->st.2=true->Q .ret a' w'):
  vc P (sq (rNull E x TS null n t ++
   (sq [rg [xj (some (t+(if null.isSome then 7 else 0))) E.rOk #[.tmp x.rd] #[E.tRd] E.tO,oUn (t+(if null.isSome then 7 else 0)+1) .not E.tO (.tmp (t+(if null.isSome then 7 else 0))) E.tO],
    .cond (.tmp (t+(if null.isSome then 7 else 0)+1)) (sq [xb E x E.rComplete E.tErr 6 (t+(if null.isSome then 7 else 0)+2),.ret]) .skip] ::
    rg [qd (t+(if null.isSome then 7 else 0)+3) (.tmp (n+1)) TS,oSlice (t+(if null.isSome then 7 else 0)+4) TS (.tmp (t+(if null.isSome then 7 else 0)+3)) none (some (i64 0)) none,qc (n+1) (.tmp (t+(if null.isSome then 7 else 0)+4)) TS] ::
    sq [rg [qd (t+(if null.isSome then 7 else 0)+5) (.tmp (n+2)) E.tI32,zZ (t+(if null.isSome then 7 else 0)+6) .gtr E.tI32 (.tmp (t+(if null.isSome then 7 else 0)+5)) (i32 0) E.tI32 E.tO],
    .cond (.tmp (t+(if null.isSome then 7 else 0)+6)) (rg [qd (t+(if null.isSome then 7 else 0)+7) (.tmp (n+1)) TS,qd (t+(if null.isSome then 7 else 0)+8) (.tmp (n+2)) E.tI32,xR (t+(if null.isSome then 7 else 0)+9) .append #[.tmp (t+(if null.isSome then 7 else 0)+7),.tmp (t+(if null.isSome then 7 else 0)+8)] #[TS,E.tI32] TS,qc (n+1) (.tmp (t+(if null.isSome then 7 else 0)+9)) TS]) .skip]::rest))) Q a w:=by
 have hnL:=hs.nL;have hLt:=hs.Lt;have h7:=hs.seven;have hrd:=hs.rd;have hvs:=hs.vs
 have hkt:∀ d,t0<=d->¬ KR L n t0 d:=hs.kt
 have hky:¬ KR L n t0 (n+1):=hs.kn _ zH zH
 have e0:=hE0.size
 -- behind the null part
 have fin:∀ (t2:Nat) (a1:Act) (w1:World) (base:Option Addr) (n1 c1:Nat),t<=t2->t2+3+2+5<=a.tmps.size->Fr (fun k=>KR L n t0 k\/k=n+2) a a1->Below w.heap.size w w1->a1.eval (.tmp (n+1))=.slice base n1 c1 →
   (if jd null ver l=true then c1=0/\∃ q,base=some ⟨q,0,none⟩/\w.heap.size<=q/\q<w1.heap.size else base=b0/\c1=c0) →
   vc P (sq (sq [rg [xj (some t2) E.rOk #[.tmp x.rd] #[E.tRd] E.tO,oUn (t2+1) .not E.tO (.tmp t2) E.tO],
    .cond (.tmp (t2+1)) (sq [xb E x E.rComplete E.tErr 6 (t2+2),.ret]) .skip] ::
    rg [qd (t2+3) (.tmp (n+1)) TS,oSlice (t2+4) TS (.tmp (t2+3)) none (some (i64 0)) none,qc (n+1) (.tmp (t2+4)) TS] ::
    sq [rg [qd (t2+5) (.tmp (n+2)) E.tI32,zZ (t2+6) .gtr E.tI32 (.tmp (t2+5)) (i32 0) E.tI32 E.tO],
    .cond (.tmp (t2+6)) (rg [qd (t2+7) (.tmp (n+1)) TS,qd (t2+8) (.tmp (n+2)) E.tI32,xR (t2+9) .append #[.tmp (t2+7),.tmp (t2+8)] #[TS,E.tI32] TS,qc (n+1) (.tmp (t2+9)) TS]) .skip]::rest)) Q a1 w1:=by
  intro t2 a1 w1 base n1 c1 htt hsz hf hb hy1 hbase
  have hfk:=hf.mono (fun k h=>Or.inl h:∀ k,KR L n t0 k->_)
  have hz1:a1.eval (.tmp (n+2))=.int .i32 l:=by rw[hf.slot _ (.inr rfl)];exact hz
  have hst1:RSta E x ver fx rb sb ev a1 w1 st:=(hst.step hs hfk (hst.rd.below hb hst.rd.rb_lt hst.rd.lt) (Eff.of_below hb))
  have hs1:=hf.size
  have hE1:Eff (RM rb) w0 w1:=hE0.trans (Eff.of_below hb)
  refine vS (m_listOk (K:=fun k=>KR L n t0 k\/k=n+1\/k=n+2) H hst1.rd hst1.err hst1.p7 (by rintro d hd (h | h | h);exact hkt d zH h;omega;omega) zH zH (by rw[hs1];omega) ?_ ?_)
  ·intro hb0 a2 hf2
   have hs2:=hf2.size
   have hsl:∀ k,SlM base c1 k->SlM b0 c0 k:=by
    rintro k ⟨h,hh⟩
    split at hbase
    ·exact absurd hbase.1 h
    ·obtain ⟨rfl,rfl⟩:=hbase
     exact ⟨h,hh⟩
   have ho1:SlO w1 rb sb E.vErr sz zv.cells.toList base c1:=by
    intro h
    split at hbase
    ·exact absurd hbase.1 h
    ·obtain ⟨rfl,rfl⟩:=hbase
     obtain ⟨z1,q,z2,z3,z4,z5,z6⟩:=ho h
     exact ⟨z1,q,z2,z3,z4,z5,fun i hi=>(z6 i hi).eff (M:=RM rb) (Eff.of_below hb)⟩
   have hq:∀ k,SlM base c1 k->k≠rb/\k≠sb/\k≠E.vErr:=by
    rintro k ⟨h,hh⟩
    obtain ⟨_,q,z2,z3,z4,z5,_⟩:=ho1 h
    rw[hh] at z2
    cases z2
    exact ⟨z3,z4,z5⟩
   refine m_listGrow (K:=fun k=>KR L n t0 k\/k=n+2) (t:=t2+3) (base:=base) (n0:=n1) (c0:=c1) (l:=l) H hB hzt (by rw[hf2.slot _ (.inr (.inl rfl))];exact hy1) (by rw[hf2.slot _ (.inr (.inr rfl))];exact hz1) (hl hb0) (fun h=>by obtain ⟨z1,q,z2,_,_,_,z6⟩:=ho1 h;exact ⟨z1,q,z2,z6⟩)
    (by rintro (h | h);exact hky h;omega) (by rintro d hd (h | h);exact hkt d zH h;omega) zH zH (by rw[hs2,hs1];omega) ?_
   intro a3 w3 hf3 hE3 hcase
   have hfk3:Fr (KR L n t0) a a3:=(hfk.trans (hf2.mono (fun k h=>.inl h))).trans (hf3.mono (fun k h=>.inl h))
   have hst3:RSta E x ver fx rb sb ev a3 w3 st:=hst1.keep hs ((hf2.mono (fun k h=>.inl h)).trans (hf3.mono (fun k h=>.inl h))) hE3 (fun i h=>(hq _ h).1 rfl) (fun i h=>(hq _ h).2.1 rfl) (fun i h=>(hq _ h).2.2 rfl)
   refine kn a3 w3 _ (hf0.trans hfk3) hst3 hb0 rfl (by rw[hf3.slot _ (.inr rfl),hf2.slot _ (.inr (.inr rfl))];exact hz1) ((hE1.mono (fun k i _ h=>.inl h)).trans (hE3.mono (fun k i _ h=>.inr (hsl k h)))) ?_
   rcases hcase with ⟨hl0,hy3,rfl⟩ | ⟨hl0,q,cap,hy3,h3,h4,h5,h6,h7⟩
   ·refine .inl ⟨hl0,base,c1,hy3,?_⟩
    split at hbase
    ·rename_i hh
     rw[if_pos hh]
     obtain ⟨h0,q,h1,h2,h3⟩:=hbase
     exact ⟨h0,q,h1,by omega,h3⟩
    ·rename_i hh
     rw[if_neg hh]
     exact hbase
   ·have:=hE1.size
    exact .inr ⟨hl0,q,cap,hy3,h3.imp (fun h=>by omega) (hsl q),h4,h5,h6,h7⟩
  ·intro hb1 a2 h1 h2 h3
   exact kr a2 w1 (by rw[h1,hf.defers,hf0.defers]) (by rw[h2,hf.size,hf0.size]) h3 hE1 hb1
 cases null with
 | none =>
  simp only[rNull,Option.isSome_none,Bool.false_eq_true,if_false,Nat.add_zero,List.nil_append] at ht ⊢
  refine fin t a w b0 n0 c0 (Nat.le_refl _) ht (Fr.refl _ _) (Below.refl _ _) hy ?_
  rw[if_neg (by simp[jd])]
  exact ⟨rfl,rfl⟩
 | some N =>
  simp only[rNull,Option.isSome_some,if_true,List.cons_append,List.nil_append] at ht ⊢
  refine vS (m_listNull (K:=fun k=>KR L n t0 k\/k=n+2) (ver:=ver) hB hy hz hst.ver (by rintro (h | h);exact hky h;omega) (by rintro d hd (h | h);exact hkt d zH h;omega) zH zH zH zH ?_)
  intro a1 w1 v hf hb hy1 hbase
  split at hbase
  ·rename_i hh
   obtain ⟨q,rfl,h2,h3⟩:=hbase
   refine fin (t+7) a1 w1 (some ⟨q,0,none⟩) 0 0 zH ht hf hb hy1 ?_
   rw[if_pos (by simpa [jd] using hh)]
   exact ⟨rfl,q,rfl,h2,h3⟩
  ·rename_i hh
   subst hbase
   refine fin (t+7) a1 w1 b0 n0 c0 zH ht hf hb hy1 ?_
   rw[if_neg (by simpa [jd] using hh)]
   exact ⟨rfl,rfl⟩
def rTail (E:Env) (x:Cx) (TS:TypeId) (null:Option Nat) (n t:Nat):List Code :=
 rNull E x TS null n t ++
   [sq [rg [xj (some (t+(if null.isSome then 7 else 0))) E.rOk #[.tmp x.rd] #[E.tRd] E.tO,oUn (t+(if null.isSome then 7 else 0)+1) .not E.tO (.tmp (t+(if null.isSome then 7 else 0))) E.tO],
    .cond (.tmp (t+(if null.isSome then 7 else 0)+1)) (sq [xb E x E.rComplete E.tErr 6 (t+(if null.isSome then 7 else 0)+2),.ret]) .skip],
    rg [qd (t+(if null.isSome then 7 else 0)+3) (.tmp (n+1)) TS,oSlice (t+(if null.isSome then 7 else 0)+4) TS (.tmp (t+(if null.isSome then 7 else 0)+3)) none (some (i64 0)) none,qc (n+1) (.tmp (t+(if null.isSome then 7 else 0)+4)) TS],
    sq [rg [qd (t+(if null.isSome then 7 else 0)+5) (.tmp (n+2)) E.tI32,zZ (t+(if null.isSome then 7 else 0)+6) .gtr E.tI32 (.tmp (t+(if null.isSome then 7 else 0)+5)) (i32 0) E.tI32 E.tO],
    .cond (.tmp (t+(if null.isSome then 7 else 0)+6)) (rg [qd (t+(if null.isSome then 7 else 0)+7) (.tmp (n+1)) TS,qd (t+(if null.isSome then 7 else 0)+8) (.tmp (n+2)) E.tI32,xR (t+(if null.isSome then 7 else 0)+9) .append #[.tmp (t+(if null.isSome then 7 else 0)+7),.tmp (t+(if null.isSome then 7 else 0)+8)] #[TS,E.tI32] TS,qc (n+1) (.tmp (t+(if null.isSome then 7 else 0)+9)) TS]) .skip]]
theorem rListHead_eq (E:Env) (x:Cx) (TP TU TS:TypeId) (null:Option Nat) (n s f t:Nat):we E x TP TU TS null n s f t =
  [yV TP TU TS n s f t,rg [qd (t+4) (.tmp n) TS,qc (n+1) (.tmp (t+4)) TS],rg [qc (n+2) (i32 0) E.tI32],
   (match x.fl with
   | none=>xb E x E.rLen E.tI32 (n+2) (t+5)
   | some fl=>rIf E (t+5) fl (xb E x E.rCLen E.tI32 (n+2) (t+6)) (xb E x E.rLen E.tI32 (n+2) (t+7)))]++rTail E x TS null n (t+5+(match x.fl with | none=>1 | some _=>3)):=by
 cases null<;>rfl
theorem m_listHead (H:EnvR P E T) {TP TU TS te:TypeId} {sz:Nat} {null:Option Nat} {f pb po:Nat} {rest:List Code} {zv:Value} {b0:Option Addr} {n0 c0:Nat} (hlen:x.ok E.rCLen E.rLen=true) (hTS:qW P TS=true) (hB:xo P TS te sz=true) (hzt:qQ P te=some zv) (hs:RSl x L n t fx) (hn:n+3<=L) (ht:t+5+(match x.fl with | none=>1 | some _=>3)+(if null.isSome then 7 else 0)+3+2+5<=a.tmps.size) (hst:RSta E x ver fx rb sb ev a w st) (hp:a.eval (.tmp s)=.pointer (some ⟨pb,po,none⟩)) (hsn:s<n) (hfo:qh P TU f=some off) (hc:w.cell? ⟨pb,po+off,none⟩=some (.slice b0 n0 c0)) (ho:SlO w rb sb E.vErr sz zv.cells.toList b0 c0) (kn:∀ a' w' v,Fr (KR L n t) a a'->RSta E x ver fx rb sb ev a' w' (xy fx st).2->(xy fx st).2.2=false->a'.eval (.tmp (n+1))=v->a'.eval (.tmp (n+2))=.int .i32 (xy fx st).1->Eff (GM rb b0 c0) w w'->ListV null ver sz zv.cells.toList (xy fx st).1 b0 c0 w w' v->vc P (sq rest) Q a' w') (kr:∀ a' w',a'.defers=a.defers->a'.tmps.size=a.tmps.size->a'.eval (.tmp 6)=ev->Eff (RM rb) w w'->(xy fx st).2.2=true->Q .ret a' w'):
  vc P (sq (we E x TP TU TS null n s f t++rest)) Q a w:=by
 have hnL:=hs.nL;have hLt:=hs.Lt;have h7:=hs.seven;have hrd:=hs.rd
 have hF:=Cx.ok_fx hlen hs.no
 have hkt:=hs.kt
 rw[rListHead_eq]
 simp only[List.append_assoc,List.cons_append,List.nil_append]
 refine vS (m_load (K:=KR L n t) hp hfo hTS hc (hs.kn n (Nat.le_refl _) zH) hkt zH zH ?_)
 intro a1 hf1 hv1
 have hs1:=hf1.size
 refine vX (rM (rA (dn (vX (rA (dn ?_))))))
 generalize ha2:Act.put (Act.put (Act.put a1 _ _) _ _) _ _=a2
 have hf2:Fr (KR L n t) a a2:=by
  subst ha2
  exact ((hf1.put _ (hkt _ zH)).put _ (hs.kn (n+1) zH zH)).put _ (hs.kn (n+2) zH zH)
 have hy2:a2.eval (.tmp (n+1))=.slice b0 n0 c0:=by subst ha2;exact zA
 have hs2:=hf2.size
 clear ha2
 have hst2:=hst.fr hs hf2
 have hs':RSl x L (n+2) (t+5) fx:=hs.up zH zH zH
 have hgo:=fun (t1:Nat) (r1:List Code) (h1:t+5<=t1) (hk:∀ a3 w3,Fr (KR L (n+2) (t+5)) a2 a3->a3.eval (.tmp (n+2))=.int .i32 (xy fx st).1->RdS w3 rb sb (xy fx st).2->Eff (RM rb) w w3->vc P (sq r1) Q a3 w3) =>
  m_way1 (P:=P) (Q:=Exit.then (vc P (sq r1) Q) Q) (T0:=E.tI32) hs' zH hst2 (by rw[hs2];cases hx:x.fl<;>simp only[hx] at ht ⊢<;>omega) (H.len fx hF rb sb st w hst2.rd) (fun a3 v w3 hf he hS=>hk a3 w3 hf (by rw[he,hS.1]) hS.2.1 hS.2.2)
 have tail:∀ (t1:Nat) (a3:Act) (w3:World),t+5<=t1->t1+(if null.isSome then 7 else 0)+3+2+5<=a.tmps.size->Fr (KR L (n+2) (t+5)) a2 a3->a3.eval (.tmp (n+2))=.int .i32 (xy fx st).1->RdS w3 rb sb (xy fx st).2->Eff (RM rb) w w3->vc P (sq (rTail E x TS null n t1++rest)) Q a3 w3:=by
  intro t1 a3 w3 h1 hsz hf he hr hE
  unfold rTail
  simp only[List.append_assoc,List.cons_append,List.nil_append]
  exact m_listTail H (Q:=Q) (rest:=rest) (null:=null) (t:=t1) hB hzt hs hn zH (by rw[hf.size,hs2];exact hsz) (hst2.step hs' hf hr hE) (hf2.trans (hf.mono (KR.mono zH zH))) hE (by rw[hf.slot _ (.inl zH)];exact hy2) (fun h=>by obtain ⟨z1,q,z2,z3,z4,z5,z6⟩:=ho h;exact ⟨z1,q,z2,z3,z4,z5,fun i hi=>(z6 i hi).eff hE⟩) he
    (fun h=>by have h1:=rdCn_le h;have h2:=hr.len;omega) kn kr
 cases hx:x.fl with
 | none =>
  simp only[hx] at hgo ht ⊢
  exact vS (hgo (t+5+1) _ zH (fun a3 w3 hf he hr hE=>tail (t+5+1) a3 w3 zH ht hf he hr hE))
 | some fl =>
  simp only[hx] at hgo ht ⊢
  exact vS (hgo (t+5+3) _ zH (fun a3 w3 hf he hr hE=>tail (t+5+3) a3 w3 zH ht hf he hr hE))
theorem m_rloop {len:Nat} {body:Code} {l:Int} {S:Nat->RSt} {J:Nat->World->Prop} {R:World->Prop} (hs:RSl x L n t fx) (hn:n+4<=L) (ht:t+5<=a.tmps.size) (hz:a.eval (.tmp (n+2))=.int .i32 l) (hlen:len=l.toNat) (hl:l<=big) (hst:RSta E x ver fx rb sb ev a w (S 0)) (h0:J 0 w) (step:∀ i a1 w1,i<len->Fr (KR L (n+3) t) a a1->RSta E x ver fx rb sb ev a1 w1 (S i)->a1.eval (.tmp (n+3))=.int .i32 (i:Int)->J i w1->∀ Q1:Exit->Act->World->Prop,
   (∀ a2 w2,Fr (KR L (n+4) (t+5)) a1 a2->RSta E x ver fx rb sb ev a2 w2 (S (i+1))->J (i+1) w2->Q1 .normal a2 w2) →
   (∀ a2 w2,a2.defers=a1.defers->a2.tmps.size=a1.tmps.size->a2.eval (.tmp 6)=ev->R w2->Q1 .ret a2 w2)->vc P body Q1 a1 w1) (kn:∀ a' w',Fr (KR L (n+3) t) a a'->RSta E x ver fx rb sb ev a' w' (S len)->J len w'->Q .normal a' w') (kr:∀ a' w',a'.defers=a.defers->a'.tmps.size=a.tmps.size->a'.eval (.tmp 6)=ev->R w'->Q .ret a' w'):vc P (rLoop E n t b body) Q a w:=by
 have hnL:=hs.nL;have hLt:=hs.Lt;have h7:=hs.seven;have hrd:=hs.rd
 have hs3:RSl x L (n+3) t fx:=hs.up zH zH (Nat.le_refl _)
 have hkt:=hs3.kt
 have hkn:=hs3.kn (n+3) (Nat.le_refl _) zH
 have hbig:big<=2147483000:=Nat.le_refl _
 unfold rLoop
 refine vX (rA (dn ?_))
 refine vS (qk ?_)
 refine zU (fun a' w'=>∃ i,i<=len/\Fr (KR L (n+3) t) a a'/\RSta E x ver fx rb sb ev a' w' (S i)/\a'.eval (.tmp (n+3))=.int .i32 (i:Int)/\J i w')
  (fun a' _=>len-(intOf (a'.eval (.tmp (n+3)))).toNat) ?_ ?_
 ·have hf:Fr (KR L (n+3) t) a (a.put (some (n+3)) (a.eval (i32 0))):=(Fr.refl _ a).put _ hkn
  refine ⟨0,Nat.zero_le _,hf,hst.fr hs3 hf,?_,h0⟩
  rw[qE _ _ _ zH]
  rfl
 rintro a1 w1 ⟨i,hi,hf,hst1,h3,hJ⟩
 have hsz:=hf.size
 refine vS (vX (rM (rM ?_)))
 refine xm (k:=.i32) (m:=i) (n:=l) zA (by rw[← hf.slot (n+2) (.inl zH)] at hz;exact zA) ?_
 refine dn ?_
 generalize ha2:Act.put (Act.put (Act.put a1 _ _) _ _) _ _=a2
 have hf2:Fr (KR L (n+4) t) a1 a2:=by
  subst ha2
  have hs4:RSl x L (n+4) t fx:=hs.up zH zH (Nat.le_refl _)
  exact (((Fr.refl _ a1).put _ (hs4.kt _ zH)).put _ (hs4.kt _ zH)).put _ (hs4.kt _ zH)
 have hc2:a2.eval (.tmp (t+2))=.bool (decide ((i:Int)<l)):=by subst ha2;exact zE
 have h32:a2.eval (.tmp (n+3))=.int .i32 (i:Int):=by rw[hf2.slot _ (.inl zH)];exact h3
 have hf2':Fr (KR L (n+3) t) a a2:=hf.trans (hf2.mono (KR.mono zH (Nat.le_refl _)))
 have hst2:RSta E x ver fx rb sb ev a2 w1 (S i):=hst1.fr hs3 (hf2.mono (KR.mono zH (Nat.le_refl _)))
 have hsz2:=hf2'.size
 clear ha2
 refine vS (vC hc2 ?_ ?_)
 ·intro hlt
  have hlt':i<len:=by
   have:(i:Int)<l:=by simpa using hlt
   omega
  refine vK (vN ?_)
  refine vS (qk ?_)
  refine step i a2 w1 hlt' hf2' hst2 h32 hJ _ ?_ ?_
  ·intro a3 w3 hf3 hst3 hJ3
   have hf3':Fr (KR L (n+3) t) a a3:=hf2'.trans (hf3.mono (KR.mono zH zH))
   have hsz3:=hf3'.size
   have h33:a3.eval (.tmp (n+3))=.int .i32 (i:Int):=by rw[hf3.slot _ (.inl zH)];exact h32
   show vc P (sq [rg _]) _ a3 w3
   refine vX (rM ?_)
   refine z8 (k:=.i32) (m:=i) (n:=1) zA rfl ?_
   refine rA (dn (vN ?_))
   have hw:IntKind.i32.wrap ((i:Int)+1)=((i+1:Nat):Int):=by rw[IntWalk.i32_in _ ⟨by omega,by omega⟩];omega
   generalize ha4:Act.put (Act.put (Act.put a3 _ _) _ _) _ _=a4
   have e4:a4.eval (.tmp (n+3))=.int .i32 ((i+1:Nat):Int):=by
    subst ha4
    rw[qE _ _ _ (by simp only[zP];omega),qE _ _ _ (by simp only[zP];omega),hw]
   have hf4:Fr (KR L (n+3) t) a3 a4:=by
    subst ha4
    exact (((Fr.refl _ a3).put _ (hkt _ zH)).put _ (hkt _ zH)).put _ hkn
   refine ⟨⟨i+1,hlt',hf3'.trans hf4,hst3.fr hs3 hf4,e4,hJ3⟩,?_⟩
   show len-(intOf _).toNat<len-(intOf _).toNat
   rw[e4,h3]
   simp only[intOf,Int.toNat_natCast]
   omega
  ·intro a3 w3 h4 h5 h6 h7
   exact kr a3 w3 (by rw[h4,hf2'.defers]) (by rw[h5,hsz2]) h6 h7
 ·intro hge
  have hi':i=len:=by
   have:¬ ((i:Int)<l):=by simpa using hge
   omega
  subst hi'
  refine xp ?_
  simp only[Exit.then,Exit.inBlock,if_true]
  exact vN (kn a2 w1 hf2' hst2 hJ)
def rElem (E : Env) (x : Cx) (TS : TypeId) (n t2 b : Nat) (e : Ty) : Code :=
  match e.tp with
  | some TPe => sq ([rg [qd (t2 + 5) (.tmp (n + 1)) TS, qd (t2 + 6) (.tmp (n + 3)) E.tI32, jc (t2 + 7) TS (.tmp (t2 + 5)) (.tmp (t2 + 6)), qc (n + 4) (.tmp (t2 + 7)) TPe]] ++
          Ty.rc E x 0 0 0 0 (n + 4) (t2 + 8) (b + 2) e)
  | none => sq (Ty.rc E x 0 0 0 0 (n + 4) (t2 + 5) (b + 2) e ++
          [rg [qd (t2 + 5 + e.rt x) (.tmp (n + 1)) TS, qd (t2 + 6 + e.rt x) (.tmp (n + 3)) E.tI32,
            if e.arr then kx (t2 + 7 + e.rt x) (e.T E) (.tmp (n + 4 + e.rslot)) else qd (t2 + 7 + e.rt x) (.tmp (n + 4 + e.rslot)) (e.T E),
            jc (t2 + 8 + e.rt x) TS (.tmp (t2 + 5 + e.rt x)) (.tmp (t2 + 6 + e.rt x)), zq (e.T E) (.tmp (t2 + 8 + e.rt x)) (.tmp (t2 + 7 + e.rt x))]])
theorem rc_list (E:Env) (x:Cx) (TP TU:TypeId) (s f n t b:Nat) (TS:TypeId) (null:Option Nat) (e:Ty):
  Ty.rc E x TP TU s f n t b (.list TS null e)=we E x TP TU TS null n s f t ++
   [rLoop E n (t+5+(match x.fl with | none=>1 | some _=>3)+(if null.isSome then 7 else 0)+3+2+5) b (rElem E x TS n (t+5+(match x.fl with | none=>1 | some _=>3)+(if null.isSome then 7 else 0)+3+2+5) b e),
    rg [qd (t+5+(match x.fl with | none=>1 | some _=>3)+(if null.isSome then 7 else 0)+3+2+5+5+e.h+e.rt x) (.tmp (n+1)) TS,qc n (.tmp (t+5+(match x.fl with | none=>1 | some _=>3)+(if null.isSome then 7 else 0)+3+2+5+5+e.h+e.rt x)) TS]]:=by
 rw[Ty.rc]
 rfl
theorem m_elem {e:Ty} (hlf:e.tp=none->e.RVal P E T) (hfs:∀ TP TU FD fs,e=.struct TP TU FD fs->fs.RVal P E T) {q Bq len i:Nat} {TS te:TypeId} (hok:e.okR P E x=true) (hnl:e.isList=false) (htx:e.txR P E) (hB:xo P TS te e.size=true) (hs:RSl x L n t fx) (hn:n+4+(match e.tp with | some _=>2 | none=>1)+e.rn<=L) (ht:t+5+e.h+e.rt x<=a.tmps.size) (hst:RSta E x ver fx rb sb ev a w st) (hy:a.eval (.tmp (n+1))=.slice (some ⟨q,0,none⟩) len cap) (hi:a.eval (.tmp (n+3))=.int .i32 (i:Int)) (hil:i<len) (hc:qb w q (i*e.size) e.zc) (hf:∀ j,j<e.size->qr w q (i*e.size+j)) (h1:q≠rb) (h2:q≠sb) (h3:q≠E.vErr) (hrb:rb<Bq) (hqB:q<Bq) (hq:Bq<=w.heap.size) (kn:∀ a' w' c d,Fr (KR L (n+4) (t+5)) a a'->RSta E x ver fx rb sb ev a' w' (e.rd fx ver st).2->c.length=e.size->qb w' q (i*e.size) c->e.Rep w' ⟨sb,T⟩ Bq c d->Eff (FM rb q (i*e.size) e.size) w w'->((e.rd fx ver st).2.2=false->d=(e.rd fx ver st).1)->Q .normal a' w') (kr:∀ a' w',a'.defers=a.defers->a'.tmps.size=a.tmps.size->a'.eval (.tmp 6)=ev->Eff (FM rb q (i*e.size) e.size) w w'->(e.rd fx ver st).2.2=true->Q .ret a' w'):
  vc P (rElem E x TS n t b e) Q a w:=by
 have hnL:=hs.nL;have hLt:=hs.Lt;have h7:=hs.seven;have hrd:=hs.rd
 cases htp:e.tp with
 | some TPe =>
  cases e with
  | struct TP TU FD fs =>
   simp only[Ty.tp,Option.some.injEq] at htp
   subst htp
   simp only[Ty.tp,Ty.h,Ty.rn,Ty.rt,Ty.size,Ty.zc] at hn ht hc hf hB kn kr
   have hs4:RSl x L (n+4) (t+5) fx:=hs.up zH zH zH
   simp only[rElem,Ty.tp,List.cons_append,List.nil_append]
   refine vX (rM (rM ?_))
   refine qH (b:=q) (o:=0) (len:=len) (cap:=cap) (k:=.i32) (j:=i) (rB hB) zA zA hil ?_
   refine rA (dn ?_)
   rw[Nat.zero_add]
   generalize ha1:Act.put (Act.put (Act.put (Act.put a _ _) _ _) _ _) _ _=a1
   have hfr:Fr (KR L (n+4) (t+5)) a a1:=by
    subst ha1
    exact ((((Fr.refl _ a).put _ (hs4.kt _ zH)).put _ (hs4.kt _ zH)).put _ (hs4.kt _ zH)).put _ (hs4.kn (n+4) zH zH)
   have hp1:a1.eval (.tmp (n+4))=.pointer (some ⟨q,i*fs.size,none⟩):=by
    subst ha1
    exact zE
   have hsz:=hfr.size
   refine m_struct (hfs _ _ _ _ rfl) (ver:=ver) (B:=Bq) hok htx (hs4.up (n':=n+4) (t':=t+8) zH zH zH) zH (by rw[hsz];omega) (hst.fr hs4 hfr) hp1 (Flds.zc_len fs) (Flds.over_zc fs) hc hf h1 h2 h3 hqB hrb hq ?_ ?_
   ·intro a2 w2 cs ds tags b1 b2 b3 b4 b5 b6 b7
    exact kn a2 w2 cs (.obj ds tags) (hfr.trans (b1.mono (KR.mono (Nat.le_refl _) zH))) b2 b3 b4 b5 b6 (fun h=>by obtain ⟨rfl,rfl⟩:=b7 h;rfl)
   ·intro a2 w2 b1 b2 b3 b4 b5
    exact kr a2 w2 (by rw[b1,hfr.defers]) (by rw[b2,hsz]) b3 b4 b5
  | _=>cases htp
 | none =>
  simp only[htp,Ty.h] at hn ht
  have hs4:RSl x L (n+4) (t+5) fx:=hs.up zH zH zH
  simp only[rElem,htp]
  refine zw ?_
  refine hlf htp x ver fx L 0 0 0 0 (n+4) (t+5) (b+2) rb sb ev a w st _ hok htx hs4 zH zH hst (by rw[hnl];intro h;cases h) ?_ ?_
  ·intro a1 w1 cs d hf1 hst1 hv hrep hE hd
   obtain ⟨hcl,hc1⟩:=Ty.Rep.leaf e htp hrep
   have hS:=Ty.okR_okS e hok htp
   have hsz:=hf1.size
   show vc P (sq [rg _]) Q a1 w1
   refine vS (vR (by cases e.arr<;>simp) ?_)
   refine rM (rM ?_)
   have hrs:e.rslot<=2:=by cases e<;>simp[Ty.rslot]
   have hrn:e.rslot<=e.rn:=by cases e<;>simp[Ty.rslot,Ty.rn]
   refine r_leafLoad (cs:=cs) hS hcl ?_ ?_
   ·unfold Ty.Val at hv ⊢
    cases ha:e.arr with
    | true =>
     simp only[ha,if_true] at hv ⊢
     obtain ⟨q1,g1,g2⟩:=hv
     exact ⟨q1,zA,g2⟩
    | false =>
     simp only[ha,Bool.false_eq_true,if_false] at hv ⊢
     rw[hv]
     exact zE
   refine qH (b:=q) (o:=0) (len:=len) (cap:=cap) (k:=.i32) (j:=i) (rB hB) (by rw[← hf1.slot (n+1) (.inl zH)] at hy;exact zA) (by rw[← hf1.slot (n+3) (.inl zH)] at hi;exact zA) hil ?_
   rw[Nat.zero_add]
   have hfree:∀ j,j<e.size->qr w1 q (i*e.size+j):=fun j hj=>(hf j hj).eff hE
   refine r_leafStore (b:=q) (o:=i*e.size) (cs:=cs) hS hcl hc1 zE zE hfree ?_
   refine dn (vN ?_)
   have hE2:=qe q cs w1 (i*e.size)
   rw[hcl] at hE2
   have hE2':Eff (FM rb q (i*e.size) e.size) w1 (setCells w1 q (i*e.size) cs):=hE2.mono (fun k i _ h=>.inr h)
   have hE1':Eff (FM rb q (i*e.size) e.size) w w1:=hE.mono (fun k i _ h=>.inl h)
   generalize ha2:Act.put (Act.put (Act.put (Act.put a1 _ _) _ _) _ _) _ _=a2
   have hf2:Fr (KR L (n+4) (t+5)) a1 a2:=by
    subst ha2
    exact ((((Fr.refl _ a1).put _ (hs4.kt _ zH)).put _ (hs4.kt _ zH)).put _ (hs4.kt _ zH)).put _ (hs4.kt _ zH)
   refine kn a2 _ cs d (hf1.trans hf2) (hst1.keep hs4 hf2 hE2 (by rintro j ⟨h,_⟩;exact h1 h.symm) (by rintro j ⟨h,_⟩;exact h2 h.symm) (by rintro j ⟨h,_⟩;exact h3 h.symm)) hcl ?_ ?_ (hE1'.trans hE2') hd
   ·intro j v hv
    exact qg _ _ _ _ (fun j hj=>(hfree j zH).1) j v hv
   ·have hws:=hE.size
    refine Ty.Rep.eff hE2 ?_ e w.heap.size Bq cs d ?_ hq hrep
    ·rintro j ⟨h,_⟩;exact h2 h.symm
    ·rintro k j hk _ ⟨h,_⟩;omega
  ·intro a1 w1 b1 b2 b3 b4 b5
   exact kr a1 w1 b1 b2 b3 (b4.mono (fun k i _ h=>.inl h)) b5
theorem mul_lt {i j:Nat} (h:i<j):i*n+n<=j*n:=by
 have:=Nat.mul_le_mul_right n h
 rwa [Nat.succ_mul] at this
theorem m_listLoop {TS te:TypeId} {e:Ty} (hlf:e.tp=none->e.RVal P E T) (hfs:∀ TP TU FD fs,e=.struct TP TU FD fs->fs.RVal P E T) {q Bq len:Nat} {l:Int} (hok:e.okR P E x=true) (hnl:e.isList=false) (htx:e.txR P E) (hB:xo P TS te e.size=true) (hs:RSl x L n t fx) (hn:n+4+(match e.tp with | some _=>2 | none=>1)+e.rn<=L) (ht:t+5+e.h+e.rt x<=a.tmps.size) (hst:RSta E x ver fx rb sb ev a w st) (hy:a.eval (.tmp (n+1))=.slice (some ⟨q,0,none⟩) len cap) (hz:a.eval (.tmp (n+2))=.int .i32 l) (hlen:len=l.toNat) (hl:l<=big) (hcz:∀ j,j<len->qb w q (j*e.size) e.zc) (hfz:∀ i,i<len*e.size->qr w q i) (h1:q≠rb) (h2:q≠sb) (h3:q≠E.vErr) (hrb:rb<Bq) (hqB:q<Bq) (hq:Bq<=w.heap.size) (hsb:rb≠sb) (kn:∀ a' w' ds,Fr (KR L (n+3) t) a a'->RSta E x ver fx rb sb ev a' w' (xg (fun s=>e.rd fx ver s) len st).2->Eff (fun k j=>RM rb k j\/k=q) w w'->ds.length=len →
   (∀ (j:Nat) (d:D),ds[j]? = some d->∃ c:List Value,c.length=e.size/\qb w' q (j*e.size) c/\e.Rep w' ⟨sb,T⟩ Bq c d)->((xg (fun s=>e.rd fx ver s) len st).2.2=false->ds=(xg (fun s=>e.rd fx ver s) len st).1)->Q .normal a' w') (kr:∀ a' w',a'.defers=a.defers->a'.tmps.size=a.tmps.size->a'.eval (.tmp 6)=ev->Eff (fun k j=>RM rb k j\/k=q) w w'->(xg (fun s=>e.rd fx ver s) len st).2.2=true->Q .ret a' w'):
  vc P (rLoop E n t b (rElem E x TS n t b e)) Q a w:=by
 have hnL:=hs.nL;have hLt:=hs.Lt;have h7:=hs.seven;have hrd:=hs.rd
 have hn3:n+5<=L:=by
  cases htp:e.tp<;>simp only[htp] at hn<;>omega
 have hmono:∀ s:RSt,(e.rd fx ver s).2.2=false->s.2=false:=fun s=>Ty.rd_mono fx ver e s
 refine m_rloop (len:=len) (S:=fun i=>(xg (fun s=>e.rd fx ver s) i st).2)
   (J:=fun i w'=>Eff (fun k j=>RM rb k j\/k=q) w w'/\(∃ ds:List D,ds.length=i/\(∀ (j:Nat) (d:D),ds[j]? = some d->∃ c:List Value,c.length=e.size/\qb w' q (j*e.size) c/\e.Rep w' ⟨sb,T⟩ Bq c d) ∧
    ((xg (fun s=>e.rd fx ver s) i st).2.2=false->ds=(xg (fun s=>e.rd fx ver s) i st).1))/\(∀ j,i<=j->j<len->qb w' q (j*e.size) e.zc))
   (R:=fun w'=>Eff (fun k j=>RM rb k j\/k=q) w w'/\(xg (fun s=>e.rd fx ver s) len st).2.2=true) hs zH zH hz hlen hl hst ?_ ?_ ?_ ?_
 ·exact ⟨Eff.refl _ _,⟨[],rfl,fun j d h=>by simp at h,fun _=>rfl⟩,fun j _ hj=>hcz j hj⟩
 ·rintro i a2 w2 hi hf2 hst2 h3' ⟨hE2,⟨ds,hdl,hds,hdeq⟩,hrest⟩ Q1 kn1 kr1
  have hw2:=hE2.size
  have hs22:=hf2.size
  have hEw:∀ w3,Eff (FM rb q (i*e.size) e.size) w2 w3->Eff (fun k j=>RM rb k j\/k=q) w w3:=fun w3 h=>hE2.trans (h.mono (fun k j _ h=>h.imp id (fun h=>h.1)))
  refine m_elem hlf hfs (q:=q) (Bq:=Bq) (len:=len) (cap:=cap) (i:=i) hok hnl htx hB hs hn zH hst2 (by rw[hf2.slot _ (.inl zH)];exact hy) h3' hi (hrest i (Nat.le_refl _) hi)
   (fun j hj=>(hfz (i*e.size+j) (by have:=mul_lt (n:=e.size) hi;omega)).eff hE2) h1 h2 h3 hrb hqB zH ?_ ?_
  ·intro a3 w3 c d g1 g2 g3 g4 g5 g6 g7
   refine kn1 a3 w3 g1 ?_ ⟨hEw w3 g6,⟨ds++[d],by simp[hdl],?_,?_⟩,?_⟩
   ·simp only[kf]
    exact g2
   ·intro j d' hj
    rcases Nat.lt_or_ge j ds.length with h | h
    ·rw[List.getElem?_append_left h] at hj
     obtain ⟨c',m1,m2,m3⟩:=hds j d' hj
     have hlt:=mul_lt (n:=e.size) (show j<i by omega)
     refine ⟨c',m1,m2.eff g6 ?_,Ty.Rep.eff g6 ?_ e Bq Bq c' d' ?_ (Nat.le_refl _) m3⟩
     ·rintro u hu (⟨h,_⟩ | ⟨_,h,_⟩)
      ·exact h1 h
      ·omega
     ·rintro u (⟨h,_⟩ | ⟨h,_⟩)
      ·exact hsb h.symm
      ·exact h2 h.symm
     ·rintro k u hk _ (⟨h,_⟩ | ⟨h,_⟩)<;>omega
    ·rw[List.getElem?_append_right h] at hj
     have hj0:j-ds.length=0:=by
      rcases Nat.eq_zero_or_pos (j-ds.length) with h | h
      ·exact h
      ·rw[List.getElem?_eq_none (by simp;omega)] at hj;cases hj
     rw[hj0] at hj
     simp only[List.getElem?_cons_zero,Option.some.injEq] at hj
     subst hj
     have:j=i:=by omega
     subst this
     exact ⟨c,g3,g4,g5⟩
   ·intro h
    simp only[kf] at h ⊢
    rw[hdeq (hmono _ h),g7 h]
   ·intro j hj1 hj2
    have hlt:=mul_lt (n:=e.size) (show i<j by omega)
    refine (hrest j zH hj2).eff g6 ?_
    rintro u hu (⟨h,_⟩ | ⟨_,_,h⟩)
    ·exact h1 h
    ·omega
  ·intro a3 w3 g1 g2 g3 g4 g5
   refine kr1 a3 w3 g1 g2 g3 ⟨hEw w3 g4,?_⟩
   have:=rdMany_bad (f:=fun s=>e.rd fx ver s) hmono (i+1) st (len-(i+1)) (by rw[kf];exact g5)
   rwa [show i+1+(len-(i+1))=len by omega] at this
 ·rintro a2 w2 hf2 hst2 ⟨hE2,⟨ds,hdl,hds,hdeq⟩,_⟩
  exact kn a2 w2 ds hf2 hst2 hE2 hdl hds hdeq
 ·rintro a2 w2 g1 g2 g3 ⟨g4,g5⟩
  exact kr a2 w2 g1 g2 g3 g4 g5
theorem rv_list (H:EnvR P E T) {TS:TypeId} {null:Option Nat} {e:Ty} (hlf:e.tp=none->e.np=false->e.RVal P E T) (hfs:∀ TP TU FD fs,e=.struct TP TU FD fs->fs.RVal P E T):(Ty.list TS null e).RVal P E T:=by
 intro x ver fx L TP TU s f n t b rb sb ev a w st Q hok htx hs hn ht hst hl kn kr
 have hnL:=hs.nL;have hLt:=hs.Lt;have h7:=hs.seven;have hrd:=hs.rd
 obtain ⟨pb,po,off,hp,hsn,hfo,hcf⟩:=hl rfl
 simp only[Ty.okR,Bool.and_eq_true,Bool.not_eq_true'] at hok
 obtain ⟨⟨⟨⟨hlen,hTS⟩,hnl⟩,hnp⟩,hoke⟩:=hok
 have hnp:e.np=false:=by simpa using hnp
 simp only[Ty.txR] at htx
 obtain ⟨⟨te,hB,hz⟩,htxe⟩:=htx
 obtain ⟨zv,hzt,hzc⟩:∃ z,qQ P te=some z/\z.cells.toList=e.zc:=by
  cases h:qQ P te with
  | none=>rw[h] at hz;cases hz
  | some z=>rw[h] at hz;exact ⟨z,rfl,by simpa using hz⟩
 have hn':n+4+(match e.tp with | some _=>2 | none=>1)+e.rn<=L:=by
  simp only[Ty.rn] at hn
  cases htp:e.tp<;>simp only[htp] at hn ⊢<;>omega
 have hn3:n+5<=L:=by
  cases htp:e.tp<;>simp only[htp] at hn'<;>omega
 have ht1:t+5+(match x.fl with | none=>1 | some _=>3)+(if null.isSome then 7 else 0)+3+2+5+5+e.h+e.rt x+1<=a.tmps.size:=by
  simp only[Ty.rt] at ht
  cases hx:x.fl<;>simp only[hx] at ht ⊢<;>omega
 have hkt:=hs.kt
 have hbadr:(xy fx st).2.2=true->((Ty.list TS null e).rd fx ver st).2.2=true:=fun h=>by simp only[Ty.rd,h,if_true]
 rw[rc_list]
 have htt:t<=t+5+(match x.fl with | none=>1 | some _=>3)+(if null.isSome then 7 else 0)+3+2+5:=by omega
 have ht0:t+5+(match x.fl with | none=>1 | some _=>3)+(if null.isSome then 7 else 0)+3+2+5<=a.tmps.size:=by omega
 refine m_listHead H hlen hTS hB hzt hs zH (by cases hx:x.fl<;>simp only[hx] at ht0 ⊢<;>omega) hst hp hsn hfo hcf (fun h=>absurd rfl h) ?_ (fun a' w' h1 h2 h3 h4 h5=>kr a' w' h1 h2 h3 h4 (hbadr h5))
 intro a1 w1 v hf1 hst1 hnb hy hz1 hE1 hL
 have hE1:Eff (RM rb) w w1:=hE1.mono (fun k i _ h=>h.elim id (fun h=>absurd rfl h.1))
 have hs1:=hf1.size
 generalize t+5+(match x.fl with | none=>1 | some _=>3)+(if null.isSome then 7 else 0)+3+2+5=t2 at *
 have hs2:RSl x L n t2 fx:=hs.up (Nat.le_refl _) zH htt
 have hlb:(xy fx st).1<=big:=by
  have g1:=rdCn_le hnb
  have g2:=hst1.rd.len
  omega
 -- the end
 have fin:∀ a2 w2 d,Fr (KR L n t) a a2->RSta E x ver fx rb sb ev a2 w2 ((Ty.list TS null e).rd fx ver st).2->a2.eval (.tmp (n+1))=v->(Ty.list TS null e).Rep w2 ⟨sb,T⟩ w.heap.size [v] d->Eff (RM rb) w w2->(((Ty.list TS null e).rd fx ver st).2.2=false->d=((Ty.list TS null e).rd fx ver st).1) →
   vc P (sq [rg [qd (t2+5+e.h+e.rt x) (.tmp (n+1)) TS,qc n (.tmp (t2+5+e.h+e.rt x)) TS]]) Q a2 w2:=by
  intro a2 w2 d hf hst2 hv hrep hE hd
  have hsz:=hf.size
  refine vX (rM (rA (dn (vN ?_))))
  have hf3:∀ u1 u2,Fr (KR L n t) a2 ((a2.put (some (t2+5+e.h+e.rt x)) u1).put (some n) u2):=fun u1 u2=>((Fr.refl _ a2).put _ (hkt _ zH)).put _ (hs.kn n (Nat.le_refl _) zH)
  refine kn _ w2 [v] d (hf.trans (hf3 _ _)) (hst2.fr hs (hf3 _ _)) ?_ hrep hE hd
  simp only[Ty.Val,Ty.arr,Ty.rslot,Bool.false_eq_true,if_false,Nat.add_zero]
  rw[← hv]
  exact zE
 rcases hL with ⟨hl0,base,bc,rfl,hbase⟩ | ⟨hl0,q,cap,rfl,hq1,hq2,hlc,hcz,hfz⟩
 ·
  have hrd:(Ty.list TS null e).rd fx ver st=(if jd null ver (xy fx st).1 then .list (some []) else .list none,(xy fx st).2):=by
   simp only[Ty.rd,hnb,Bool.false_eq_true,if_false]
   rw[if_pos hl0]
  refine vS (m_rloop (len:=0) (S:=fun _=>(xy fx st).2) (J:=fun _ w'=>w'=w1) (R:=fun _=>False) hs2 zH zH hz1 zH hlb hst1 rfl (fun i _ _ hi=>absurd hi (Nat.not_lt_zero i)) ?_ (fun _ _ _ _ _ h=>h.elim))
  rintro a2 w2 hf2 hst2 rfl
  refine fin a2 w2 ((Ty.list TS null e).rd fx ver st).1 (hf1.trans (hf2.mono (KR.mono zH htt))) (by rw[hrd];exact hst2) (by rw[hf2.slot _ (.inl zH)];exact hy) ?_ hE1 (fun _=>rfl)
  rw[hrd]
  split at hbase
  ·rename_i hh
   obtain ⟨rfl,q,rfl,g1,g2⟩:=hbase
   simp only[hh,if_true]
   exact ⟨q,0,rfl,g1,g2,Nat.zero_le _,fun i d h=>by simp at h⟩
  ·rename_i hh
   obtain ⟨rfl,rfl⟩:=hbase
   rw[if_neg hh]
   exact .inl rfl
 ·
  have hrd:(Ty.list TS null e).rd fx ver st=(.list (some (xg (fun s=>e.rd fx ver s) (xy fx st).1.toNat (xy fx st).2).1),(xg (fun s=>e.rd fx ver s) (xy fx st).1.toNat (xy fx st).2).2):=by
   simp only[Ty.rd,hnb,Bool.false_eq_true,if_false]
   rw[if_neg zH]
  generalize hlenN:(xy fx st).1.toNat=len at *
  rw[hzc] at hcz
  have hq1:w.heap.size<=q:=hq1.elim id (fun h=>absurd rfl h.1)
  have hrbq:rb<q+1:=by have:=hst.rd.rb_lt;omega
  refine vS (m_listLoop (fun h=>hlf h hnp) hfs (q:=q) (Bq:=q+1) (len:=len) (cap:=cap) hoke hnl htxe hB hs2 hn' zH hst1 hy hz1 hlenN.symm hlb hcz (fun i hi=>hfz i (by have:=Nat.mul_le_mul_right e.size hlc;omega)) (by have:=hst.rd.rb_lt;omega) (by have:=hst.rd.lt;omega) (by have:=qi hst.err;omega) hrbq zH hq2 hst.rd.ne ?_ ?_)
  ·intro a2 w2 ds hf2 hst2 hE2 hdl hds hdeq
   have hw2:=hE2.size
   have hE:Eff (RM rb) w w2:=by
    refine hE1.trans' hE2 ?_
    rintro k j hk (h | h)
    ·exact h
    ·omega
   refine fin a2 w2 (.list (some ds)) (hf1.trans (hf2.mono (KR.mono zH htt))) (by rw[hrd];exact hst2) (by rw[hf2.slot _ (.inl zH)];exact hy) ?_ hE ?_
   ·exact ⟨q,cap,by rw[hdl],hq1,by omega,by omega,hds⟩
   ·intro h
    rw[hrd] at h ⊢
    rw[hdeq h]
  ·intro a2 w2 g1 g2 g3 g4 g5
   refine kr a2 w2 (by rw[g1,hf1.defers]) (by rw[g2,hs1]) g3 (hE1.trans' g4 ?_) (by rw[hrd];exact g5)
   rintro k j hk (h | h)
   ·exact h
   ·omega
section
open Go.ChangeMaps
theorem setTag_new (k:Nat) (v:List UInt8):∀ l:List (Nat × List UInt8),(∀ x ∈ l,x.1≠k)->(qs k v l).Perm ((k,v)::l)
 | [],_=>List.Perm.refl _
 | x::l,h=>by
  simp only[qs]
  split
  ·exact List.Perm.refl _
  ·rw[if_neg (fun e=>h x zS e.symm)]
   exact ((setTag_new k v l (fun y hy=>h y (by simp[hy]))).cons x).trans (List.Perm.swap _ _ _)
theorem setTag_old (k:Nat) (v u:List UInt8):∀ l:List (Nat × List UInt8),l.Pairwise (fun x y=>x.1<y.1)->(k,u) ∈ l->∃ rest,l.Perm ((k,u)::rest)/\(qs k v l).Perm ((k,v)::rest)
 | [],_,h=>by simp at h
 | x::l,hs,h=>by
  have h2:=List.pairwise_cons.1 hs
  rcases List.mem_cons.1 h with rfl | h
  ·refine ⟨l,List.Perm.refl _,?_⟩
   simp only[qs]
   rw[if_neg (Nat.lt_irrefl k),if_true]
  ·have hlt:x.1<k:=h2.1 _ h
   obtain ⟨rest,h3,h4⟩:=setTag_old k v u l h2.2 h
   refine ⟨x::rest,(h3.cons x).trans (List.Perm.swap _ _ _),?_⟩
   simp only[qs]
   rw[if_neg zH,if_neg zH]
   exact (h4.cons x).trans (List.Perm.swap _ _ _)
theorem y9 (k:Nat) (v:List UInt8):∀ l x,x ∈ qs k v l->x=(k,v)\/x ∈ l
 | [],x,h=>by simpa [qs] using h
 | y::l,x,h=>by
  simp only[qs] at h
  split at h
  ·simpa using h
  ·split at h
   ·rcases List.mem_cons.1 h with h | h
    ·exact .inl h
    ·exact .inr (by simp[h])
   ·rcases List.mem_cons.1 h with h | h
    ·exact .inr (by simp[h])
    ·rcases y9 k v l x h with h | h
     ·exact .inl h
     ·exact .inr (by simp[h])
theorem setTag_ok {v:List UInt8} (hk:k<4294967296):∀ l:List (Nat × List UInt8),gf l->gf (qs k v l):=by
 have key:∀ l:List (Nat × List UInt8),l.Pairwise (fun x y=>x.1<y.1)->(qs k v l).Pairwise (fun x y=>x.1<y.1):=by
  intro l
  induction l with
  | nil=>intro _;simp[qs]
  | cons y l ih =>
   intro h
   have h2:=List.pairwise_cons.1 h
   simp only[qs]
   split
   ·rename_i hk
    refine List.pairwise_cons.2 ⟨fun x hx=>?_,h⟩
    rcases List.mem_cons.1 hx with rfl | hx
    ·exact hk
    ·have:=h2.1 x hx
     show k<x.1
     omega
   ·split
    ·rename_i h1 h3
     exact List.pairwise_cons.2 ⟨fun x hx=>by have:=h2.1 x hx;show k<x.1;omega,h2.2⟩
    ·rename_i h1 h3
     refine List.pairwise_cons.2 ⟨fun x hx=>?_,ih h2.2⟩
     rcases y9 k v l x hx with rfl | hx
     ·show y.1<k;omega
     ·exact h2.1 x hx
 rintro l ⟨h1,h2⟩
 refine ⟨key l h1,fun x hx=>?_⟩
 rcases y9 k v l x hx with rfl | hx
 ·exact hk
 ·exact h2 x hx
theorem wP {α:Type}:∀ (l:List α) (i:Nat) (h:i<l.length) (a:α),(l[i]::l.eraseIdx i).Perm l/\(l.set i a).Perm (a::l.eraseIdx i)
 | [],i,h,a=>by simp at h
 | x::l,0,h,a=>by simp
 | x::l,i+1,h,a=>by
  have ih:=wP l i (by simpa using h) a
  simp only[List.getElem_cons_succ,List.eraseIdx_cons_succ,List.set_cons_succ]
  exact ⟨(List.Perm.swap _ _ _).trans (ih.1.cons x),(ih.2.cons x).trans (List.Perm.swap _ _ _)⟩
def updL (k:Nat) (v:List UInt8) (l:List (Nat × List UInt8)):List (Nat × List UInt8):=match l.findIdx? (·.1==k) with | none=>l++[(k,v)] | some i=>l.set i (k,v)
theorem updL_perm {v:List UInt8} {l:List (Nat × List UInt8)} (h:l.Perm tags) (hs:tags.Pairwise (fun x y=>x.1<y.1)):(updL k v l).Perm (qs k v tags):=by
 unfold updL
 cases hf:l.findIdx? (·.1==k) with
 | none =>
  have hn:=List.findIdx?_eq_none_iff.1 hf
  refine (List.perm_append_singleton _ _).trans (((h.cons (k,v))).trans (setTag_new k v tags (fun x hx e=>?_)).symm)
  have:=hn x (h.mem_iff.2 hx)
  simp[e] at this
 | some i =>
  obtain ⟨hi,hk,_⟩:=List.findIdx?_eq_some_iff_getElem.1 hf
  have hk:(l[i]).1=k:=by simpa using hk
  obtain ⟨u,hu⟩:∃ u,l[i]=(k,u):=⟨(l[i]).2,by rw[← hk]⟩
  have hm:(k,u) ∈ tags:=h.mem_iff.1 (by rw[← hu];exact List.getElem_mem hi)
  obtain ⟨rest,h3,h4⟩:=setTag_old k v u tags hs hm
  have h5:((k,u)::l.eraseIdx i).Perm l:=by rw[← hu];exact (wP l i hi (k,v)).1
  have h6:(l.eraseIdx i).Perm rest:=(h5.trans (h.trans h3)).cons_inv
  exact (wP l i hi (k,v)).2.trans ((h6.cons (k,v)).trans h4.symm)
def MapIs (w:World) (sb q:Nat) (l:List (Nat × List UInt8)):Prop :=
 ∃ es clock,w.heap[q]? = some (.map es clock)/\(∀ e ∈ es.toList,e.born<clock)/\(es.toList.map (·.born)).Nodup/\l.length=es.size ∧
  ∀ (i:Nat) (x:Nat × List UInt8),l[i]? = some x->∃ e:MapEntry,es[i]? = some e/\e.key=.int .u32 x.1/\je w sb e.val x.2
def zQ (w:World) (sb B:Nat) (v:Value) (tags:List (Nat × List UInt8)):Prop :=
 gf tags/\((v=.map none/\tags=[])\/∃ q l,v=.map (some q)/\B<=q/\q<w.heap.size/\MapIs w sb q l/\l.Perm tags/\tags≠[])
theorem setTag_ne (k:Nat) (v:List UInt8) (l:List (Nat × List UInt8)):qs k v l≠[]:=by
 cases l with
 | nil=>simp[qs]
 | cons x l=>simp only[qs];split<;>(try split)<;>simp
theorem zQ.rep (h:zQ w sb B v tags) (hs:sb<w.heap.size):xx w ⟨sb,fun _=>True⟩ B v tags:=by
 obtain ⟨h1,h2⟩:=h
 refine ⟨h1,trivial,?_⟩
 rcases h2 with h2 | ⟨q,l,hv,hq,hqs,⟨es,clock,hm,hb,hn,hl,he⟩,hp⟩
 ·exact .inl h2
 ·refine .inr ⟨q,es,clock,hv,hq,hqs,hm,hb,hn,l,hp.1,⟨hl,hp.2⟩,fun i x hx=>?_⟩
  obtain ⟨e,e1,e2,e3⟩:=he i x hx
  refine ⟨e,e1,e2,?_⟩
  rcases e3 with ⟨e3,e4⟩ | ⟨o,cap,e3,_,e4⟩
  ·exact .inl ⟨e3,e4⟩
  ·exact .inr ⟨sb,o,cap,e3,.inl rfl,hs,e4⟩
theorem zQ.heap {w w':World} {sb B:Nat} {v:Value} {tags:List (Nat × List UInt8)} (h:zQ w sb B v tags) (hs:w'.heap[sb]? = w.heap[sb]?) (hz:w.heap.size<=w'.heap.size) (hk:∀ q,v=.map (some q)->w'.heap[q]? = w.heap[q]?):zQ w' sb B v tags:=by
 obtain ⟨h1,h2⟩:=h
 refine ⟨h1,?_⟩
 rcases h2 with h2 | ⟨q,l,hv,hq,hqs,⟨es,clock,hm,hb,hn,hl,he⟩,hp⟩
 ·exact .inl h2
 ·refine .inr ⟨q,l,hv,hq,by omega,⟨es,clock,by rw[hk q hv];exact hm,hb,hn,hl,fun i x hx=>?_⟩,hp⟩
  obtain ⟨e,e1,e2,e3⟩:=he i x hx
  exact ⟨e,e1,e2,e3.heap hs⟩
theorem gQ:∀ (es:List MapEntry) (l:List (Nat × List UInt8)) (j k:Nat),l.length=es.length->(∀ (i:Nat) x,l[i]? = some x->∃ e:MapEntry,es[i]? = some e/\e.key=.int .u32 (x.1:Int)) →
  Instr.findNow (.int .u32) (.int .u32 (k:Int)) es j=some ((l.findIdx? (·.1==k)).bind fun i=>(es[i]?).map fun e=>(i+j,e.val))
 | [],[],j,k,_,_=>rfl
 | [],_::_,j,k,h,_=>by simp at h
 | _::_,[],j,k,h,_=>by simp at h
 | e::es,x::l,j,k,hl,h=>by
  obtain ⟨e',he,hk⟩:=h 0 x rfl
  simp only[List.getElem?_cons_zero,Option.some.injEq] at he
  subst he
  unfold Instr.findNow
  rw[hk]
  simp only[Instr.sameNow,if_true]
  rw[List.findIdx?_cons]
  by_cases hx:x.1=k
  ·have h1:((k:Int)==(x.1:Int))=true:=by simp[hx]
   have h2:(x.1==k)=true:=by simp[hx]
   rw[h1,h2]
   simp
  ·have h1:((k:Int)==(x.1:Int))=false:=by simp;omega
   have h2:(x.1==k)=false:=by simp[hx]
   rw[h1,h2]
   simp only[Bool.false_eq_true,if_false]
   rw[gQ es l (j+1) k (by simpa using hl) (fun i y hy=>h (i+1) y (by simpa using hy))]
   cases l.findIdx? (·.1==k) with
   | none=>rfl
   | some i =>
    simp only[Option.map_some,Option.bind_some,List.getElem?_cons_succ]
    cases es[i]? with
    | none=>rfl
    | some e=>simp only[Option.map_some,Option.some.injEq,Prod.mk.injEq,and_true];omega
theorem yL {kt:TypeId} {b:Bool} (hk:P.underlying kt=some (.int .u32)):(Instr.checkKey b 10000 kt (.int .u32 (k:Int))).run P w=.ok () w:=by
 have h:∀ n:Nat,(Instr.checkKey b (n+1) kt (.int .u32 (k:Int))).run P w=.ok () w:=fun n=>by simp[Instr.checkKey,run_underlying hk]
 exact h 9999
theorem run_findKey {kt:TypeId} {es:List MapEntry} {l:List (Nat × List UInt8)} (hk:P.underlying kt=some (.int .u32)) (hl:l.length=es.length) (h:∀ (i:Nat) x,l[i]? = some x->∃ e:MapEntry,es[i]? = some e/\e.key=.int .u32 (x.1:Int)):
  (Instr.findKey kt (.int .u32 (k:Int)) es).run P w=.ok ((l.findIdx? (·.1==k)).bind fun i=>(es[i]?).map fun e=>(i,e.val)) w:=by
 simp only[Instr.findKey,Sem.run_bind,run_underlying hk,Result.andThen_ok,gQ es l 0 k hl h,Sem.run_pure,Nat.add_zero]
theorem vo {q:Nat} {es:Array MapEntry} {clock:Nat} (hq:w.heap[q]? = some (.map es clock)) (o:Obj):(setObj q o).run P w=.ok () (setBlock w q o):=by
 simp[setObj,Sem.run,hq,setBlock]
theorem run_mapSet {t kt et:TypeId} {q:Nat} {l:List (Nat × List UInt8)} {val:Value} {v:List UInt8} (ht:P.underlying t=some (.map kt et)) (hk:P.underlying kt=some (.int .u32)) (hm:MapIs w sb q l) (hs:sb≠q) (hv:je w sb val v):
  ∃ o,(Instr.mapUpdate t (.map (some q)) (.int .u32 (k:Int)) val).run P w=.ok () (setBlock w q o)/\MapIs (setBlock w q o) sb q (updL k v l):=by
 obtain ⟨es,clock,hq,hb,hn,hl,he⟩:=hm
 have hqs:q<w.heap.size:=(Array.getElem?_eq_some_iff.1 hq).1
 have hsb:∀ o,(setBlock w q o).heap[sb]? = w.heap[sb]?:=fun o=>by
  simp only[setBlock]
  rw[Array.getElem?_setIfInBounds_ne (Ne.symm hs)]
 have hqq:∀ o,(setBlock w q o).heap[q]? = some o:=fun o=>by
  simp only[setBlock]
  rw[Array.getElem?_setIfInBounds_self_of_lt hqs]
 have hg:(getObj q).run P w=.ok (.map es clock) w:=by simp[getObj,Sem.run,hq]
 have hfk:=run_findKey (P:=P) (k:=k) (w:=w) (es:=es.toList) (l:=l) hk (by simpa using hl) (fun i x hx=>by obtain ⟨e,e1,e2,_⟩:=he i x hx;exact ⟨e,by simpa using e1,e2⟩)
 cases hf:l.findIdx? (·.1==k) with
 | none =>
  rw[hf] at hfk
  refine ⟨.map (es.push { key:=.int .u32 (k:Int),val:=val,born:=clock }) (clock+1),?_,?_⟩
  ·simp only[Instr.mapUpdate,Sem.run_bind,run_underlying ht,Result.andThen_ok,hg,yL hk,hfk,Option.bind_none,vo hq]
  ·refine ⟨_,_,hqq _,?_,?_,?_,?_⟩
   ·intro e h
    simp only[Array.toList_push,List.mem_append,List.mem_cons,List.not_mem_nil,or_false] at h
    rcases h with h | rfl
    ·have:=hb e h;omega
    ·show clock<clock+1;omega
   ·simp only[Array.toList_push,List.map_append,List.map_cons,List.map_nil]
    refine List.nodup_append.2 ⟨hn,by simp,?_⟩
    intro a ha b hb2 hab
    simp only[List.mem_cons,List.not_mem_nil,or_false] at hb2
    obtain ⟨e,h1,rfl⟩:=List.mem_map.1 ha
    have:=hb e h1
    omega
   ·simp[updL,hf,hl]
   ·intro i x hx
    simp only[updL,hf] at hx
    rcases Nat.lt_or_ge i l.length with h | h
    ·rw[List.getElem?_append_left h] at hx
     obtain ⟨e,e1,e2,e3⟩:=he i x hx
     exact ⟨e,by rw[Array.getElem?_push_lt zH,← e1,Array.getElem?_eq_getElem zH],e2,e3.heap (hsb _)⟩
    ·rw[List.getElem?_append_right h] at hx
     have h0:i-l.length=0:=by
      rcases Nat.eq_zero_or_pos (i-l.length) with h | h
      ·exact h
      ·rw[List.getElem?_eq_none (by simp;omega)] at hx;cases hx
     rw[h0] at hx
     simp only[List.getElem?_cons_zero,Option.some.injEq] at hx
     subst hx
     have:i=es.size:=by omega
     subst this
     exact ⟨{ key:=.int .u32 (k:Int),val:=val,born:=clock },by simp,rfl,hv.heap (hsb _)⟩
 | some i =>
  obtain ⟨hi,hik,_⟩:=List.findIdx?_eq_some_iff_getElem.1 hf
  have hik:(l[i]).1=k:=by simpa using hik
  obtain ⟨e0,f1,f2,f3⟩:=he i l[i] (List.getElem?_eq_getElem hi)
  have hie:i<es.size:=by omega
  rw[hf] at hfk
  have hkey:e0.key=.int .u32 (k:Int):=by rw[f2,hik]
  have hst:(Instr.keyThatStays (.int .u32 (k:Int)) (.int .u32 (k:Int))).run P w=.ok (.int .u32 (k:Int)) w:=by
   have:Instr.sameBits 10000 (.int .u32 (k:Int)) (.int .u32 (k:Int))=true:=by simp[Instr.sameBits]
   simp only[Instr.keyThatStays,this,if_true,Sem.run_pure]
  refine ⟨.map (es.modify i fun e=>{ e with key:=.int .u32 (k:Int),val:=val }) clock,?_,?_⟩
  ·simp only[Instr.mapUpdate,Sem.run_bind,run_underlying ht,Result.andThen_ok,hg,yL hk,hfk,Option.bind_some,Array.getElem?_toList,f1,Option.map_some,Option.getD_some,hkey,hst,vo hq]
  ·have hborn:(es.modify i fun e=>{ e with key:=.int .u32 (k:Int),val:=val }).toList.map (·.born)=es.toList.map (·.born):=by
    apply List.ext_getElem?
    intro j
    simp only[List.getElem?_map,Array.getElem?_toList,Array.getElem?_modify]
    split
    ·cases es[j]?<;>rfl
    ·rfl
   refine ⟨_,_,hqq _,?_,by rw[hborn];exact hn,?_,?_⟩
   ·intro e h
    have:e.born ∈ es.toList.map (·.born):=by rw[← hborn];exact List.mem_map.2 ⟨e,h,rfl⟩
    obtain ⟨e',h1,h2⟩:=List.mem_map.1 this
    rw[← h2]
    exact hb e' h1
   ·simp[updL,hf,hl]
   ·intro j x hx
    simp only[updL,hf] at hx
    by_cases hj:i=j
    ·subst hj
     rw[List.getElem?_set_self zH] at hx
     simp only[Option.some.injEq] at hx
     subst hx
     refine ⟨{ e0 with key:=.int .u32 (k:Int),val:=val },by rw[Array.getElem?_modify,if_pos rfl,f1];rfl,rfl,hv.heap (hsb _)⟩
    ·rw[List.getElem?_set_ne hj] at hx
     obtain ⟨e,e1,e2,e3⟩:=he j x hx
     exact ⟨e,by rw[Array.getElem?_modify,if_neg hj];exact e1,e2,e3.heap (hsb _)⟩
end
section
open Go.ChangeMaps
theorem vm {q:Nat} (o:Obj) (h:B<=q):Below B w (setBlock w q o):=by
 refine ⟨rfl,rfl,rfl,?_,fun k hk=>?_⟩
 ·simp[setBlock]
 ·simp only[setBlock]
  rw[Array.getElem?_setIfInBounds_ne zH]
theorem jz {q:Nat} (o:Obj) (h:k≠q):(setBlock w q o).heap[k]? = w.heap[k]?:=by
 simp only[setBlock]
 rw[Array.getElem?_setIfInBounds_ne (Ne.symm h)]
theorem jW (w:World) (q:Nat) (o:Obj):(setBlock w q o).heap.size=w.heap.size:=by simp[setBlock]
theorem ka (h:w'.heap[b]? = w.heap[b]?):w'.cell? ⟨b,o,none⟩=w.cell? ⟨b,o,none⟩:=by
 simp only[World.cell?]
 rw[h]
theorem zC (h:w'.heap[b]? = w.heap[b]?) (hf:qr w b o):qr w' b o:=by
 refine ⟨by rw[ka h];exact hf.1,?_⟩
 have:=hf.2
 simp only[World.frozen?] at this ⊢
 rw[h]
 exact this
theorem ne_map {q:Nat} {es:Array MapEntry} {clock:Nat} (hc:w.cell? ⟨b,o,none⟩=some v) (hq:w.heap[q]? = some (.map es clock)):b≠q:=by
 rintro rfl
 simp[World.cell?,hq] at hc
structure TagT (P:Program) (E:Env):Prop where
 map:P.underlying E.tTagMap=some (.map E.tW E.tB)
 u32:P.underlying E.tW=some (.int .u32)
 oMap:qW P E.tTagMap=true
 f0:qh P E.tTags 0=some 0
 aTags:zd P E.tTags=some 1
 zTags:qQ P E.tTags=some (.agg #[.map none])
theorem jS {d t x yt ty p af g m kt et} (ht:P.underlying t=some (.map kt et)) (hx:a.eval x=.map m) (h:rO_ P Q r (a.put (some d) (.bool m.isNone)) w):rO_ P Q (⟨some d,.binOp .eql t x (.const (.map none)) yt,ty,p,af,g⟩::r) a w:=by
 refine st ?_
 have hb:(binOp .eql t (.map m) (.map none)).run P w=.ok (.bool m.isNone) w:=by
  have h0:∀ k:Nat,(Op.equalIn (k+1) t (.map m) (.map none)).run P w=.ok m.isNone w:=fun k=>by
   cases m<;>simp[Op.equalIn,run_underlying ht]
  simp only[binOp]
  simp[Op.equal,Op.maxDepth,h0 9999]
 simp only[Oper.wp,execOp,hx,xr,eqGuard_at_map,hb,Sem.run_bind,Sem.run_pure,Result.andThen_ok,Oper.upon_value]
 exact h
theorem r_makeMap {d t ty p af g} (h:rO_ P Q r (a.put (some d) (.map (some w.heap.size))) (w.alloc (.map #[] 0))):rO_ P Q (⟨some d,.makeMap t none,ty,p,af,g⟩::r) a w:=by
 refine st ?_
 have hr:(Instr.makeMap t none).run P w=.ok (.map (some w.heap.size)) (w.alloc (.map #[] 0)):=rfl
 simp only[Oper.wp,execOp,Option.map_none,Sem.run_bind,hr,Result.andThen_ok,Sem.run_pure,Oper.upon_value]
 exact h
theorem r_mapUpdate {t m k x ty p af g mv kv xv w'} (hm:a.eval m=mv) (hk:a.eval k=kv) (hx:a.eval x=xv) (hr:(Instr.mapUpdate t mv kv xv).run P w=.ok () w') (h:rO_ P Q r a w'):rO_ P Q (⟨none,.mapUpdate t m k x,ty,p,af,g⟩::r) a w:=by
 refine st ?_
 simp only[Oper.wp,execOp,hm,hk,hx,Sem.run_bind,hr,Result.andThen_ok,Sem.run_pure,Oper.upon_skip]
 exact h
theorem k_gSet (H:TagT P E) (ht:Text P E.gSet 3 21 #[] (c_gSet E)) {val:Value} (hc:w.cell? ⟨b,0,none⟩=some v) (hf:qr w b 0) (hm:zQ w sb B v tags) (hv:je w sb val l) (hk:k<4294967296) (hB:B<=b) (hBz:B<=w.heap.size) (hsb:sb<B):
  qa P E.gSet #[.pointer (some ⟨b,0,none⟩),.int .u32 (k:Int),val] w fun _ w'=>Below B w w'/\∃ v',w'.cell? ⟨b,0,none⟩=some v'/\v'.oneCell'=true/\qr w' b 0/\zQ w' sb B v' (qs k l tags):=by
 refine qa.enter ht zS ?_
 intro a hsz hdf harg
 have e0:=harg 0 (.pointer (some ⟨b,0,none⟩)) zS
 have e1:=harg 1 (.int .u32 (k:Int)) zS
 have e2:=harg 2 val zS
 have hblt:b<w.heap.size:=qi hc
 have tail:∀ (A:Act) (w1:World) (q:Nat) (ls:List (Nat × List UInt8)),A.tmps.size=21->A.defers=[]->(∀ i:Nat,i<3->A.eval (.tmp i)=a.eval (.tmp i))->w1.cell? ⟨b,0,none⟩=some (.map (some q))->qr w1 b 0->MapIs w1 sb q ls->ls.Perm tags->B<=q->Below B w w1 →
   vc P (rg [(qM 15 0 E.tPTags),
   (oQ 16 (.nilCheck (.tmp 15)) 0),
   (qF 17 E.tTags 16 0),
   (qL 18 17 E.tTagMap),
   (qM 19 1 E.tW),
   (qM 20 2 E.tB),
   ⟨none,.mapUpdate E.tTagMap (.tmp 18) (.tmp 19) (.tmp 20),0,"",#[],none⟩])
   (Out P #[] fun _ w'=>Below B w w'/\∃ v',w'.cell? ⟨b,0,none⟩=some v'/\v'.oneCell'=true/\qr w' b 0/\zQ w' sb B v' (qs k l tags)) A w1:=by
  intro A w1 q ls hs hd hA hcq hfq hmi hperm hBq hb1
  have g0:=(hA 0 zH).trans e0
  have g1:=(hA 1 zH).trans e1
  have g2:=(hA 2 zH).trans e2
  have hv1:je w1 sb val l:=hv.heap (hb1.block sb hsb)
  have hne:b≠q:=by
   obtain ⟨es,clock,hq,_⟩:=hmi
   exact ne_map hcq hq
  have hqs:q<w1.heap.size:=by
   obtain ⟨es,clock,hq,_⟩:=hmi
   exact (Array.getElem?_eq_some_iff.1 hq).1
  obtain ⟨o,hr,hmi'⟩:=run_mapSet (P:=P) (k:=k) H.map H.u32 hmi zH hv1
  refine vR zS ?_
  refine rM ?_
  refine xe (ad:=⟨b,0,none⟩) zA ?_
  refine rF (b:=b) (o:=0) zE H.f0 ?_
  refine rL (b:=b) (o:=0+0) (v:=.map (some q)) zE H.oMap (by simpa using hcq) ?_
  refine rM (rM ?_)
  refine r_mapUpdate (mv:=.map (some q)) (kv:=.int .u32 (k:Int)) (xv:=val) (w':=setBlock w1 q o) zE zA zA hr ?_
  refine dn ?_
  refine ⟨by simp only[dF];exact hd,.tuple #[],by simp[results],hb1.trans (vm o hBq),.map (some q),by rw[ka (jz o hne)];exact hcq,rfl,zC (jz o hne) hfq,setTag_ok hk _ hm.1,.inr ⟨q,updL k l ls,rfl,hBq,by rw[jW];exact hqs,hmi',updL_perm hperm hm.1.1,setTag_ne _ _ _⟩⟩
 unfold c_gSet
 refine vS (vX (rM ?_))
 refine xe (ad:=⟨b,0,none⟩) zA ?_
 refine rF (b:=b) (o:=0) zE H.f0 ?_
 refine rL (b:=b) (o:=0+0) (v:=v) zE H.oMap (by simpa using hc) ?_
 rcases hm.2 with ⟨rfl,rfl⟩ | ⟨q,ls,rfl,hBq,hqs,hmi,hperm⟩
 ·refine jS (m:=none) H.map zE ?_
  refine dn ?_
  refine vS (vC (t:=true) (by simp (disch:=(try simp only[sP]);omega) only[eV];rfl) ?_ (fun h=>by cases h))
  intro _
  refine vR zS ?_
  refine rM ?_
  refine r_makeMap ?_
  refine xe (ad:=⟨b,0,none⟩) zA ?_
  refine rF (b:=b) (o:=0) zE H.f0 ?_
  have hb1:Below w.heap.size w (w.alloc (.map #[] 0)):=(Below.refl w.heap.size w).alloc (o:=.map _ _) (Nat.le_refl _)
  have hf1:qr (w.alloc (.map #[] 0)) b 0:=zC (hb1.block b hblt) hf
  refine xC (b:=b) (o:=0+0) (v:=.map (some w.heap.size)) zE zE rfl H.oMap (by simpa using hf1) ?_
  refine dn (vN ?_)
  have hnew:(w.alloc (.map #[] 0)).heap[w.heap.size]? = some (.map #[] 0):=heap_alloc_new w _
  have hnew2:((w.alloc (.map #[] 0)).setCell ⟨b,0+0,none⟩ (.map (some w.heap.size))).heap[w.heap.size]? = some (.map #[] 0):=by
   rw[← hnew]
   exact Below.heap_setCell _ _ _ _ (by show w.heap.size≠b;omega)
  have hb2:Below B w ((w.alloc (.map #[] 0)).setCell ⟨b,0+0,none⟩ (.map (some w.heap.size))):=(hb1.mono hBz).setCell (p:=⟨b,0+0,none⟩) hB _
  refine tail _ _ w.heap.size [] (by simp only[zP];exact hsz) (by simp only[dF];exact hdf) (fun i hi=>by exact zE) (qo _ (by simpa using hf1.1)) ?_ ?_ (List.Perm.refl _) hBz hb2
  ·exact (show qr (w.alloc (.map #[] 0)) b 0 from hf1).eff ((Eff.refl (fun k _=>k=b) _).setCell _ _ _ (fun _=>rfl))
  ·exact ⟨#[],0,hnew2,by simp,by simp,rfl,fun i x hx=>by simp at hx⟩
 ·refine jS (m:=some q) H.map zE ?_
  refine dn ?_
  refine vS (vC (t:=false) (by simp (disch:=(try simp only[sP]);omega) only[eV];rfl) (fun h=>by cases h) ?_)
  intro _
  refine vK (vN ?_)
  exact tail _ _ q ls (by simp only[zP];exact hsz) (by simp only[dF];exact hdf) (fun i hi=>by exact zE) hc hf hmi hperm.1 hBq (Below.refl _ _)
end
section
open Go.ChangeMaps
theorem effBelow (h:Eff M W w) (hb:Below W.heap.size w w'):Eff M W w' :=
 ⟨hb.os.trans h.os,hb.tape.trans h.tape,hb.output.trans h.output,Nat.le_trans h.size hb.size,fun k hk=>(h.block k hk).trans (qX.of_eq (hb.block k hk))⟩
theorem yM:∀ (n:Nat) (acc:List (Nat × List UInt8)) (st:RSt),xc (n+1) acc st=(qs (xB (xc n acc st).2).1.1 (xB (xc n acc st).2).1.2 (xc n acc st).1,(xB (xc n acc st).2).2)
 | 0,acc,st=>rfl
 | n+1,acc,st=>by
  rw[xc,yM n _ _]
  rfl
theorem wrapu32 {n:Int} (h0:0<=n) (h1:n<4294967296):IntKind.u32.wrap n=n:=by
 have h2:(2:Int) ^ 32=4294967296:=by decide
 simp only[IntKind.wrap,IntKind.bits,IntKind.signed,Bool.false_and,Bool.false_eq_true,if_false,h2]
 omega
theorem zQ.eff (h:zQ w sb B v tags) (he:Eff (RM rb) w w') (hrb:rb<B) (hne:rb≠sb) (hsb:sb<w.heap.size):zQ w' sb B v tags:=by
 refine h.heap (he.blockEq hsb (by rintro i ⟨e,_⟩;exact hne e.symm)) he.size ?_
 rintro q rfl
 obtain ⟨_,h2⟩:=h
 rcases h2 with ⟨h2,_⟩ | ⟨q',l,hv,hq,hqs,_⟩
 ·cases h2
 ·cases hv
  exact he.blockEq hqs (by rintro i ⟨e,_⟩;omega)
theorem tagsR (H:TagT P E) (iu:qu P E.tW=some .u32) (ii:qu P E.tI=some .i64) (cU:E.rTags≠0->CUv P E) (cS:E.rTags≠0->vb P E) (hset:E.rTags≠0->Text P E.gSet 3 21 #[] (c_gSet E)) (ht:E.rTags≠0->Text P E.rTags 1 24 #[.cell 2 E.tTags] (c_rTags E)):TagsR P E (fun _=>True):=by
 intro hne rb sb st W hr
 have cU:=cU hne
 have cS:=cS hne
 have hset:=hset hne
 have ht:=ht hne
 have hrlt:=hr.rb_lt
 have hslt:=hr.lt
 refine qa.enter ht zS ?_
 intro a hsz hdf harg
 have e0:=harg 0 (.pointer (some ⟨rb,0,none⟩)) zS
 unfold c_rTags
 refine vX ?_
 refine qR H.zTags ?_
 refine dn (vX ?_)
 refine qR H.zTags ?_
 refine dn ?_
 have hb0:Below W.heap.size W ((W.alloc (.cells (Value.agg #[.map none]).cells E.tTags)).alloc (.cells (Value.agg #[.map none]).cells E.tTags)) :=
  ((Below.refl W.heap.size W).alloc (o:=.cells _ _) (Nat.le_refl _)).alloc (o:=.cells _ _) zS
 have hf2:qr ((W.alloc (.cells (Value.agg #[.map none]).cells E.tTags)).alloc (.cells (Value.agg #[.map none]).cells E.tTags)) W.heap.size 0 :=
  (qq W _ E.tTags (by simp[Value.cells])).eff ((Eff.refl (fun _ _=>False) _).alloc _)
 have hf3:qr ((W.alloc (.cells (Value.agg #[.map none]).cells E.tTags)).alloc (.cells (Value.agg #[.map none]).cells E.tTags)) (W.heap.size+1) 0:=by
  have:=qq (W.alloc (.cells (Value.agg #[.map none]).cells E.tTags)) (Value.agg #[.map none]).cells E.tTags (i:=0) (by simp[Value.cells])
  simpa using this
 have hc3:((W.alloc (.cells (Value.agg #[.map none]).cells E.tTags)).alloc (.cells (Value.agg #[.map none]).cells E.tTags)).cell? ⟨W.heap.size+1,0,none⟩=some (.map none):=by
  have:=qm (W.alloc (.cells (Value.agg #[.map none]).cells E.tTags)) (Value.agg #[.map none]).cells E.tTags (i:=0) (v:=.map none) (by simp[Value.cells])
  simpa using this
 have hz0:((W.alloc (.cells (Value.agg #[.map none]).cells E.tTags)).alloc (.cells (Value.agg #[.map none]).cells E.tTags)).heap.size=W.heap.size+2:=by simp
 have hsz1:(W.alloc (.cells (Value.agg #[.map none]).cells E.tTags)).heap.size=W.heap.size+1:=by simp
 generalize ha1:Act.put (Act.put a _ _) _ _=a1
 have hfr1:Fr (fun k=>k<2) a a1:=by
  subst ha1
  exact ((Fr.refl _ a).put _ zH).put _ zH
 have h12:a1.eval (.tmp 2)=.pointer (some ⟨W.heap.size,0,none⟩):=by subst ha1;exact zE
 have h13:a1.eval (.tmp 3)=.pointer (some ⟨W.heap.size+1,0,none⟩):=by subst ha1;rw[← hsz1];exact zE
 have hs1:=hfr1.size
 clear ha1
 generalize hW0:(W.alloc (.cells (Value.agg #[.map none]).cells E.tTags)).alloc (.cells (Value.agg #[.map none]).cells E.tTags)=w0 at *
 generalize hB:W.heap.size=B0 at *
 have hr0:RdS w0 rb sb st:=hr.below hb0 zH zH
 refine vS (vX (rM ?_))
 refine q8 (args:=#[.pointer (some ⟨rb,0,none⟩)]) ?_ (cU rb sb st w0 hr0) ?_
 ·simp only[lM]
  simp (disch:=(try simp only[sP]);omega) only[eV,hfr1.slot 0 zH,e0]
 rintro v w1 ⟨rfl,hr1,hE1,_⟩
 refine rA (dn ?_)
 generalize ha2:Act.put _ (some 4) _=a2
 have hfr2:Fr (fun k=>k<4) a1 a2:=by
  subst ha2
  exact (((Fr.refl _ a1).put _ zH).put _ zH).put _ zH
 have h24:a2.eval (.tmp 4)=.int .u32 ((qp st).1:Int):=by subst ha2;exact zE
 have hs2:=hfr2.size
 clear ha2
 have hn:=zx st
 have hbW:Eff (RM rb) W w0:=Eff.of_below (by rw[hB];exact hb0)
 have hEW1:Eff (RM rb) W w1:=hbW.trans hE1
 have hz1:=hE1.size
 generalize hnn:(qp st).1=n at *
 -- the loop
 refine vS (qk (zU (fun A w=>∃ i,i<=n/\A.tmps.size=24/\A.defers=[]/\A.eval (.tmp 0)=.pointer (some ⟨rb,0,none⟩)/\A.eval (.tmp 2)=.pointer (some ⟨B0,0,none⟩)/\A.eval (.tmp 3)=.pointer (some ⟨B0+1,0,none⟩)/\A.eval (.tmp 4)=.int .u32 ((n-i:Nat):Int) ∧
   RdS w rb sb (xc i [] (qp st).2).2/\Eff (RM rb) W w/\B0+2<=w.heap.size/\qr w B0 0/\qr w (B0+1) 0/\∃ v tags,w.cell? ⟨B0+1,0,none⟩=some v/\v.oneCell'=true/\zQ w sb (B0+1) v tags/\((xc i [] (qp st).2).2.2=false->tags=(xc i [] (qp st).2).1))
  (fun A _=>(intOf (A.eval (.tmp 4))).toNat) ?_ ?_))
 ·refine ⟨0,Nat.zero_le _,by rw[hs2,hs1,hsz],by rw[hfr2.defers,hfr1.defers,hdf],by rw[hfr2.slot 0 zH,hfr1.slot 0 zH];exact e0,by rw[hfr2.slot 2 zH];exact h12,by rw[hfr2.slot 3 zH];exact h13,h24,hr1,hEW1,by omega,hf2.eff hE1,hf3.eff hE1,.map none,[],?_,rfl,⟨⟨List.Pairwise.nil,by simp⟩,.inl ⟨rfl,rfl⟩⟩,fun _=>rfl⟩
  exact hE1.cellSome hc3 (by rintro ⟨e,_⟩;omega)
 rintro A w ⟨i,hi,hsA,hdA,g0,g2,g3,g4,hrw,hEw,hzw,hfw2,hfw3,v,tags,hcv,hv1,htm,hteq⟩
 refine vS (vX (rM ?_))
 refine jq (k:=.u32) (m:=((n-i:Nat):Int)) (n:=0) zA rfl ?_
 refine dn ?_
 refine vS (vC (t:=decide (((n-i:Nat):Int)>0)) zE ?_ ?_)
 ·intro h
  have hlt:i<n:=by
   have:((n-i:Nat):Int)>0:=by simpa using h
   omega
  refine vK (vN ?_)
  refine vS (qk (vX ?_))
  refine rM ?_
  refine q8 (args:=#[.pointer (some ⟨rb,0,none⟩)]) ?_ (cU rb sb _ w hrw) ?_
  ·simp only[lM]
   simp (disch:=(try simp only[sP]);omega) only[eV,g0]
  rintro v2 w2 ⟨rfl,hr2,hE2,_⟩
  refine rM ?_
  refine q8 (args:=#[.pointer (some ⟨rb,0,none⟩)]) ?_ (cU rb sb _ w2 hr2) ?_
  ·simp only[lM]
   simp (disch:=(try simp only[sP]);omega) only[eV,g0]
  rintro v3 w3 ⟨rfl,hr3,hE3,hNN3⟩
  refine rA (rA (dn (vX (rM (rM (rM ?_))))))
  have hk1:=zx (xc i [] (qp st).2).2
  have hk2:=zx (qp (xc i [] (qp st).2).2).2
  refine qY (k:=.u32) (k':=.i64) (m:=((qp (qp (xc i [] (qp st).2).2).2).1:Int)) iu ii zE ?_
  rw[wrap_i64 zH zH]
  refine q8 (args:=#[.pointer (some ⟨rb,0,none⟩),.int .i64 ((qp (qp (xc i [] (qp st).2).2).2).1:Int)]) ?_ (cS rb sb _ _ w3 hr3) ?_
  ·simp only[lM]
   simp (disch:=(try simp only[sP]);omega) only[eV,g0]
  rintro sv w4 ⟨hsv,hr4,hE4,_⟩
  have hE24:Eff (RM rb) w w4:=(hE2.trans hE3).trans hE4
  have hz4:=hE24.size
  have htm4:zQ w4 sb (B0+1) v tags:=htm.eff hE24 zH hr.ne zH
  refine q8 (args:=#[.pointer (some ⟨B0+1,0,none⟩),.int .u32 ((qp (xc i [] (qp st).2).2).1:Int),sv]) ?_
   (k_gSet H hset (B:=B0+1) (hE24.cellSome hcv (by rintro ⟨e,_⟩;omega)) (hfw3.eff hE24) htm4 hsv hk1 (Nat.le_refl _) zH zH) ?_
  ·simp only[lM]
   simp (disch:=(try simp only[sP]);omega) only[eV,g3]
  rintro v5 w5 ⟨hb5,v',hc5,hv5,hf5,htm5⟩
  refine dn ?_
  have hz5:=hb5.size
  refine vN (vX (rM ?_))
  refine yX (k:=.u32) (m:=((n-i:Nat):Int)) (n:=1) zA rfl ?_
  rw[wrapu32 zH zH]
  refine rA (dn (vN ?_))
  generalize hA5:Act.put _ (some 4) _=A5
  have hfr5:Fr (fun k=>k<4) A A5:=by
   subst hA5
   exact ((((((((((((((Fr.refl _ A).put _ zH).put _ zH).put _ zH).put _ zH).put _ zH).put _ zH).put _ zH).put _ zH).put _ zH).put _ zH).put _ zH).put _ zH |>.put _ zH).put _ zH |>.put _ zH).put _ zH |>.put _ zH
  have h54:A5.eval (.tmp 4)=.int .u32 (((n-i:Nat):Int)-1):=by subst hA5;exact zE
  have e1:((n-i:Nat):Int)-1=((n-(i+1):Nat):Int):=by omega
  rw[e1] at h54
  have hEW5:Eff (RM rb) W w5:=effBelow (hEw.trans hE24) (by rw[hB];exact hb5.mono zH)
  refine ⟨⟨i+1,hlt,by rw[hfr5.size];exact hsA,by rw[hfr5.defers];exact hdA,by rw[hfr5.slot 0 zH];exact g0,by rw[hfr5.slot 2 zH];exact g2,by rw[hfr5.slot 3 zH];exact g3,h54,?_,hEW5,by omega,?_,hf5,v',_,hc5,hv5,htm5,?_⟩,?_⟩
  ·rw[yM]
   exact (show RdS w4 rb sb (xB (xc i [] (qp st).2).2).2 from hr4).below hb5 zH zH
  ·have:=hfw2.eff hE24
   exact zC (hb5.block B0 zH) this
  ·intro hbad
   rw[yM] at hbad ⊢
   rw[hteq (yN hbad)]
   rfl
  ·show (intOf _).toNat<(intOf _).toNat
   rw[h54,g4]
   simp only[intOf,Int.toNat_natCast]
   omega
 ·intro h
  have hin:i=n:=by
   have:¬ (((n-i:Nat):Int)>0):=by simpa using h
   omega
  subst hin
  refine xp ?_
  simp only[Exit.then,Exit.inBlock,if_true]
  refine vN (vX ?_)
  have hcc:qb w (B0+1) 0 [v]:=by
   intro j u hu
   cases j with
   | zero=>simp only[List.getElem?_cons_zero,Option.some.injEq] at hu;subst hu;exact hcv
   | succ j=>simp at hu
  refine qf (b:=B0+1) (o:=0) (cs:=[v]) zA H.aTags hcc ?_
  have hfree:∀ j,j < [v].length->qr w B0 (0+j):=fun j hj=>by
   have:j=0:=by simpa using hj
   subst this
   exact hfw2
  refine qy (b:=B0) (o:=0) (cs:=[v]) zA zE (by simpa using hv1) H.aTags hfree ?_
  refine dn (vS (vT ?_))
  have hE9:=qe B0 [v] w 0
  have hcells:qb (setCells w B0 0 [v]) B0 0 [v]:=fun j u hu=>qg _ _ _ _ (fun j hj=>(hfree j hj).1) j u hu
  refine ⟨by simp only[dF];exact hdA,.agg [v].toArray,za (b:=B0) (o:=0) (cs:=[v]) zA H.aTags hcells,⟨v,tags,rfl,hv1,?_,fun hb=>?_⟩,?_,?_⟩
  ·have htm':zQ (setCells w B0 0 [v]) sb (B0+1) v tags:=by
    refine htm.heap (hE9.blockEq zH (by rintro j ⟨e,_⟩;omega)) hE9.size ?_
    rintro q rfl
    rcases htm.2 with ⟨h2,_⟩ | ⟨q',l,hv,hq,hqs,_⟩
    ·cases h2
    ·cases hv
     exact hE9.blockEq hqs (by rintro j ⟨e,_⟩;omega)
   have:=htm'.rep (by have:=hE9.size;omega)
   obtain ⟨k1,k2,k3⟩:=this
   refine ⟨k1,k2,?_⟩
   rcases k3 with k3 | ⟨q,es,clock,k4,k5,k6⟩
   ·exact .inl k3
   ·obtain ⟨k7,k8,k9,k10,l,k11,k12,k13⟩:=k6
    refine .inr ⟨q,es,clock,k4,by omega,k7,k8,k9,k10,l,k11,k12,fun j x hx=>?_⟩
    obtain ⟨e,m1,m2,m3⟩:=k13 j x hx
    exact ⟨e,m1,m2,m3.imp id (fun ⟨c,o,cap,z1,z2,z3⟩=>⟨c,o,cap,z1,z2.imp id (fun h=>by omega),z3⟩)⟩
  ·have e:(xS st)=xc i [] (qp st).2:=by unfold xS;rw[hnn]
   rw[e] at hb ⊢
   exact hteq hb
  ·have e:(xS st)=xc i [] (qp st).2:=by unfold xS;rw[hnn]
   rw[e]
   exact hrw.keep hE9 (by rintro j ⟨e,_⟩;omega) (by rintro j ⟨e,_⟩;omega)
  ·refine hEw.trans' hE9 ?_
   rintro k j hk ⟨e,_⟩
   omega
end
section
open Go.ChangeMaps
structure SetE (pb o:Nat) (v:Value) (w w':World):Prop where
 os:w'.os=w.os
 tape:w'.tape=w.tape
 output:w'.output=w.output
 size:w.heap.size<=w'.heap.size
 block:∀ k,k<w.heap.size->v≠.map (some k)->qX (fun i=>k=pb/\i=o) w.heap[k]? w'.heap[k]?
theorem SetE.refl (pb o:Nat) (v:Value) (w:World):SetE pb o v w w:=⟨rfl,rfl,rfl,Nat.le_refl _,fun _ _ _=>qX.refl _ _⟩
theorem SetE.of_eff {pb:Nat} (h:Eff (fun k i=>k=pb/\i=o) w w'):SetE pb o v w w':=⟨h.os,h.tape,h.output,h.size,fun k hk _=>h.block k hk⟩
theorem SetE.setBlock {pb o q:Nat} {v:Value} {w w1:World} (h:SetE pb o v w w1) (ob:Obj) (hq:∀ k,k<w.heap.size->v≠.map (some k)->k≠q):SetE pb o v w (setBlock w1 q ob) :=
 ⟨h.os,h.tape,h.output,by rw[jW];exact h.size,fun k hk hn=>(h.block k hk hn).trans (qX.of_eq (jz ob (hq k hk hn)))⟩
theorem SetE.eff {pb:Nat} (h:SetE pb o v w w') (he:Eff M W w) (hq:∀ q,v=.map (some q)->W.heap.size<=q) (hM:pb<W.heap.size->M pb o):Eff M W w':=by
 refine ⟨h.os.trans he.os,h.tape.trans he.tape,h.output.trans he.output,Nat.le_trans he.size h.size,fun k hk=>(he.block k hk).trans ((h.block k (Nat.lt_of_lt_of_le hk he.size) (fun e=>by have:=hq k e;omega)).mono ?_)⟩
 rintro i ⟨rfl,rfl⟩
 exact hM hk
theorem SetE.at {pb:Nat} (h:SetE pb o v w w') (hk:k<w.heap.size) (hn:v≠.map (some k)) (hp:k≠pb):w'.heap[k]? = w.heap[k]?:=(h.block k hk hn).eq (fun i ⟨e,_⟩=>hp e)
theorem SetE.cell {pb o b i:Nat} {v u:Value} {w w':World} (h:SetE pb o v w w') (hc:w.cell? ⟨b,i,none⟩=some u) (hm:v≠.map (some b)) (hp:¬ (b=pb/\i=o)):w'.cell? ⟨b,i,none⟩=some u :=
 ((h.block b (qi hc) hm).cell hp).trans hc
theorem SetE.cells {pb i:Nat} (h:SetE pb o v w w') (hc:qb w b i cs) (hm:v≠.map (some b)) (hp:∀ j,j<cs.length->¬ (b=pb/\i+j=o)):qb w' b i cs:=by
 intro j u hu
 refine h.cell (hc j u hu) hm (hp j ?_)
 rcases Nat.lt_or_ge j cs.length with h | h
 ·exact h
 ·rw[List.getElem?_eq_none h] at hu;cases hu
theorem zQ.ne {u:Value} (h:zQ w sb B v tags) (hc:w.cell? ⟨b,o,none⟩=some u):v≠.map (some b):=by
 rintro rfl
 rcases h.2 with ⟨h,_⟩ | ⟨q,l,hv,_,_,⟨es,clock,hm,_⟩,_⟩
 ·cases h
 ·cases hv
  exact ne_map hc hm rfl
theorem zQ.low (h:zQ w sb B v tags):∀ q,v=.map (some q)->B<=q:=by
 rintro q rfl
 rcases h.2 with ⟨h,_⟩ | ⟨q,l,hv,hq,_⟩
 ·cases h
 ·cases hv;exact hq
theorem RdS.heapEq (h:RdS w rb sb st) (h1:w'.heap[rb]? = w.heap[rb]?) (h2:w'.heap[sb]? = w.heap[sb]?) (hz:w.heap.size<=w'.heap.size):RdS w' rb sb st:=by
 obtain ⟨v,hc,hv⟩:=h.cells
 exact ⟨h.ne,Nat.lt_of_lt_of_le h.lt hz,⟨v,fun i u hu=>(ka h1).trans (hc i u hu),hv.heap h2⟩,zC h1 h.f0,zC h1 h.f1,h.len⟩
theorem k_gSetO (H:TagT P E) (ht:Text P E.gSet 3 21 #[] (c_gSet E)) {val:Value} (hc:w.cell? ⟨b,o,none⟩=some v) (hf:qr w b o) (hm:zQ w sb B v tags) (hv:je w sb val l) (hk:k<4294967296) (hbs:b≠sb) (hBz:B<=w.heap.size) (hsb:sb<B):
  qa P E.gSet #[.pointer (some ⟨b,o,none⟩),.int .u32 (k:Int),val] w fun _ w'=>SetE b o v w w'/\∃ v',w'.cell? ⟨b,o,none⟩=some v'/\v'.oneCell'=true/\qr w' b o/\(v'=v\/v'=.map (some w.heap.size))/\zQ w' sb B v' (qs k l tags):=by
 refine qa.enter ht zS ?_
 intro a hsz hdf harg
 have e0:=harg 0 (.pointer (some ⟨b,o,none⟩)) zS
 have e1:=harg 1 (.int .u32 (k:Int)) zS
 have e2:=harg 2 val zS
 have hblt:b<w.heap.size:=qi hc
 have tail:∀ (A:Act) (w1:World) (q:Nat) (ls:List (Nat × List UInt8)),A.tmps.size=21->A.defers=[]->(∀ i:Nat,i<3->A.eval (.tmp i)=a.eval (.tmp i))->w1.cell? ⟨b,o,none⟩=some (.map (some q))->qr w1 b o->MapIs w1 sb q ls->ls.Perm tags->B<=q->SetE b o v w w1->w1.heap[sb]? = w.heap[sb]?->(∀ k,k<w.heap.size->v≠.map (some k)->k≠q)->(Value.map (some q)=v\/Value.map (some q)=.map (some w.heap.size)) →
   vc P (rg [(qM 15 0 E.tPTags),
   (oQ 16 (.nilCheck (.tmp 15)) 0),
   (qF 17 E.tTags 16 0),
   (qL 18 17 E.tTagMap),
   (qM 19 1 E.tW),
   (qM 20 2 E.tB),
   ⟨none,.mapUpdate E.tTagMap (.tmp 18) (.tmp 19) (.tmp 20),0,"",#[],none⟩])
   (Out P #[] fun _ w'=>SetE b o v w w'/\∃ v',w'.cell? ⟨b,o,none⟩=some v'/\v'.oneCell'=true/\qr w' b o/\(v'=v\/v'=.map (some w.heap.size))/\zQ w' sb B v' (qs k l tags)) A w1:=by
  intro A w1 q ls hs hd hA hcq hfq hmi hperm hBq hE1 hsb1 hqn hvq
  have g0:=(hA 0 zH).trans e0
  have g1:=(hA 1 zH).trans e1
  have g2:=(hA 2 zH).trans e2
  have hv1:je w1 sb val l:=hv.heap hsb1
  have hne:b≠q:=by
   obtain ⟨es,clock,hq,_⟩:=hmi
   exact ne_map hcq hq
  have hqs:q<w1.heap.size:=by
   obtain ⟨es,clock,hq,_⟩:=hmi
   exact (Array.getElem?_eq_some_iff.1 hq).1
  obtain ⟨ob,hr,hmi'⟩:=run_mapSet (P:=P) (k:=k) H.map H.u32 hmi zH hv1
  refine vR zS ?_
  refine rM ?_
  refine xe (ad:=⟨b,o,none⟩) zA ?_
  refine rF (b:=b) (o:=o) zE H.f0 ?_
  refine rL (b:=b) (o:=o+0) (v:=.map (some q)) zE H.oMap (by simpa using hcq) ?_
  refine rM (rM ?_)
  refine r_mapUpdate (mv:=.map (some q)) (kv:=.int .u32 (k:Int)) (xv:=val) (w':=setBlock w1 q ob) zE zA zA hr ?_
  refine dn ?_
  refine ⟨by simp only[dF];exact hd,.tuple #[],by simp[results],hE1.setBlock ob hqn,.map (some q),by rw[ka (jz ob hne)];exact hcq,rfl,zC (jz ob hne) hfq,hvq,setTag_ok hk _ hm.1,.inr ⟨q,updL k l ls,rfl,hBq,by rw[jW];exact hqs,hmi',updL_perm hperm hm.1.1,setTag_ne _ _ _⟩⟩
 unfold c_gSet
 refine vS (vX (rM ?_))
 refine xe (ad:=⟨b,o,none⟩) zA ?_
 refine rF (b:=b) (o:=o) zE H.f0 ?_
 refine rL (b:=b) (o:=o+0) (v:=v) zE H.oMap (by simpa using hc) ?_
 rcases hm.2 with ⟨rfl,rfl⟩ | ⟨q,ls,rfl,hBq,hqs,hmi,hperm⟩
 ·refine jS (m:=none) H.map zE ?_
  refine dn ?_
  refine vS (vC (t:=true) (by simp (disch:=(try simp only[sP]);omega) only[eV];rfl) ?_ (fun h=>by cases h))
  intro _
  refine vR zS ?_
  refine rM ?_
  refine r_makeMap ?_
  refine xe (ad:=⟨b,o,none⟩) zA ?_
  refine rF (b:=b) (o:=o) zE H.f0 ?_
  have hb1:Below w.heap.size w (w.alloc (.map #[] 0)):=(Below.refl w.heap.size w).alloc (o:=.map _ _) (Nat.le_refl _)
  have hf1:qr (w.alloc (.map #[] 0)) b o:=zC (hb1.block b hblt) hf
  refine xC (b:=b) (o:=o+0) (v:=.map (some w.heap.size)) zE zE rfl H.oMap (by simpa using hf1) ?_
  refine dn (vN ?_)
  have hnew:(w.alloc (.map #[] 0)).heap[w.heap.size]? = some (.map #[] 0):=heap_alloc_new w _
  have hnew2:((w.alloc (.map #[] 0)).setCell ⟨b,o+0,none⟩ (.map (some w.heap.size))).heap[w.heap.size]? = some (.map #[] 0):=by
   rw[← hnew]
   exact Below.heap_setCell _ _ _ _ (by show w.heap.size≠b;omega)
  have hE2:Eff (fun k i=>k=b/\i=o) w ((w.alloc (.map #[] 0)).setCell ⟨b,o+0,none⟩ (.map (some w.heap.size))):=((Eff.refl _ w).alloc _).setCell _ _ _ (fun _=>⟨rfl,rfl⟩)
  refine tail _ _ w.heap.size [] (by simp only[zP];exact hsz) (by simp only[dF];exact hdf) (fun i hi=>by exact zE) (qo _ (by simpa using hf1.1)) ?_ ?_ (List.Perm.refl _) hBz (SetE.of_eff hE2) (hE2.blockEq zH (by rintro i ⟨e,_⟩;exact hbs e.symm)) (fun k hk _=>by omega) (.inr rfl)
  ·exact (show qr (w.alloc (.map #[] 0)) b o from hf1).eff ((Eff.refl (fun k _=>k=b) _).setCell _ _ _ (fun _=>rfl))
  ·exact ⟨#[],0,hnew2,by simp,by simp,rfl,fun i x hx=>by simp at hx⟩
 ·refine jS (m:=some q) H.map zE ?_
  refine dn ?_
  refine vS (vC (t:=false) (by simp (disch:=(try simp only[sP]);omega) only[eV];rfl) (fun h=>by cases h) ?_)
  intro _
  refine vK (vN ?_)
  exact tail _ _ q ls (by simp only[zP];exact hsz) (by simp only[dF];exact hdf) (fun i hi=>by exact zE) hc hf hmi hperm.1 hBq (SetE.refl _ _ _ _) rfl (fun k hk hne e=>hne (by rw[e])) (.inl rfl)
def jH (P:Program) (t:TypeId):Bool :=
 match P.underlying t with
 | some (.interface _)=>true
 | _=>false
def isErr:Value->Bool
 | .nilIface=>false
 | _=>true
theorem kU {d t x yt ty p af g v} (ht:jH P t=true) (hx:a.eval x=v) (hv:v=.nilIface\/∃ u z,v=.iface u z) (h:rO_ P Q r (a.put (some d) (.bool (isErr v))) w):
  rO_ P Q (⟨some d,.binOp .neq t x (.const .nilIface) yt,ty,p,af,g⟩::r) a w:=by
 obtain ⟨ms,hu⟩:∃ ms,P.underlying t=some (.interface ms):=by
  unfold jH at ht
  split at ht
  ·rename_i ms h;exact ⟨ms,h⟩
  ·cases ht
 refine st ?_
 rcases hv with rfl | ⟨u,z,rfl⟩
 ·have h1:(eqGuard .neq t x (.const .nilIface) .nilIface .nilIface).run P w=.ok () w:=by cases x<;>simp[eqGuard]
  have h2:(binOp .neq t .nilIface .nilIface).run P w=.ok (.bool false) w:=by
   simp only[binOp]
   have h0:∀ k:Nat,(Op.equalIn (k+1) t .nilIface .nilIface).run P w=.ok true w:=fun k=>by simp[Op.equalIn,run_underlying hu]
   simp[Op.equal,Op.maxDepth,h0 9999]
  simp only[Oper.wp,execOp,hx,xr,h1,h2,Sem.run_bind,Sem.run_pure,Result.andThen_ok,Oper.upon_value]
  exact h
 ·have h1:(eqGuard .neq t x (.const .nilIface) (.iface u z) .nilIface).run P w=.ok () w:=by simp[eqGuard]
  have h2:(binOp .neq t (.iface u z) .nilIface).run P w=.ok (.bool true) w:=by
   simp only[binOp]
   have h0:∀ k:Nat,(Op.equalIn (k+1) t (.iface u z) .nilIface).run P w=.ok false w:=fun k=>by simp[Op.equalIn,run_underlying hu]
   simp[Op.equal,Op.maxDepth,h0 9999]
  simp only[Oper.wp,execOp,hx,xr,h1,h2,Sem.run_bind,Sem.run_pure,Result.andThen_ok,Oper.upon_value]
  exact h
structure EnvRK (P:Program) (E:Env) (T:List (Nat × List UInt8)->Prop):Prop where
 tag:TagT P E
 iu:qu P E.tW=some .u32
 ii:qu P E.tI=some .i64
 cU:CUv P E
 cS:vb P E
 set:Text P E.gSet 3 21 #[] (c_gSet E)
 all:∀ tags,T tags
 mixed:P.follows .mixedOrders=true
 rd:wo P E.tRd=some ([(0,1),(1,1)],#[.slice none 0 0,.bool false])
 rdA:zd P E.tRd=some 2
 tErr:jH P E.tErr=true
section
variable {ops : List Oper} {S : World → Prop}
theorem m_krSet (H:EnvRK P E T) {TP TU:TypeId} {f pb po:Nat} {K:Nat->Prop} (hr:RdS w rb sb st) (hp7:a.eval (.tmp x.rd)=.pointer (some ⟨rb,0,none⟩)) (hp:a.eval (.tmp s)=.pointer (some ⟨pb,po,none⟩)) (hk:a.eval (.tmp n)=.int .u32 (k:Int)) (hk2:k<4294967296) (hfo:qh P TU f=some off) (hc:w.cell? ⟨pb,po+off,none⟩=some v) (hf:qr w pb (po+off)) (hm:zQ w sb B v tags) (hBw:B<=w.heap.size) (hsb:sb<B) (hrB:rb<B) (h1:pb≠rb) (h2:pb≠sb) (ht:∀ d,t<=d->¬ K d) (hrt:x.rd<t) (hst:s<t) (hnt:n<t) (hsz:t+8<=a.tmps.size) (kn:∀ a' w1 w' v',Fr K a a'->Eff (RM rb) w w1->SetE pb (po+off) v w1 w'->RdS w1 rb sb (qt ((qp st).1:Int) (qp st).2).2->RdS w' rb sb (qt ((qp st).1:Int) (qp st).2).2->w'.cell? ⟨pb,po+off,none⟩=some v'->v'.oneCell'=true->qr w' pb (po+off)->(v'=v\/v'=.map (some w1.heap.size)) →
   zQ w1 sb B v tags->zQ w' sb B v' (qs k (qt ((qp st).1:Int) (qp st).2).1 tags)->Q .normal a' w'):
  vc P (krSet E x TP TU s f n t) Q a w:=by
 have hrd0:RdS { w with drawn:=w.drawn+1 } rb sb st:=hr.below (B:=w.heap.size) (show Below w.heap.size w { w with drawn:=w.drawn+1 } from ⟨rfl,rfl,rfl,Nat.le_refl _,fun _ _=>rfl⟩) hr.rb_lt hr.lt
 have hE0:Eff (RM rb) w { w with drawn:=w.drawn+1 }:=(Eff.refl _ w).drawn _
 have hk1:=zx st
 unfold krSet
 refine noPanic ?_
 refine xq [(0,true),(1,true),(2,true),(3,true),(4,false),(5,true),(6,false),(7,false)] (fun _=>True) H.mixed (by kernel_rfl) rfl (gH (ap:=[(0,2),(0,3),(0,4),(0,5),(0,6),(0,7),(1,3),(1,4),(1,5),(1,6),(1,7),(2,3),(2,4),(2,5),(2,6),(3,4),(3,5),(3,6),(5,7)]) ?_ _ _ (by kernel_rfl)) (fun c _ _ _ h=>absurd rfl (h.1 c)) ?_
 ·simp only[List.forall_mem_cons,List.mem_nil_iff,false_imp_iff,implies_true,and_true,List.getElem?_toArray,List.getElem?_cons_succ,List.getElem?_cons_zero,Option.some.injEq]
  refine ⟨?_,?_,?_,?_,?_,?_,?_,?_,?_,?_,?_,?_,?_,?_,?_,?_,?_,?_,?_⟩<;>rintro x y rfl rfl<;>simp[Oper.apart,Oper.looksAt,Op.operands,Call.operands]<;>(repeat' apply And.intro)<;>exact tne zH
 refine dP rfl rfl rfl (wN rfl) (by first | omega | (simp only[zP];omega)) trivial (fun w' _=>rM (dn ⟨rfl,rfl,rfl⟩)) ?_
 refine d_nilC (d:=t+1) (x:=.tmp t) (ad:=⟨pb,po,none⟩) rfl (wN rfl) ?_ trivial ?_
 ·exact zA
 refine dP rfl rfl rfl (wN rfl) (by first | omega | (simp only[zP];omega)) trivial (fun w' _=>rF (b:=pb) (o:=po) zE hfo (dn ⟨rfl,rfl,rfl⟩)) ?_
 refine dP rfl rfl rfl (wN rfl) (by first | omega | (simp only[zP];omega)) trivial (fun w' _=>rM (dn ⟨rfl,rfl,rfl⟩)) ?_
 refine qw rfl (wN rfl) ?_
 refine q8 (args:=#[.pointer (some ⟨rb,0,none⟩)]) ?_ (H.cU rb sb st _ hrd0) ?_
 ·simp only[lM]
  simp (disch:=(try simp only[sP]);omega) only[eV,hp7]
 rintro v1 w1 ⟨rfl,hr1,hE1,_⟩
 refine dn (qv trivial ?_)
 refine dP rfl rfl rfl (wN rfl) (by first | omega | (simp only[zP];omega)) trivial (fun w' _=>qY (k:=.u32) (k':=.i64) (m:=((qp st).1:Int)) H.iu H.ii zE (dn ⟨rfl,rfl,rfl⟩)) ?_
 rw[wrap_i64 zH zH]
 refine qw rfl (wN rfl) ?_
 refine q8 (args:=#[.pointer (some ⟨rb,0,none⟩),.int .i64 ((qp st).1:Int)]) ?_ (H.cS rb sb _ _ w1 hr1) ?_
 ·simp only[lM]
  simp (disch:=(try simp only[sP]);omega) only[eV,hp7]
 rintro sv w2 ⟨hsv,hr2,hE2,_⟩
 refine dn (qv trivial ?_)
 have hE02:Eff (RM rb) w w2:=(hE0.trans hE1).trans hE2
 have hz2:=hE02.size
 have htm2:zQ w2 sb B v tags:=hm.eff hE02 hrB hr.ne zH
 have hc2:w2.cell? ⟨pb,po+off,none⟩=some v:=hE02.cellSome hc (by rintro ⟨e,_⟩;exact h1 e)
 refine qw rfl (wN rfl) ?_
 refine q8 (args:=#[.pointer (some ⟨pb,po+off,none⟩),.int .u32 (k:Int),sv]) ?_ (k_gSetO H.tag H.set (B:=B) hc2 (hf.eff hE02) htm2 hsv hk2 h2 zH hsb) ?_
 ·simp only[lM]
  simp (disch:=(try simp only[sP]);omega) only[eV,hk]
 rintro v5 w5 ⟨hS5,v',hc5,hv5,hf5,hvv,htm5⟩
 refine dn (qv trivial (xI ?_))
 obtain ⟨u0,hu0,_⟩:=hr2.cells
 have hrq:v≠.map (some rb):=htm2.ne (hu0 0 _ rfl)
 have hsq:v≠.map (some sb):=by
  intro e
  have:=htm2.low sb e
  omega
 refine ⟨(fun _ h=>by cases h),kn _ w2 w5 v' ?_ hE02 hS5 hr2 (hr2.heapEq (hS5.at hr2.rb_lt hrq (Ne.symm h1)) (hS5.at hr2.lt hsq (Ne.symm h2)) hS5.size) hc5 hv5 hf5 hvv htm2 htm5⟩
 exact ((((((((Fr.refl K a).put _ (ht _ zH)).put _ (ht _ zH)).put _ (ht _ zH)).put _ (ht _ zH)).put _ (ht _ zH)).put _ (ht _ zH)).put _ (ht _ zH)).put _ (ht _ zH)
end
end
structure KY where
 k:Nat
 off:Nat
 ty:Ty
 krd:KRd
def KY.val (fx:Bool) (ver:Nat) (y:KY) (p:List UInt8):D:=(y.ty.rd fx ver (p,false)).1
def KY.chk (fx:Bool) (ver:Nat) (y:KY) (p:List UInt8):Bool:=!(y.ty.rd fx ver (p,false)).2.2
def KY.get (fx:Bool) (ver:Nat) (y:KY) (tags:List (Nat × List UInt8)):D:=(Ver.tag y.k 0).getT y.ty.dflt (y.val fx ver) tags
def xF (st:RSt):List UInt8 × RSt:=qt ((qp st).1:Int) (qp st).2
def Ty.Own (F:Nat->Prop) (w:World):Ty->List Value->Prop
 | .list _ _ e,c=>∃ ad len cap,c=[.slice ad len cap]/\((ad=none/\len=0/\cap=0)\/∃ q,ad=some ⟨q,0,none⟩/\F q/\∀ i,i<cap*e.size->qr w q i)
 | _,_=>True
def Sup (sb:Sb) (B:Nat) (F:Nat->Prop) (ty:Ty) (w:World) (c:List Value) (d:D):Prop :=
 (∀ k,F k->B<=k/\k<w.heap.size)/\∀ w',w.heap.size<=w'.heap.size->(∀ k,k=sb.b\/F k->w'.heap[k]? = w.heap[k]?)->ty.Rep w' sb B c d/\ty.Own F w' c
theorem Sup.keep {sb:Sb} {F:Nat->Prop} {ty:Ty} {c:List Value} {d:D} (h:Sup sb B F ty w c d) (hz:w.heap.size<=w'.heap.size) (hk:∀ k,k=sb.b\/F k->w'.heap[k]? = w.heap[k]?):Sup sb B F ty w' c d :=
 ⟨fun k hF=>⟨(h.1 k hF).1,Nat.lt_of_lt_of_le (h.1 k hF).2 hz⟩,fun w2 h1 h2=>h.2 w2 zH (fun k hF=>(h2 k hF).trans (hk k hF))⟩
theorem Sup.rep {sb:Sb} {F:Nat->Prop} {ty:Ty} {c:List Value} {d:D} (h:Sup sb B F ty w c d):ty.Rep w sb B c d/\ty.Own F w c:=h.2 w (Nat.le_refl _) (fun _ _=>rfl)
theorem Sup.eff {sb:Sb} {F:Nat->Prop} {ty:Ty} {c:List Value} {d:D} (h:Sup sb B F ty w c d) (hE:Eff M w w') (hs:sb.b<w.heap.size) (h1:∀ i,¬ M sb.b i) (h2:∀ k i,F k->¬ M k i):Sup sb B F ty w' c d :=
 h.keep hE.size (fun k hk=>by
  rcases hk with rfl | hk
  ·exact hE.blockEq hs h1
  ·exact hE.blockEq (h.1 k hk).2 (fun i=>h2 k i hk))
abbrev FMF (rb pb lo n:Nat) (F:Nat->Prop):Nat->Nat->Prop:=fun k i=>FM rb pb lo n k i\/F k
def KY.OK (P:Program) (E:Env) (T:List (Nat × List UInt8)->Prop) (x:Cx) (ver:Nat) (fx:Bool) (L s:Nat) (y:KY):Prop :=
 y.krd.k=y.k/\y.k<4294967296/\(∀ w sb B,Sup ⟨sb,T⟩ B (fun _=>False) y.ty w y.ty.dz y.ty.dflt) ∧
 ∀ (n t b rb sb pb po B:Nat) (ev:Value) (a:Act) (w:World) (st:RSt) (F:Nat->Prop) (c0:List Value) (d0:D) (Q:Exit->Act->World->Prop),fx=true->RSl x L n t fx->n+y.krd.casN<=L->t+y.krd.casT<=a.tmps.size->RSta E x ver fx rb sb ev a w st →
  a.eval (.tmp s)=.pointer (some ⟨pb,po,none⟩)->s<n->(∀ i,i<y.ty.size->qr w pb (po+y.off+i))->pb≠rb->pb≠sb->pb≠E.vErr->pb<B->rb<B->sb<B->E.vErr<B->B<=w.heap.size →
  c0.length=y.ty.size->qb w pb (po+y.off) c0->Sup ⟨sb,T⟩ B F y.ty w c0 d0 →
  (∀ a' w' c d F',Fr (KR L n t) a a'->RSta E x ver fx rb sb ev a' w' (xF st).2->c.length=y.ty.size->qb w' pb (po+y.off) c->Sup ⟨sb,T⟩ B F' y.ty w' c d->(∀ k,F' k->F k\/w.heap.size<=k)->Eff (FMF rb pb (po+y.off) y.ty.size F) w w' →
   ((xF st).2.2=false->y.chk fx ver (xF st).1=true/\d=y.val fx ver (xF st).1)->Q .normal a' w') →
  (∀ a' w',a'.defers=a.defers->a'.tmps.size=a.tmps.size->a'.eval (.tmp 6)=ev->Eff (FMF rb pb (po+y.off) y.ty.size F) w w'->((xF st).2.2=true\/y.chk fx ver (xF st).1=false)->Q .ret a' w') →
  vc P (sq (y.krd.cas n t b)) Q a w
theorem rdSpan_le (n:Int) (st:RSt):(qt n st).1.length<=st.1.length:=by
 unfold qt
 split
 ·simp
 ·simp only[List.length_take];omega
def kScal (E:Env) (x:Cx) (TP TU:TypeId) (s idx k:Nat) (c:Scal):KRd :=
 { k:=k,casN:=3,casT:=13,casB:=0,cas:=fun n t b=>[wR E x n t,xb E { x with rd:=n } (E.rScal c) (E.tScal c) (n+1) (t+4),ko TP TU (E.tScal c) false (n+1) s idx (t+5)]++wz E { x with rd:=n } (n+2) (t+9) }
theorem m_krEnd (H:EnvR P E T) (HK:EnvRK P E T) {K:Nat->Prop} (hr:RdS w rb sb st) (he:w.cell? ⟨E.vErr,0,none⟩=some ev) (hev:∃ u z,ev=.iface u z) (hp:a.eval (.tmp x.rd)=.pointer (some ⟨rb,0,none⟩)) (ht:∀ d,t<=d->¬ K d) (hn:¬ K n) (hnt:n<t) (h6:6<n) (hsz:t+4<=a.tmps.size) (kn:st.2=false->∀ a',Fr K a a'->Q .normal a' w) (kr:st.2=true->∀ a',a'.defers=a.defers->a'.tmps.size=a.tmps.size->a'.eval (.tmp 6)=ev->Q .ret a' w):
  vc P (sq (wz E x n t)) Q a w:=by
 unfold wz
 refine vS (jk (K:=K) hp (H.complete rb sb st w ev hr he) ht hn hnt zH ?_)
 rintro a1 v w1 hf1 he1 ⟨hv,rfl⟩
 have hz1:=hf1.size
 have hd1:=hf1.defers
 have hie:isErr v=st.2:=by
  obtain ⟨u,z,rfl⟩:=hev
  rw[hv]
  cases st.2<;>rfl
 refine vX (rM ?_)
 refine kU (v:=v) HK.tErr zA (by rw[hv];cases st.2 with | true=>exact .inr hev | false=>exact .inl rfl) ?_
 rw[hie]
 refine dn ?_
 have hf2:Fr K a1 ((a1.put (some (t+1)) (a1.eval (.tmp n))).put (some (t+2)) (.bool st.2)):=((Fr.refl K a1).put _ (ht _ zH)).put _ (ht _ zH)
 refine vS (vC (t:=st.2) zE ?_ ?_)
 ·intro h
  refine vX (rM (rA (dn (vS (vT ?_)))))
  refine kr h _ (by simp only[dF];exact hd1) (by simp only[zP];exact hz1) ?_
  have:v=ev:=by rw[hv,if_pos h]
  rw[← this]
  exact zA
 ·intro h
  exact vK (vN (kn h _ (hf1.trans hf2)))
theorem RSl.inner (hs:RSl x L n t fx) (hn:n+1<=L):RSl { x with rd:=n } L (n+1) (t+4) fx :=
 ⟨by have:=hs.seven;omega,by show n<n+1;omega,by have:=hs.vs;show x.vs<n+1;omega,fun f hf=>by have:=hs.fl f hf;omega,hs.no,by omega,by have:=hs.Lt;omega⟩
theorem m_krHead (HK:EnvRK P E T) (hs:RSl x L n t fx) (hn:n+1<=L) (ht:t+4<=a.tmps.size) (hst:RSta E x ver fx rb sb ev a w st) (k:∀ a' w' rb',Fr (KR L n t) a a'->RSta E { x with rd:=n } ver fx rb' sb ev a' w' ((xF st).1,false)->RdS w' rb sb (xF st).2->Eff (RM rb) w w'->w.heap.size<=rb'->rb'<w'.heap.size->Q .normal a' w'):vc P (wR E x n t) Q a w:=by
 have hnL:=hs.nL;have hLt:=hs.Lt;have h7:=hs.seven;have hrd:=hs.rd;have hvs:=hs.vs
 have hkt:=hs.kt
 have hk1:=zx st
 obtain ⟨zr,hzr,hzrc⟩:=xO HK.rd
 unfold wR
 refine vR zS ?_
 refine q8 (args:=#[.pointer (some ⟨rb,0,none⟩)]) ?_ (HK.cU rb sb st w hst.rd) ?_
 ·simp only[lM]
  simp (disch:=(try simp only[sP]);omega) only[eV,hst.p7]
 rintro v1 w1 ⟨rfl,hr1,hE1,_⟩
 refine qY (k:=.u32) (k':=.i64) (m:=((qp st).1:Int)) HK.iu HK.ii zE ?_
 rw[wrap_i64 zH zH]
 refine q8 (args:=#[.pointer (some ⟨rb,0,none⟩),.int .i64 ((qp st).1:Int)]) ?_ (HK.cS rb sb _ _ w1 hr1) ?_
 ·simp only[lM]
  simp (disch:=(try simp only[sP]);omega) only[eV,hst.p7]
 rintro sv w2 ⟨hsv,hr2,hE2,_⟩
 have hpl:(qt ((qp st).1:Int) (qp st).2).1.length<=big:=Nat.le_trans (rdSpan_le _ _) hr1.len
 change RdS w2 rb sb (xF st).2 at hr2
 change je w2 sb sv (xF st).1 at hsv
 change (xF st).1.length<=big at hpl
 have hE02:Eff (RM rb) w w2:=hE1.trans hE2
 have hz2:=hE02.size
 have hsv1:=hsv.one
 have hsvc:sv.cells=#[sv]:=by
  obtain ⟨ad,cap,rfl,_⟩:=hsv.form
  rfl
 refine zp (cells:=#[sv,.bool false]) HK.rd ?_ ?_
 ·have:(((a.put (some t) (.int .u32 ((qp st).1:Int))).put (some (t+1)) (.int .i64 ((qp st).1:Int))).put (some (t+2)) sv).eval (.tmp (t+2))=sv:=zE
  simp[Instr.fill,this,hsvc]
 refine qR hzr ?_
 have hfree:∀ i,i < [sv,Value.bool false].length->qr (w2.alloc (.cells zr.cells E.tRd)) w2.heap.size (0+i):=by
  intro i hi
  rw[Nat.zero_add]
  exact qq w2 _ _ (by rw[hzrc];simpa using hi)
 refine qy (b:=w2.heap.size) (o:=0) (cs:=[sv,.bool false]) zE zE (by intro v hv;simp only[List.mem_cons,List.not_mem_nil,or_false] at hv;rcases hv with rfl | rfl;exact hsv1;rfl) HK.rdA hfree ?_
 refine dn ?_
 have hcb:qb (setCells (w2.alloc (.cells zr.cells E.tRd)) w2.heap.size 0 [sv,.bool false]) w2.heap.size 0 [sv,.bool false] :=
  fun i v hv=>qg _ _ _ _ (fun j hj=>(hfree j hj).1) i v hv
 have hE3:=qe w2.heap.size [sv,.bool false] (w2.alloc (.cells zr.cells E.tRd)) 0
 have hb3:Below w2.heap.size w2 (setCells (w2.alloc (.cells zr.cells E.tRd)) w2.heap.size 0 [sv,.bool false]) :=
  ((Below.refl w2.heap.size w2).alloc (o:=.cells _ _) (Nat.le_refl _)).trans (hE3.below zS (by rintro k i hk ⟨rfl,_,_⟩;omega))
 have hz3:w2.heap.size<(setCells (w2.alloc (.cells zr.cells E.tRd)) w2.heap.size 0 [sv,.bool false]).heap.size:=by
  have:=hE3.size
  simp at this
  omega
 have hfr3:∀ i,i<2->qr (setCells (w2.alloc (.cells zr.cells E.tRd)) w2.heap.size 0 [sv,.bool false]) w2.heap.size i:=fun i hi=>by
  have:=(hfree i (by simpa using hi)).eff hE3
  rwa [Nat.zero_add] at this
 generalize setCells (w2.alloc (.cells zr.cells E.tRd)) w2.heap.size 0 [sv,.bool false]=w3 at *
 have hbw:Below w2.heap.size w2 w3:=hb3
 generalize hrb:w2.heap.size=rb' at *
 generalize ha3:Act.put _ (some n) _=a3
 have hf3:Fr (KR L n t) a a3:=by
  subst ha3
  exact (((((Fr.refl _ a).put _ (hkt _ zH)).put _ (hkt _ zH)).put _ (hkt _ zH)).put _ (hkt _ zH)).put _ (hs.kn n (Nat.le_refl _) zH)
 have h3n:a3.eval (.tmp n)=.pointer (some ⟨rb',0,none⟩):=by subst ha3;exact zE
 have hz3a:=hf3.size
 clear ha3
 have hrlt:=hr2.rb_lt
 have hslt:=hr2.lt
 have hevw:E.vErr<w.heap.size:=qi hst.err
 have hr3:RdS w3 rb sb (xF st).2:=hr2.below hb3 zH zH
 have hrd3:RdS w3 rb' sb ((xF st).1,false):=⟨by omega,by omega,⟨sv,hcb,hsv.heap (hb3.block sb zH)⟩,hfr3 0 zH,hfr3 1 zH,hpl⟩
 have hE03:Eff (RM rb) w w3:=hE02.trans' (Eff.of_below (M:=fun _ _=>False) (by rw[hrb];exact hb3)) (fun _ _ _ h=>h.elim)
 have hev3:w3.cell? ⟨E.vErr,0,none⟩=some ev:=hE03.cellSome hst.err (fun hh=>hst.evr hh.1)
 have hfr:=hst.fr hs hf3
 exact k a3 w3 rb' hf3 ⟨hrd3,h3n,hfr.us,hfr.ver,hfr.fl,hev3,by omega,hst.evi⟩ hr3 hE03 (by have:=hE02.size;omega) hz3
theorem m_rnum (H:EnvR P E T) {pb po TP TU idx:Nat} {c:Scal} {rest:List Code} (hs:RSl x L n t fx) (hn:n+1<=L) (ht:t+5<=a.tmps.size) (hst:RSta E x ver fx rb sb ev a w st) (hr:E.rScal c≠0) (ho:qW P (E.tScal c)=true) (hfo:qh P TU idx=some off) (hp:a.eval (.tmp s)=.pointer (some ⟨pb,po,none⟩)) (hsn:s<n) (hf:qr w pb (po+off)) (h1:pb≠rb) (h2:pb≠sb) (h3:pb≠E.vErr) (k:∀ a' w',Fr (KR L n t) a a'->RSta E x ver fx rb sb ev a' w' (c.rd st).2->w'.cell? ⟨pb,po+off,none⟩=some (c.val (c.rd st).1)->c.ok (c.rd st).1->Eff (fun k i=>RM rb k i\/(k=pb/\i=po+off)) w w'->vc P (sq rest) Q a' w'):
  vc P (sq (xb E x (E.rScal c) (E.tScal c) n t::ko TP TU (E.tScal c) false n s idx (t+1)::rest)) Q a w:=by
 have hnL:=hs.nL;have hLt:=hs.Lt;have h7:=hs.seven;have hrd:=hs.rd
 refine vS (jk (K:=KR L n t) hst.p7 (H.scal c hr rb sb st w hst.rd) hs.kt (hs.kn n (Nat.le_refl _) zH) zH zH ?_)
 rintro a4 v w4 hf4 he4 ⟨⟨hv,hvo⟩,hr4,hE4⟩
 have hz4:=hf4.size
 have hst4:=hst.step hs hf4 hr4 hE4
 have hp4:a4.eval (.tmp s)=.pointer (some ⟨pb,po,none⟩):=by rw[hf4.slot _ (.inl hsn)];exact hp
 have hfr4:qr w4 pb (po+off):=hf.eff hE4
 unfold ko
 refine vX (rM ?_)
 simp only[Bool.false_eq_true,if_false]
 refine rM ?_
 refine xe (ad:=⟨pb,po,none⟩) zA ?_
 refine rF (b:=pb) (o:=po) zE hfo ?_
 refine xC (b:=pb) (o:=po+off) (v:=c.val (c.rd st).1) zE (by simp (disch:=(try simp only[sP]);omega) only[eV,he4,hv]) (by cases c<;>rfl) ho hfr4 ?_
 refine dn ?_
 generalize ha5:Act.put _ (some (t+1+3)) _=a5
 have hf5:Fr (KR L n t) a4 a5:=by
  subst ha5
  exact ((((Fr.refl _ a4).put _ (hs.kt _ zH)).put _ (hs.kt _ zH)).put _ (hs.kt _ zH)).put _ (hs.kt _ zH)
 clear ha5
 have hE5:Eff (fun k i=>k=pb/\i=po+off) w4 (w4.setCell ⟨pb,po+off,none⟩ (c.val (c.rd st).1)):=(Eff.refl _ w4).setCell _ _ _ (fun _=>⟨rfl,rfl⟩)
 exact k a5 _ (hf4.trans hf5) (hst4.keep hs hf5 hE5 (by rintro i ⟨e,_⟩;exact h1 e.symm) (by rintro i ⟨e,_⟩;exact h2 e.symm) (by rintro i ⟨e,_⟩;exact h3 e.symm)) (qo _ hfr4.1) hvo
  ((hE4.mono (fun k i _ h=>.inl h)).trans (hE5.mono (fun k i _ h=>.inr h)))
theorem kScal_ok (H:EnvR P E T) (HK:EnvRK P E T) {TP TU idx:Nat} {c:Scal} {df:Int} (hk:k<4294967296) (hr:E.rScal c≠0) (ho:qW P (E.tScal c)=true) (hfo:qh P TU idx=some off) (hdf:c.ok df):
  KY.OK P E T x ver fx L s ⟨k,off,.scal c df,kScal E x TP TU s idx k c⟩:=by
 refine ⟨rfl,hk,?_,?_⟩
 ·intro w sb B
  refine ⟨fun k h=>h.elim,fun w' _ _=>⟨?_,trivial⟩⟩
  simp only[Ty.dz,Ty.dflt,Ty.Rep]
  exact ⟨trivial,hdf⟩
 intro n t b rb sb pb po B ev a w st F c0 d0 Q _ hs hn ht hst hp hsn hf h1 h2 h3 hB hrB hsB hvB hBw _ _ hsup kn kr
 have hnL:=hs.nL;have hLt:=hs.Lt;have h7:=hs.seven;have hrd:=hs.rd;have hvs:=hs.vs
 have hkt:=hs.kt
 simp only[kScal,Ty.size] at hn ht hf kn kr ⊢
 simp only[List.cons_append,List.nil_append]
 refine vS (m_krHead HK hs zH zH hst ?_)
 intro a3 w3 rb' hf3 hst3 hr3 hE03 hrb1 hrb2
 have hz3a:=hf3.size
 have hev3:=hst3.err
 have h3n:=hst3.p7
 have hz3:=hE03.size
 have hrlt:=hst.rd.rb_lt
 have hslt:=hst.rd.lt
 have hevw:E.vErr<w.heap.size:=qi hst.err
 have hs':RSl { x with rd:=n } L (n+1) (t+4) fx:=hs.inner zH
 refine m_rnum H (x:={ x with rd:=n }) (pb:=pb) (po:=po) (off:=off) hs' zH (by rw[hz3a];omega) hst3 hr ho hfo (by rw[hf3.slot _ (.inl hsn)];exact hp) zH (by have:=(hf 0 zH).eff hE03;simpa using this) zH h2 h3 ?_
 intro a5 w5 hf5 hst5 hc5 hvo hE5
 have hz5:=hf5.size
 have hf5':Fr (KR L n t) a a5:=hf3.trans (hf5.mono (KR.mono zH zH))
 have hE:Eff (FMF rb pb (po+off) 1 F) w w5:=(hE03.mono (fun k i _ h=>.inl (.inl h))).trans' hE5 (by
  rintro k i hk (⟨e,_⟩ | ⟨e1,e2⟩)
  ·omega
  ·exact .inl (.inr ⟨e1,by omega,by omega⟩))
 have hr5o:RdS w5 rb sb (xF st).2:=hr3.keep hE5 (by rintro i (⟨e,_⟩ | ⟨e,_⟩);omega;exact h1 e.symm) (by rintro i (⟨e,_⟩ | ⟨e,_⟩);omega;exact h2 e.symm)
 refine m_krEnd H HK (x:={ x with rd:=n }) (K:=KR L (n+1) (t+4)) (sb:=sb) (st:=(c.rd ((xF st).1,false)).2) hst5.rd hst5.err hst.evi hst5.p7 (fun d hd=>hs'.kt d zH) (hs'.kn _ zH zH) zH zH zH ?_ ?_
 ·intro hgood a6 hf6
  have hf6':Fr (KR L n t) a a6:=hf5'.trans (hf6.mono (KR.mono zH zH))
  have hfr:=hst.fr hs hf6'
  refine kn a6 w5 [c.val (c.rd ((xF st).1,false)).1] (.int (c.rd ((xF st).1,false)).1) (fun _=>False) hf6' ⟨hr5o,hfr.p7,hfr.us,hfr.ver,hfr.fl,hst5.err,hst.evr,hst.evi⟩ rfl ?_ ⟨fun k h=>h.elim,fun w' _ _=>⟨⟨rfl,hvo⟩,trivial⟩⟩ (fun k h=>h.elim) hE (fun _=>⟨?_,?_⟩)
  ·intro j u hu
   cases j with
   | zero=>simp only[List.getElem?_cons_zero,Option.some.injEq] at hu;subst hu;exact hc5
   | succ j=>simp at hu
  ·show (!((Ty.scal c df).rd fx ver ((xF st).1,false)).2.2)=true
   simp only[Ty.rd,hgood,Bool.not_false]
  ·simp only[KY.val,Ty.rd]
 ·intro hbad a6 g1 g2 g3
  refine kr a6 w5 (by rw[g1,hf5'.defers]) (by rw[g2,hf5'.size]) g3 hE (.inr ?_)
  show (!((Ty.scal c df).rd fx ver ((xF st).1,false)).2.2)=false
  simp only[Ty.rd,hbad,Bool.not_true]
mutual
theorem Ty.rt_rd (x:Cx) (r:Nat):∀ t:Ty,t.rt { x with rd:=r }=t.rt x
 | .list _ _ e=>by simp only[Ty.rt,Ty.rt_rd x r e]
 | .struct _ _ _ fs | .nstruct _ _ _ fs _=>by simp only[Ty.rt,Flds.rt_rd x r fs]
 | .scal _ _ | .named _ _ _ | .uuid | .text | .ntext | .ntextFrom _ | .bytes | .nbytes=>rfl
theorem Flds.rt_rd (x:Cx) (r:Nat):∀ (fs:Flds) {kz:List Nat},fs.rt { x with rd:=r } kz=fs.rt x kz
 | .nil _,_=>rfl
 | .cons v t fs,kz=>by cases v<;>simp only[Flds.rt,Ty.rt_rd x r t,Flds.rt_rd x r fs]
end
mutual
theorem Ty.okR_rd {P:Program} {E:Env} (x:Cx) (r:Nat):∀ t:Ty,t.okR P E { x with rd:=r }=t.okR P E x
 | .list _ _ e=>by simp only[Ty.okR,Ty.okR_rd x r e];rfl
 | .struct _ TU _ fs | .nstruct _ TU _ fs _=>by simp only[Ty.okR,Flds.okR_rd x r fs]
 | .scal _ _ | .named _ _ _ | .uuid | .text | .ntext | .ntextFrom _ | .bytes | .nbytes=>rfl
theorem Flds.okR_rd {P:Program} {E:Env} (x:Cx) (r:Nat):∀ (fs:Flds) {TU idx off m:Nat},fs.okR P E { x with rd:=r } TU idx off m=fs.okR P E x TU idx off m
 | .nil _,_,_,_,_=>rfl
 | .cons _ t fs,_,_,_,_=>by simp only[Flds.okR,Ty.okR_rd x r t,Flds.okR_rd x r fs]
end
mutual
theorem Ty.zc_one:∀ (t:Ty),∀ v ∈ t.zc,v.oneCell'=true
 | .scal k _,v,h | .named k _ _,v,h=>by simp only[Ty.zc,List.mem_singleton] at h;subst h;exact k.val_one 0
 | .uuid,v,h=>by simp only[Ty.zc,List.mem_replicate] at h;rw[h.2];rfl
 | .text,v,h | .ntext,v,h | .ntextFrom _,v,h | .nstruct _ _ _ _ _,v,h | .bytes,v,h | .nbytes,v,h | .list _ _ _,v,h=>by simp only[Ty.zc,List.mem_singleton] at h;subst h;rfl
 | .struct _ _ _ fs,v,h=>Flds.zc_one fs v h
theorem Flds.zc_one:∀ (fs:Flds),∀ v ∈ fs.zc,v.oneCell'=true
 | .nil t,v,h=>by
  cases t with
  | false=>simp[Flds.zc] at h
  | true=>simp only[Flds.zc,if_true,List.mem_singleton] at h;subst h;rfl
 | .cons _ t r,v,h=>by
  simp only[Flds.zc,List.mem_append] at h
  exact h.elim (Ty.zc_one t v) (Flds.zc_one r v)
end
def kList (E:Env) (x:Cx) (TP TU:TypeId) (s idx k:Nat) (ty:Ty):KRd :=
 { k:=k,casN:=3+0+ty.rn,casT:=4+ty.h+ty.rt x+4,casB:=ty.wb,cas:=fun n t b=>wR E x n t::(Ty.rc E { x with rd:=n } TP TU s idx (n+1) (t+4) b ty++[ko TP TU (ty.T E) ty.arr (n+1+ty.rslot) s idx (t+4+ty.rt x)]++wz E { x with rd:=n } (n+2+ty.rn) (t+8+ty.rt x)) }
theorem kList_ok (H:EnvR P E T) (HK:EnvRK P E T) {TP TU TS idx:Nat} {e:Ty} (hlf:e.tp=none->e.np=false->e.RVal P E T) (hfs:∀ TP TU FD fs,e=.struct TP TU FD fs->fs.RVal P E T) (hk:k<4294967296) (hok:(Ty.list TS none e).okR P E x=true) (htx:(Ty.list TS none e).txR P E) (hfo:qh P TU idx=some off):KY.OK P E T x ver fx L s ⟨k,off,.list TS none e,kList E x TP TU s idx k (.list TS none e)⟩:=by
 refine ⟨rfl,hk,?_,?_⟩
 ·exact fun w sb B=>⟨fun k h=>h.elim,fun w' _ _=>⟨.inl rfl,none,0,0,rfl,.inl ⟨rfl,rfl,rfl⟩⟩⟩
 intro n t b rb sb pb po B ev a w st F c0 d0 Q _ hs hn ht hst hp hsn hf h1 h2 h3 hB hrB hsB hvB hBw hcl hc0 hsup kn kr
 have hnL:=hs.nL;have hLt:=hs.Lt;have h7:=hs.seven;have hrd:=hs.rd;have hvs:=hs.vs
 have hrt:=Ty.rt_rd x n (.list TS none e)
 have hokx:(Ty.list TS none e).okR P E { x with rd:=n }=true:=by rw[Ty.okR_rd];exact hok
 simp only[Ty.size] at hf hcl
 simp only[kList,Ty.h,Ty.tp,Nat.add_zero] at hn ht
 simp only[kList,Ty.size,Ty.h,Ty.tp,Ty.arr,Ty.rslot,Nat.add_zero,Ty.T] at kn kr ⊢
 rw[← hrt] at ht ⊢
 have hn0:n+5<=L:=by
  simp only[Ty.rn] at hn
  cases htp:e.tp<;>simp only[htp] at hn<;>omega
 obtain ⟨ad0,len0,cap0,rfl,hown⟩:=hsup.rep.2
 have hcell:w.cell? ⟨pb,po+off,none⟩=some (.slice ad0 len0 cap0):=by have:=hc0 0 _ rfl;simpa using this
 refine vS (m_krHead HK hs zH zH hst ?_)
 intro a3 w3 rb' hf3 hst3 hr3 hE03 hrb1 hrb2
 have hz3a:=hf3.size
 have hz3:=hE03.size
 have hrlt:=hst.rd.rb_lt
 have hslt:=hst.rd.lt
 have hevw:E.vErr<w.heap.size:=qi hst.err
 have hs':RSl { x with rd:=n } L (n+1) (t+4) fx:=hs.inner zH
 have hcell3:w3.cell? ⟨pb,po+off,none⟩=some (.slice ad0 len0 cap0):=hE03.cellSome hcell (by rintro ⟨e,_⟩;exact h1 e)
 have hp3:a3.eval (.tmp s)=.pointer (some ⟨pb,po,none⟩):=by rw[hf3.slot _ (.inl hsn)];exact hp
 generalize hx':({ x with rd:=n }:Cx)=x' at *
 have hxn:x'.rd=n:=by rw[← hx']
 generalize hst':(((xF st).1,false):RSt)=st' at *
 have hchk:∀ kr:KRd,KY.chk fx ver ⟨k,off,.list TS none e,kr⟩ (xF st).1 = !((Ty.list TS none e).rd fx ver st').2.2:=by
  intro kr
  rw[← hst']
  rfl
 have hval:∀ kr:KRd,KY.val fx ver ⟨k,off,.list TS none e,kr⟩ (xF st).1=((Ty.list TS none e).rd fx ver st').1:=by
  intro kr
  rw[← hst']
  rfl
 -- what may turn behind the head
 have hFne:∀ k,F k->k≠rb'/\k≠sb/\k≠E.vErr/\k≠rb/\k≠pb:=by
  intro k hF
  have:=hsup.1 k hF
  omega
 have hslF:∀ k,SlM ad0 cap0 k->F k:=by
  rintro k ⟨g1,g2⟩
  rcases hown with ⟨_,_,g3⟩ | ⟨q,g3,g4,_⟩
  ·exact absurd g3 g1
  ·rw[g2] at g3;cases g3;exact g4
 have hE0:∀ {M:Nat->Nat->Prop} {w4:World},Eff M w3 w4->(∀ k i,k<w3.heap.size->M k i->k=rb'\/F k)->Eff (FMF rb pb (po+off) 1 F) w w4:=by
  intro M w4 hE hM
  refine (hE03.mono (fun k i _ h=>.inl (.inl h))).trans' hE ?_
  intro k i hk hm
  rcases hM k i zH hm with h | h
  ·omega
  ·exact .inr h
 simp only[Ty.okR,Bool.and_eq_true,Bool.not_eq_true'] at hokx
 obtain ⟨⟨⟨⟨hlen,hTS⟩,hnl⟩,hnp⟩,hoke⟩:=hokx
 have hnp:e.np=false:=by simpa using hnp
 simp only[Ty.txR] at htx
 obtain ⟨⟨te,hBt,hz⟩,htxe⟩:=htx
 obtain ⟨zv,hzt,hzc⟩:∃ z,qQ P te=some z/\z.cells.toList=e.zc:=by
  cases h:qQ P te with
  | none=>rw[h] at hz;cases hz
  | some z=>rw[h] at hz;exact ⟨z,rfl,by simpa using hz⟩
 have hn':n+1+4+(match e.tp with | some _=>2 | none=>1)+e.rn<=L:=by
  simp only[Ty.rn] at hn
  cases htp:e.tp<;>simp only[htp] at hn ⊢<;>omega
 have ht1:t+4+5+(match x'.fl with | none=>1 | some _=>3)+0+3+2+5+5+e.h+e.rt x'+1=t+4+(Ty.list TS none e).rt x':=by
  simp only[Ty.rt,Option.isSome_none,Bool.false_eq_true,if_false]
  cases hx:x'.fl<;>simp only[hx]<;>omega
 have hbadr:(xy fx st').2.2=true->((Ty.list TS none e).rd fx ver st').2.2=true:=fun h=>by simp only[Ty.rd,h,if_true]
 have hmk:∀ d:Nat,t+4<=d->¬ KR L (n+1) (t+4) d:=hs'.kt
 -- the end: the row is in its slot
 have fin:∀ (a5:Act) (w5:World) (v:Value) (d:D) (t5:Nat),t+4<=t5->t5+1=t+4+(Ty.list TS none e).rt x'->Fr (KR L (n+1) (t+4)) a3 a5->RSta E x' ver fx rb' sb ev a5 w5 ((Ty.list TS none e).rd fx ver st').2->a5.eval (.tmp (n+1+1))=v->v.oneCell'=true->Eff (fun k i=>k=rb'\/F k) w3 w5 →
   (∀ w',w5.heap.size<=w'.heap.size->(∀ k,k=sb\/F k\/(w.heap.size<=k/\k<w5.heap.size)->w'.heap[k]? = w5.heap[k]?)->(Ty.list TS none e).Rep w' ⟨sb,T⟩ B [v] d/\(Ty.list TS none e).Own (fun k=>F k\/(w.heap.size<=k/\k<w5.heap.size)) w' [v]) →
   (((Ty.list TS none e).rd fx ver st').2.2=false->d=((Ty.list TS none e).rd fx ver st').1) →
   vc P (sq (rg [qd t5 (.tmp (n+1+1)) TS,qc (n+1) (.tmp t5) TS]::ko TP TU TS false (n+1) s idx (t+4+(Ty.list TS none e).rt x')::wz E x' (n+2+(Ty.list TS none e).rn) (t+8+(Ty.list TS none e).rt x'))) Q a5 w5:=by
  intro a5 w5 v d t5 ht5 ht5e hf5 hst5 hv hv1 hE5 hsup5 hd
  have hz5:=hf5.size
  have hw5:=hE5.size
  refine vX (rM (rA (dn ?_)))
  have hf6:∀ u1 u2,Fr (KR L (n+1) (t+4)) a3 ((a5.put (some t5) u1).put (some (n+1)) u2):=fun u1 u2=>(hf5.put _ (hmk _ ht5)).put _ (hs'.kn _ (Nat.le_refl _) zH)
  have hv6:((a5.put (some t5) (a5.eval (.tmp (n+1+1)))).put (some (n+1)) ((a5.put (some t5) (a5.eval (.tmp (n+1+1)))).eval (.tmp t5))).eval (.tmp (n+1))=v:=by
   rw[← hv]
   exact zE
  have hf6':=hf6 (a5.eval (.tmp (n+1+1))) ((a5.put (some t5) (a5.eval (.tmp (n+1+1)))).eval (.tmp t5))
  generalize (a5.put (some t5) (a5.eval (.tmp (n+1+1)))).put (some (n+1)) _=a6 at *
  have hz6:=hf6'.size
  have hp6:a6.eval (.tmp s)=.pointer (some ⟨pb,po,none⟩):=by rw[hf6'.slot _ (.inl zH)];exact hp3
  have hE05:Eff (FMF rb pb (po+off) 1 F) w w5:=hE0 hE5 (fun k i _ h=>h)
  have hfr5:qr w5 pb (po+off):=by
   have:=(hf 0 zH).eff hE05
   simpa using this
  unfold ko
  refine vX (rM ?_)
  simp only[Bool.false_eq_true,if_false]
  refine rM ?_
  refine xe (ad:=⟨pb,po,none⟩) zA ?_
  refine rF (b:=pb) (o:=po) zE hfo ?_
  refine xC (b:=pb) (o:=po+off) (v:=v) zE zA hv1 hTS hfr5 ?_
  refine dn ?_
  generalize ha7:Act.put _ (some (t+4+(Ty.list TS none e).rt x'+3)) _=a7
  have hf7:Fr (KR L (n+1) (t+4)) a6 a7:=by
   subst ha7
   exact ((((Fr.refl _ a6).put _ (hmk _ zH)).put _ (hmk _ zH)).put _ (hmk _ zH)).put _ (hmk _ zH)
  have hz7:=hf7.size
  clear ha7
  have hE7:Eff (fun k i=>k=pb/\i=po+off) w5 (w5.setCell ⟨pb,po+off,none⟩ v):=(Eff.refl _ w5).setCell _ _ _ (fun _=>⟨rfl,rfl⟩)
  have hc7:(w5.setCell ⟨pb,po+off,none⟩ v).cell? ⟨pb,po+off,none⟩=some v:=qo _ hfr5.1
  generalize w5.setCell ⟨pb,po+off,none⟩ v=w7 at *
  have hw7:=hE7.size
  have hr7:RdS w7 rb' sb ((Ty.list TS none e).rd fx ver st').2:=hst5.rd.keep hE7 (by rintro i ⟨e,_⟩;omega) (by rintro i ⟨e,_⟩;exact h2 e.symm)
  have hr7o:RdS w7 rb sb (xF st).2:=(hr3.keep hE5 (by rintro i (h | h);omega;exact (hFne _ h).2.2.2.1 rfl) (by rintro i (h | h);omega;exact (hFne _ h).2.1 rfl)).keep hE7 (by rintro i ⟨e,_⟩;exact h1 e.symm) (by rintro i ⟨e,_⟩;exact h2 e.symm)
  have hev7:w7.cell? ⟨E.vErr,0,none⟩=some ev:=hE7.cellSome hst5.err (by rintro ⟨e,_⟩;exact h3 e.symm)
  have hE:Eff (FMF rb pb (po+off) 1 F) w w7:=hE05.trans (hE7.mono (by rintro k i _ ⟨e1,e2⟩;exact .inl (.inr ⟨e1,by omega,by omega⟩)))
  have hf7':Fr (KR L n t) a a7:=hf3.trans ((hf6'.trans hf7).mono (KR.mono zH zH))
  have h7n:a7.eval (.tmp x'.rd)=.pointer (some ⟨rb',0,none⟩):=by
   rw[hxn,hf7.slot _ (.inl zH),hf6'.slot _ (.inl zH),← hxn]
   exact hst3.p7
  refine m_krEnd H HK (x:=x') (K:=KR L (n+1) (t+4)) (sb:=sb) (st:=((Ty.list TS none e).rd fx ver st').2) hr7 hev7 hst.evi h7n (fun d hd=>hmk d zH) (hs'.kn _ zH zH) zH zH zH ?_ ?_
  ·intro hgood a8 hf8
   have hf8':Fr (KR L n t) a a8:=hf7'.trans (hf8.mono (KR.mono zH zH))
   have hfr:=hst.fr hs hf8'
   have hke:∀ k,k≠pb->w7.heap[k]? = w5.heap[k]? ∨ ¬ k<w5.heap.size:=fun k hk=>by
    rcases Nat.lt_or_ge k w5.heap.size with h | h
    ·exact .inl (hE7.blockEq h (fun i h=>hk h.1))
    ·exact .inr zH
   refine kn a8 w7 [v] d (fun k=>F k\/(w.heap.size<=k/\k<w5.heap.size)) hf8' ⟨hr7o,hfr.p7,hfr.us,hfr.ver,hfr.fl,hev7,hst.evr,hst.evi⟩ rfl ?_ ⟨?_,?_⟩ (fun k h=>h.imp id (fun h=>h.1)) hE (fun _=>⟨?_,?_⟩)
   ·intro j u hu
    cases j with
    | zero=>simp only[List.getElem?_cons_zero,Option.some.injEq] at hu;subst hu;exact hc7
    | succ j=>simp at hu
   ·rintro k (h | h)
    ·have:=hsup.1 k h
     omega
    ·omega
   ·intro w' hw' hk'
    refine hsup5 w' zH (fun k hk=>?_)
    rw[hk' k hk]
    have hkp:k≠pb:=by
     rcases hk with h | h | h
     ·omega
     ·exact (hFne _ h).2.2.2.2
     ·omega
    refine (hke k hkp).resolve_right (fun h=>h ?_)
    rcases hk with h | h | h
    ·omega
    ·have:=hsup.1 k h
     omega
    ·exact h.2
   ·rw[hchk,hgood]
    rfl
   ·rw[hval]
    exact hd hgood
  ·intro hbad a8 g1 g2 g3
   refine kr a8 w7 (by rw[g1,hf7'.defers]) (by rw[g2,hf7'.size]) g3 hE (.inr ?_)
   rw[hchk,hbad]
   rfl
 -- the head, the elements
 rw[rc_list]
 simp only[Option.isSome_none,Bool.false_eq_true,if_false,List.append_assoc,List.cons_append,List.nil_append]
 refine m_listHead H (b0:=ad0) (n0:=len0) (c0:=cap0) hlen hTS hBt hzt hs' zH (by rw[hz3a];cases hx:x'.fl<;>simp only[hx,Option.isSome_none,Bool.false_eq_true,if_false] at ht1 ⊢<;>omega) hst3 hp3 zH hfo hcell3 ?_ ?_ ?_
 ·intro hcap
  rcases hown with ⟨_,_,g3⟩ | ⟨q,g3,g4,g5⟩
  ·exact absurd g3 hcap
  ·exact ⟨by rw[hzc];exact Ty.zc_one e,q,g3,(hFne q g4).1,(hFne q g4).2.1,(hFne q g4).2.2.1,fun i hi=>(g5 i hi).eff hE03⟩
 ·intro a4 w4 v hf4 hst4 hnb hy hz4 hE4 hL
  have hz4a:=hf4.size
  have hw4:=hE4.size
  have hGM:∀ k i,GM rb' ad0 cap0 k i->k=rb'\/F k:=fun k i h=>h.imp (fun h=>h.1) (hslF k)
  have hlb:(xy fx st').1<=big:=by
   have g1:=rdCn_le hnb
   have g2:=hst4.rd.len
   omega
  generalize ht2:t+4+5+(match x'.fl with | none=>1 | some _=>3)+0+3+2+5=t2 at *
  have hs2:RSl x' L (n+1) t2 fx:=hs'.up (Nat.le_refl _) zH zH
  rcases hL with ⟨hl0,base,bc,rfl,hbase⟩ | ⟨hl0,q,cap,rfl,hq1,hq2,hlc,hcz,hfz⟩
  ·simp only[jd,Bool.false_eq_true,if_false] at hbase
   obtain ⟨rfl,rfl⟩:=hbase
   have hrdl:(Ty.list TS none e).rd fx ver st'=(.list none,(xy fx st').2):=by
    simp only[Ty.rd,hnb,Bool.false_eq_true,if_false]
    rw[if_pos hl0]
    simp[jd]
   refine vS (m_rloop (len:=0) (S:=fun _=>(xy fx st').2) (J:=fun _ w'=>w'=w4) (R:=fun _=>False) hs2 zH zH hz4 zH hlb hst4 rfl (fun i _ _ hi=>absurd hi (Nat.not_lt_zero i)) ?_ (fun _ _ _ _ _ h=>h.elim))
   rintro a5 w5 hf5 hst5 rfl
   refine fin a5 w5 (.slice base 0 bc) (.list none) _ zH zH (hf4.trans (hf5.mono (KR.mono zH zH))) (by rw[hrdl];exact hst5) (by rw[hf5.slot _ (.inl zH)];exact hy) rfl (hE4.mono (fun k i _ h=>hGM k i h)) ?_ (fun _=>by rw[hrdl])
   intro w' hw' hk'
   rcases hown with ⟨rfl,rfl,rfl⟩ | ⟨q,rfl,g4,g5⟩
   ·exact ⟨.inl rfl,none,0,0,rfl,.inl ⟨rfl,rfl,rfl⟩⟩
   ·have hq:=hsup.1 q g4
    refine ⟨.inr ⟨rfl,q,_,rfl,hq.1,by omega⟩,_,_,_,rfl,.inr ⟨q,rfl,.inl g4,fun i hi=>?_⟩⟩
    exact zC (hk' q (.inr (.inl g4))) (((g5 i hi).eff hE03).eff hE4)
  ·have hrdl:(Ty.list TS none e).rd fx ver st'=(.list (some (xg (fun s=>e.rd fx ver s) (xy fx st').1.toNat (xy fx st').2).1),(xg (fun s=>e.rd fx ver s) (xy fx st').1.toNat (xy fx st').2).2):=by
    simp only[Ty.rd,hnb,Bool.false_eq_true,if_false]
    rw[if_neg zH]
   generalize hlenN:(xy fx st').1.toNat=len at *
   rw[hzc] at hcz
   have hqF:F q\/w3.heap.size<=q:=hq1.elim .inr (fun h=>.inl (hslF q h))
   have hqne:q≠rb'/\q≠sb/\q≠E.vErr:=by
    rcases hqF with h | h
    ·exact ⟨(hFne q h).1,(hFne q h).2.1,(hFne q h).2.2.1⟩
    ·omega
   have hqB:B<=q:=by
    rcases hqF with h | h
    ·exact (hsup.1 q h).1
    ·omega
   have hrbw:rb'<w4.heap.size:=by omega
   refine vS (m_listLoop (fun h=>hlf h hnp) hfs (q:=q) (Bq:=w4.heap.size) (len:=len) (cap:=cap) hoke hnl htxe hBt hs2 zH zH hst4 hy hz4 hlenN.symm hlb hcz (fun i hi=>hfz i (by have:=Nat.mul_le_mul_right e.size hlc;omega)) hqne.1 hqne.2.1 hqne.2.2 hrbw hq2 (Nat.le_refl _) hst3.rd.ne ?_ ?_)
   ·intro a5 w5 ds hf5 hst5 hE5 hdl hds hdeq
    have hw5:=hE5.size
    have hE35:Eff (fun k i=>k=rb'\/F k) w3 w5:=by
     refine (hE4.mono (fun k i _ h=>hGM k i h)).trans' hE5 ?_
     rintro k i hk (h | h)
     ·exact .inl h.1
     ·subst h
      exact .inr (hqF.resolve_right zH)
    refine fin a5 w5 (.slice (some ⟨q,0,none⟩) len cap) (.list (some ds)) _ zH zH (hf4.trans (hf5.mono (KR.mono zH zH))) (by rw[hrdl];exact hst5) (by rw[hf5.slot _ (.inl zH)];exact hy) rfl hE35 ?_ ?_
    ·intro w' hw' hk'
     have hqk:F q\/(w.heap.size<=q/\q<w5.heap.size):=hqF.imp id (fun h=>by omega)
     refine ⟨⟨q,cap,by rw[hdl],hqB,by omega,by omega,fun j d hj=>?_⟩,_,_,_,rfl,.inr ⟨q,rfl,hqk,fun i hi=>?_⟩⟩
     ·obtain ⟨c,m1,m2,m3⟩:=hds j d hj
      refine ⟨c,m1,yB m2 (fun _=>hk' q (.inr hqk)),Ty.Rep.blk e w4.heap.size (q+1) c d ⟨hw',fun _=>hk' sb (.inl rfl),fun k g1 g2=>hk' k (.inr (.inr ⟨by omega,g2⟩))⟩ zH m3⟩
     ·exact zC (hk' q (.inr hqk)) ((hfz i hi).eff hE5)
    ·intro h
     rw[hrdl] at h ⊢
     rw[hdeq h]
   ·intro a5 w5 g1 g2 g3 g4 g5
    have hE35:Eff (fun k i=>k=rb'\/F k) w3 w5:=by
     refine (hE4.mono (fun k i _ h=>hGM k i h)).trans' g4 ?_
     rintro k i hk (h | h)
     ·exact .inl h.1
     ·subst h
      exact .inr (hqF.resolve_right zH)
    refine kr a5 w5 (by rw[g1,hf4.defers,hf3.defers]) (by rw[g2,hz4a,hz3a]) g3 (hE0 hE35 (fun k i _ h=>h)) (.inr ?_)
    rw[hchk,hrdl,g5]
    rfl
 ·intro a4 w4 g1 g2 g3 g4 g5
  refine kr a4 w4 (by rw[g1,hf3.defers]) (by rw[g2,hz3a]) g3 (hE0 g4 (fun k i _ h=>.inl h.1)) (.inr ?_)
  rw[hchk,hbadr g5]
  rfl
theorem ye (ck:Nat->List UInt8->Bool):∀ (n:Nat) (acc:List (Nat × List UInt8)) (st:RSt),qI ck (n+1) acc st=(qs (xB (qI ck n acc st).2).1.1 (xB (qI ck n acc st).2).1.2 (qI ck n acc st).1,((xB (qI ck n acc st).2).2.1,(xB (qI ck n acc st).2).2.2 || !ck (xB (qI ck n acc st).2).1.1 (xB (qI ck n acc st).2).1.2))
 | 0,acc,st=>rfl
 | n+1,acc,st=>by
  rw[qI,ye ck n _ _]
  rfl
theorem vp {ck:Nat->List UInt8->Bool} {st:RSt} {j:Nat}:∀ {n:Nat},j<=n->(qI ck j [] st).2.2=true->(qI ck n [] st).2.2=true
 | 0,h,hb=>by
  have:j=0:=by omega
  subst this
  exact hb
 | n+1,h,hb=>by
  rcases Nat.eq_or_lt_of_le h with rfl | h
  ·exact hb
  ·have ih:=vp (n:=n) zH hb
   rw[ye]
   cases hh:(xB (qI ck n [] st).2).2.2 with
   | true=>simp[hh]
   | false=>rw[yN hh] at ih;cases ih
theorem yy (k:Nat) (p:List UInt8):∀ l:List (Nat × List UInt8),(qs k p l).find? (fun x=>x.1==k)=some (k,p)
 | []=>by simp[qs]
 | x::l=>by
  unfold qs
  split
  ·simp
  ·split
   ·simp
   ·rename_i h1 h2
    rw[List.find?_cons_of_neg (by simp;omega)]
    exact yy k p l
theorem vA {k j:Nat} (h:j≠k) (p:List UInt8):∀ l:List (Nat × List UInt8),(qs k p l).find? (fun x=>x.1==j)=l.find? (fun x=>x.1==j)
 | []=>by simp[qs];omega
 | x::l=>by
  unfold qs
  split
  ·rw[List.find?_cons_of_neg (by simp;omega)]
  ·split
   ·rename_i h1 h2
    rw[List.find?_cons_of_neg (by simp;omega),List.find?_cons_of_neg (by simp;omega)]
   ·by_cases hx:x.1=j
    ·rw[List.find?_cons_of_pos (by simpa using hx),List.find?_cons_of_pos (by simpa using hx)]
    ·rw[List.find?_cons_of_neg (by simpa using hx),List.find?_cons_of_neg (by simpa using hx)]
     exact vA h p l
theorem yz {k m:Nat} (h:k<m) (p:List UInt8):∀ l:List (Nat × List UInt8),(qs k p l).filter (fun x=>decide (m<=x.1))=l.filter (fun x=>decide (m<=x.1))
 | []=>by simp[qs];omega
 | x::l=>by
  unfold qs
  split
  ·rw[List.filter_cons_of_neg (by simp;omega)]
  ·split
   ·rename_i h1 h2
    rw[List.filter_cons_of_neg (by simp;omega),List.filter_cons_of_neg (by simp;omega)]
   ·rw[List.filter_cons,List.filter_cons,yz h p l]
theorem jU {k m:Nat} (h:m<=k) (p:List UInt8):∀ l:List (Nat × List UInt8),(qs k p l).filter (fun x=>decide (m<=x.1))=qs k p (l.filter (fun x=>decide (m<=x.1)))
 | []=>by simp[qs];omega
 | x::l=>by
  conv=>lhs;unfold qs
  split
  ·rename_i h1
   rw[List.filter_cons_of_pos (by simpa using h),List.filter_cons_of_pos (by simp;omega)]
   rw[qs,if_pos h1]
  ·split
   ·rename_i h1 h2
    rw[List.filter_cons_of_pos (by simpa using h),List.filter_cons_of_pos (by simp;omega)]
    rw[qs,if_neg h1,if_pos h2]
   ·rename_i h1 h2
    by_cases hx:m<=x.1
    ·rw[List.filter_cons_of_pos (by simpa using hx),List.filter_cons_of_pos (by simpa using hx),qs,if_neg h1,if_neg h2,jU h p l]
    ·rw[List.filter_cons_of_neg (by simpa using hx),List.filter_cons_of_neg (by simpa using hx),jU h p l]
abbrev FK (rb pb po off n:Nat) (kts:List KY):Nat->Nat->Prop:=fun k i=>RM rb k i\/(k=pb/\((po+off<=i/\i<po+off+n)\/∃ y ∈ kts,po+y.off<=i/\i<po+y.off+y.ty.size))
structure KtOK (P:Program) (E:Env) (T:List (Nat × List UInt8)->Prop) (x:Cx) (ver:Nat) (fx:Bool) (L s:Nat) (kts:List KY) (ck:Nat->List UInt8->Bool) (off pb po:Nat) (w:World):Prop where
 ok:∀ y ∈ kts,y.OK P E T x ver fx L s
 ks:kts.map (·.k)=List.range kts.length
 ck1:∀ y ∈ kts,∀ p,ck y.k p=y.chk fx ver p
 ck0:∀ j,kts.length<=j->∀ p,ck j p=true
 pos:∀ y ∈ kts,y.off+y.ty.size<=off
 sep:kts.Pairwise fun y z=>y.off+y.ty.size<=z.off
 dz:∀ y ∈ kts,qb w pb (po+y.off) y.ty.dz
 free:∀ y ∈ kts,∀ i,i<y.ty.size->qr w pb (po+y.off+i)
section
variable {kts : List KY} {pb po:Nat}
theorem KtOK.at (h:KtOK P E T x ver fx L s kts ck off pb po w) (i:Nat) (hi:i<kts.length):(kts[i]).k=i:=by
 have:=congrArg (·[i]?) h.ks
 simp[hi] at this
 exact this
theorem KtOK.lt (h:KtOK P E T x ver fx L s kts ck off pb po w) {y:KY} (hy:y ∈ kts):y.k<kts.length:=by
 obtain ⟨i,hi,rfl⟩:=List.getElem_of_mem hy
 rw[h.at i hi];exact hi
theorem KtOK.has (h:KtOK P E T x ver fx L s kts ck off pb po w) (hk:k<kts.length):∃ y ∈ kts,y.k=k:=⟨kts[k],List.getElem_mem hk,h.at k hk⟩
theorem KtOK.uniq (h:KtOK P E T x ver fx L s kts ck off pb po w) {y z:KY} (hy:y ∈ kts) (hz:z ∈ kts) (e:y.k=z.k):y=z:=by
 obtain ⟨i,hi,rfl⟩:=List.getElem_of_mem hy
 obtain ⟨j,hj,rfl⟩:=List.getElem_of_mem hz
 rw[h.at i hi,h.at j hj] at e
 subst e
 rfl
theorem KtOK.apart (h:KtOK P E T x ver fx L s kts ck off pb po w) {y z:KY} (hy:y ∈ kts) (hz:z ∈ kts) (e:y.k≠z.k):y.off+y.ty.size<=z.off\/z.off+z.ty.size<=y.off:=by
 obtain ⟨i,hi,rfl⟩:=List.getElem_of_mem hy
 obtain ⟨j,hj,rfl⟩:=List.getElem_of_mem hz
 rw[h.at i hi,h.at j hj] at e
 have hp:=List.pairwise_iff_getElem.1 h.sep
 rcases Nat.lt_or_gt_of_ne e with h | h
 ·exact .inl (hp i j hi hj h)
 ·exact .inr (hp j i hj hi h)
theorem KtOK.eff {rb n:Nat} {w':World} (h:KtOK P E T x ver fx L s kts ck off pb po w) (hE:Eff (FM rb pb (po+off) n) w w') (h1:pb≠rb):KtOK P E T x ver fx L s kts ck off pb po w' :=
 ⟨h.ok,h.ks,h.ck1,h.ck0,h.pos,h.sep,fun y hy=>(h.dz y hy).eff hE (by
  rintro i hi (⟨e,_⟩ | ⟨_,e,_⟩)
  ·exact h1 e
  ·have:=h.pos y hy
   rw[Ty.dz_len] at hi
   omega),fun y hy i hi=>(h.free y hy i hi).eff hE⟩
end
def KYs (fx:Bool) (ver:Nat) (w:World) (pb po B:Nat) (sb:Sb) (kts:List KY) (good:Prop) (tags:List (Nat × List UInt8)):Prop :=
 ∀ y ∈ kts,∃ (c:List Value) (d:D),c.length=y.ty.size/\qb w pb (po+y.off) c/\y.ty.Rep w sb B c d/\(good->d=y.get fx ver tags)
structure KYI (fx:Bool) (ver:Nat) (w:World) (pb po B:Nat) (sb:Sb) (kts:List KY) (Fs:Nat->Nat->Prop) (v:Value) (good:Prop) (tags:List (Nat × List UInt8)):Prop where
 at':∀ y ∈ kts,∃ (c:List Value) (d:D),c.length=y.ty.size/\qb w pb (po+y.off) c/\Sup sb B (Fs y.k) y.ty w c d/\(good->d=y.get fx ver tags)
 sep:∀ y ∈ kts,∀ z ∈ kts,y.k≠z.k->∀ k,Fs y.k k->¬ Fs z.k k
 map:∀ y ∈ kts,∀ k,Fs y.k k->v≠.map (some k)
theorem KYI.ys {pb po B':Nat} {sb:Sb} {kts:List KY} {Fs:Nat->Nat->Prop} {good:Prop} (h:KYI fx ver w pb po B sb kts Fs v good tags) (hB:B'<=B):KYs fx ver w pb po B' sb kts good tags:=by
 intro y hy
 obtain ⟨c,d,k1,k2,k3,k4⟩:=h.at' y hy
 exact ⟨c,d,k1,k2,Ty.Rep.blk y.ty B B' c d ⟨Nat.le_refl _,fun _=>rfl,fun _ _ _=>rfl⟩ hB k3.rep.1,k4⟩
theorem KY.get_same (fx:Bool) (ver:Nat) (y:KY) (p:List UInt8) (tags:List (Nat × List UInt8)):y.get fx ver (qs y.k p tags)=y.val fx ver p:=by
 unfold KY.get Ver.getT
 simp only[yy]
theorem KY.get_ne (fx:Bool) (ver:Nat) (y:KY) (h:y.k≠k) (p:List UInt8) (tags:List (Nat × List UInt8)):y.get fx ver (qs k p tags)=y.get fx ver tags:=by
 unfold KY.get Ver.getT
 simp only[vA h]
theorem zQ.repT {T:List (Nat × List UInt8)->Prop} {B':Nat} (h:zQ w sb B v tags) (hs:sb<w.heap.size) (hT:T tags) (hB:B'<=B):xx w ⟨sb,T⟩ B' v tags:=by
 obtain ⟨k1,_,k3⟩:=h.rep hs
 refine ⟨k1,hT,?_⟩
 rcases k3 with k3 | ⟨q,es,clock,k4,k5,k7,k6,k8,k9,l,k11,k12,k13⟩
 ·exact .inl k3
 ·refine .inr ⟨q,es,clock,k4,by omega,k7,k6,k8,k9,l,k11,k12,fun j x hx=>?_⟩
  obtain ⟨e,m1,m2,m3⟩:=k13 j x hx
  exact ⟨e,m1,m2,m3.imp id (fun ⟨c,o,cap,z1,z2,z3⟩=>⟨c,o,cap,z1,z2.imp id (fun h=>by omega),z3⟩)⟩
theorem m_krChain {x:Cx} {ver:Nat} {fx:Bool} {L s key k rb sb pb po B:Nat} {ev:Value} {d:Code} {Fs:Nat->Nat->Prop}:∀ (kt:List KY) (n t b:Nat) (a:Act) (w:World) (st:RSt) (Q:Exit->Act->World->Prop),fx=true->(∀ y ∈ kt,y.OK P E T x ver fx L s)->RSl x L n t fx->n+(kt.map (·.krd.casN)).sum<=L->t+(kt.map fun y=>2+y.krd.casT).sum<=a.tmps.size →
  key<t->L<=key->a.eval (.tmp key)=.int .u32 (k:Int)->RSta E x ver fx rb sb ev a w st->a.eval (.tmp s)=.pointer (some ⟨pb,po,none⟩)->s<n->(∀ y ∈ kt,∀ i,i<y.ty.size->qr w pb (po+y.off+i))->pb≠rb->pb≠sb->pb≠E.vErr->pb<B->rb<B->sb<B->E.vErr<B->B<=w.heap.size →
  (∀ y ∈ kt,∃ (c0:List Value) (d0:D),c0.length=y.ty.size/\qb w pb (po+y.off) c0/\Sup ⟨sb,T⟩ B (Fs y.k) y.ty w c0 d0) →
  (∀ y ∈ kt,y.k=k->∀ a' w' c d F',Fr (KR L n t) a a'->RSta E x ver fx rb sb ev a' w' (xF st).2->c.length=y.ty.size->qb w' pb (po+y.off) c->Sup ⟨sb,T⟩ B F' y.ty w' c d->(∀ k,F' k->Fs y.k k\/w.heap.size<=k)->Eff (FMF rb pb (po+y.off) y.ty.size (Fs y.k)) w w' →
   ((xF st).2.2=false->y.chk fx ver (xF st).1=true/\d=y.val fx ver (xF st).1)->Q .normal a' w') →
  (∀ y ∈ kt,y.k=k->∀ a' w',a'.defers=a.defers->a'.tmps.size=a.tmps.size->a'.eval (.tmp 6)=ev->Eff (FMF rb pb (po+y.off) y.ty.size (Fs y.k)) w w'->((xF st).2.2=true\/y.chk fx ver (xF st).1=false)->Q .ret a' w') →
  ((∀ y ∈ kt,y.k≠k)->∀ a',Fr (KR L n t) a a'->(∀ j:Nat,j<t->a'.eval (.tmp j)=a.eval (.tmp j))->vc P d Q a' w)->vc P (gL E key d (kt.map (·.krd)) n t b) Q a w
 | [],n,t,b,a,w,st,Q,hfx,hok,hs,hn,ht,hkt,hLk,hk,hst,hp,hsn,hf,h1,h2,h3,hB,hrB,hsB,hvB,hBw,hsup,kn,kr,kd=>kd zS a (Fr.refl _ a) (fun _ _=>rfl)
 | y::kt,n,t,b,a,w,st,Q,hfx,hok,hs,hn,ht,hkt,hLk,hk,hst,hp,hsn,hf,h1,h2,h3,hB,hrB,hsB,hvB,hBw,hsup,kn,kr,kd=>by
  have hnL:=hs.nL;have hLt:=hs.Lt
  simp only[List.map_cons,List.sum_cons] at hn ht
  simp only[List.map_cons,gL]
  obtain ⟨o1,o2,o4,o5⟩:=hok y zS
  obtain ⟨c0,d0,u1,u2,u3⟩:=hsup y zS
  refine vX ?_
  refine xG (k:=.u32) (m:=(k:Int)) (n:=(y.krd.k:Int)) zA rfl ?_
  refine rA (dn ?_)
  generalize hA:Act.put _ (some t) _=A
  have hf1:Fr (KR L n t) a A:=by subst hA;exact ((Fr.refl _ a).put _ (hs.kt _ zH)).put _ (hs.kt _ zH)
  have he:∀ j,j<t->A.eval (.tmp j)=a.eval (.tmp j):=by intro j hj;subst hA;exact zE
  have hc:A.eval (.tmp t)=.bool ((k:Int)==(y.krd.k:Int)):=by subst hA;exact zE
  have hz:=hf1.size
  clear hA
  have hst':=hst.fr hs hf1
  refine vS (vC (t:=((k:Int)==(y.krd.k:Int))) hc ?_ ?_)
  ·intro hkk
   have hkk:y.k=k:=by
    have:=eq_of_beq hkk
    omega
   refine o5 n (t+2) b rb sb pb po B ev A w st (Fs y.k) c0 d0 _ hfx (hs.up (Nat.le_refl _) hs.nL zH) zH (by rw[hz];omega) hst' (by rw[he s zH];exact hp) hsn (hf y zS) h1 h2 h3 hB hrB hsB hvB hBw u1 u2 u3 ?_ ?_
   ·intro a' w' c d F' g1 g2 g3 g4 g5 g6 g7 g8
    exact vN (kn y zS hkk a' w' c d F' (hf1.trans (g1.mono (KR.mono (Nat.le_refl _) zH))) g2 g3 g4 g5 g6 g7 g8)
   ·intro a' w' g1 g2 g3 g4 g5
    exact kr y zS hkk a' w' (by rw[g1,hf1.defers]) (by rw[g2,hz]) g3 g4 g5
  ·intro hkk
   have hkk:y.k≠k:=by
    rintro h
    rw[← o1] at h
    rw[h] at hkk
    simp at hkk
   refine xi _ (m_krChain kt (n+y.krd.casN) (t+2+y.krd.casT) (b+y.krd.casB) A w st Q hfx (fun z hz=>hok z (by simp[hz])) (hs.up zH zH zH) zH (by rw[hz];omega) zH hLk (by rw[he key hkt];exact hk) hst' (by rw[he s zH];exact hp) zH (fun z hz=>hf z (by simp[hz])) h1 h2 h3 hB hrB hsB hvB hBw (fun z hz=>hsup z (by simp[hz])) ?_ ?_ ?_) (fun e a w h=>by cases e<;>first | exact vN h | exact h)
   ·intro z hz hzk a' w' c d F' g1
    exact kn z (by simp[hz]) hzk a' w' c d F' (hf1.trans (g1.mono (KR.mono zH zH)))
   ·intro z hz' hzk a' w' g1 g2
    exact kr z (by simp[hz']) hzk a' w' (by rw[g1,hf1.defers]) (by rw[g2,hz])
   ·intro hno a' g1 g2
    refine kd ?_ a' (hf1.trans (g1.mono (KR.mono zH zH))) (fun j hj=>by rw[g2 j zH,he j hj])
    intro z hz
    rcases List.mem_cons.1 hz with rfl | hz
    ·exact hkk
    ·exact hno z hz
theorem rdTag_pay (st:RSt):xB st=(((qp st).1,(xF (qp st).2).1),(xF (qp st).2).2):=rfl
structure KInv (P:Program) (E:Env) (T:List (Nat × List UInt8)->Prop) (x:Cx) (ver:Nat) (fx:Bool) (rb sb pb po off B:Nat) (ev:Value) (kts:List KY) (ck:Nat->List UInt8->Bool) (st1:RSt) (w0:World) (i:Nat) (v:Value) (tg:List (Nat × List UInt8)) (A:Act) (W:World):Prop where
 st:RSta E x ver fx rb sb ev A W (qI ck i [] st1).2
 cell:W.cell? ⟨pb,po+off,none⟩=some v
 free:qr W pb (po+off)
 tag:zQ W sb w0.heap.size v tg
 low:∀ x ∈ tg,kts.length<=x.1
 eq:(qI ck i [] st1).2.2=false->tg=(qI ck i [] st1).1.filter (fun x=>decide (kts.length<=x.1))
 ys:∃ Fs,KYI fx ver W pb po w0.heap.size ⟨sb,T⟩ kts Fs v ((qI ck i [] st1).2.2=false) (qI ck i [] st1).1
 eff:Eff (FK rb pb po off 1 kts) w0 W
theorem KYI.eff {fx:Bool} {ver pb po B sb rb:Nat} {w w':World} {kts:List KY} {Fs:Nat->Nat->Prop} {v:Value} {good:Prop} {tags:List (Nat × List UInt8)} (h:KYI fx ver w pb po B ⟨sb,T⟩ kts Fs v good tags) (hE:Eff (RM rb) w w') (h1:pb≠rb) (hs:sb<w.heap.size) (hrs:rb≠sb) (hrB:rb<B):KYI fx ver w' pb po B ⟨sb,T⟩ kts Fs v good tags:=by
 refine ⟨fun y hy=>?_,h.sep,h.map⟩
 obtain ⟨c,d,k1,k2,k3,k4⟩:=h.at' y hy
 exact ⟨c,d,k1,k2.eff hE (by rintro i hi ⟨e,_⟩;exact h1 e),k3.eff hE hs (by rintro i ⟨e,_⟩;exact hrs e.symm) (by rintro k i hk ⟨e,_⟩;have:=(k3.1 k hk).1;omega),k4⟩
theorem zQ.effG (hm:zQ w sb B v tags) (he:Eff M w w') (hs:sb<w.heap.size) (h1:∀ i,¬ M sb i) (h2:∀ q,v=.map (some q)->∀ i,¬ M q i):zQ w' sb B v tags:=by
 refine hm.heap (he.blockEq hs h1) he.size ?_
 rintro q rfl
 obtain ⟨_,h3⟩:=hm
 rcases h3 with ⟨h3,_⟩ | ⟨q',l,hv,hq,hqs,_⟩
 ·cases h3
 ·cases hv
  exact he.blockEq hqs (h2 q rfl)
theorem zQ.lt {q:Nat} (hm:zQ w sb B (.map (some q)) tags):B<=q/\q<w.heap.size:=by
 rcases hm.2 with ⟨h,_⟩ | ⟨q',l,hv,hq,hqs,_⟩
 ·cases h
 ·cases hv;exact ⟨hq,hqs⟩
theorem m_tagStep (H:EnvR P E T) (HK:EnvRK P E T) {TP TU idx pb po N i:Nat} {A:Act} {w0:World} {st1:RSt} {kts:List KY} {tg:List (Nat × List UInt8)} (hKt:KtOK P E T x ver fx L s kts ck off pb po w0) (hfo:qh P TU idx=some off) (hs:RSl x L n t fx) (hn:n+(2+(kts.map (·.krd.casN)).sum)<=L) (ht:t+(16+(kts.map fun y=>2+y.krd.casT).sum)<=A.tmps.size) (hp:A.eval (.tmp s)=.pointer (some ⟨pb,po,none⟩)) (hsn:s<n) (h1:pb≠rb) (h2:pb≠sb) (h3:pb≠E.vErr) (hB:pb<B) (hrB:rb<B) (hBw:B<=w0.heap.size) (hfx:fx=true) (hslt:sb<w0.heap.size) (hve:E.vErr<w0.heap.size) (hI:KInv P E T x ver fx rb sb pb po off B ev kts ck st1 w0 i v tg A W) (hiN:i<N) (kn:∀ A' W' v' tg',Fr (KR L (n+1) t) A A'->KInv P E T x ver fx rb sb pb po off B ev kts ck st1 w0 (i+1) v' tg' A' W'->Q .normal A' W') (kr:∀ A' W',A'.defers=A.defers->A'.tmps.size=A.tmps.size->A'.eval (.tmp 6)=ev->Eff (FK rb pb po off 1 kts) w0 W'->(qI ck N [] st1).2.2=true->Q .ret A' W'):
  vc P (sq [rg [xj (some (t+6)) E.rUvar #[.tmp x.rd] #[E.tRd] E.tW,qc (n+1) (.tmp (t+6)) E.tW],rg [qd (t+7) (.tmp (n+1)) E.tW],
     .block (b+2) (gL E (t+7) (krSet E x TP TU s idx (n+1) (t+8)) (kts.map (·.krd)) (n+2) (t+16) (b+3))]) Q A W:=by
 have hnL:=hs.nL;have hLt:=hs.Lt;have h7:=hs.seven;have hrd:=hs.rd;have hvs:=hs.vs
 have hs1:RSl x L (n+1) t fx:=hs.up zH zH (Nat.le_refl _)
 have hkt:=hs1.kt
 have hst:=hI.st
 have hW:=hI.eff.size
 refine vX ?_
 refine q8 (args:=#[.pointer (some ⟨rb,0,none⟩)]) ?_ (HK.cU rb sb _ W hst.rd) ?_
 ·simp only[lM]
  simp (disch:=(try simp only[sP]);omega) only[eV,hst.p7]
 rintro v1 w1 ⟨rfl,hr1,hE1,_⟩
 refine rA (dn (vX (rM (dn ?_))))
 have hsnoc:=ye ck i [] st1
 rw[rdTag_pay] at hsnoc
 generalize hS:(qI ck i [] st1).2=S at *
 generalize hraw:(qI ck i [] st1).1=raw at *
 have hklt:=zx S
 generalize hkey:(qp S).1=key at *
 generalize hS1:(qp S).2=S1 at *
 have hbadS:(xF S1).2.2=false->S.2=false:=by
  intro h
  have h':S1.2=false:=zJ (qZ h)
  rw[← hS1] at h'
  exact zJ h'
 generalize hA2:Act.put _ (some (t+7)) _=A2
 have hf2:Fr (KR L (n+1) t) A A2:=by
  subst hA2
  exact (((Fr.refl _ A).put _ (hkt _ zH)).put _ (hs1.kn (n+1) (Nat.le_refl _) zH)).put _ (hkt _ zH)
 have k2k:A2.eval (.tmp (t+7))=.int .u32 (key:Int):=by subst hA2;exact zE
 have k2n:A2.eval (.tmp (n+1))=.int .u32 (key:Int):=by subst hA2;exact zE
 have hz2:=hf2.size
 clear hA2
 have hst2:RSta E x ver fx rb sb ev A2 w1 S1:=hst.step hs1 hf2 hr1 hE1
 have hp2:A2.eval (.tmp s)=.pointer (some ⟨pb,po,none⟩):=by rw[hf2.slot _ (.inl zH)];exact hp
 have hz1:=hE1.size
 have hEw1:Eff (FK rb pb po off 1 kts) w0 w1:=hI.eff.trans (hE1.mono (fun k i _ h=>.inl h))
 obtain ⟨Fs,hys⟩:=hI.ys
 have hys1:KYI fx ver w1 pb po w0.heap.size ⟨sb,T⟩ kts Fs v (S.2=false) raw:=by
  have:=hys.eff hE1 h1 zH hst.rd.ne zH
  rwa [hS,hraw] at this
 have hFlt:∀ y ∈ kts,∀ k,Fs y.k k->w0.heap.size<=k/\k<w1.heap.size:=by
  intro y hy k hk
  obtain ⟨c,d,_,_,k3,_⟩:=hys1.at' y hy
  exact k3.1 k hk
 have htag1:zQ w1 sb w0.heap.size v tg:=hI.tag.eff hE1 zH hst.rd.ne zH
 have hcell1:w1.cell? ⟨pb,po+off,none⟩=some v:=hE1.cellSome hI.cell (by rintro ⟨e,_⟩;exact h1 e)
 have hfree1:qr w1 pb (po+off):=hI.free.eff hE1
 have hfr0:∀ y ∈ kts,∀ j,j<y.ty.size->qr w1 pb (po+y.off+j):=fun y hy j hj=>(hKt.free y hy j hj).eff hEw1
 refine vS (qk ?_)
 refine m_krChain (k:=key) (L:=L) (s:=s) (rb:=rb) (sb:=sb) (pb:=pb) (po:=po) (B:=w0.heap.size) (ev:=ev) (Fs:=Fs) kts (n+2) (t+16) (b+3) A2 w1 S1 _ hfx hKt.ok (hs.up zH zH zH) zH (by rw[hz2];omega) zH zH k2k hst2 hp2 zH hfr0 h1 h2 h3 zH zH hslt hve zH (fun y hy=>by obtain ⟨c,d,k1,k2,k3,_⟩:=hys1.at' y hy;exact ⟨c,d,k1,k2,k3⟩) ?_ ?_ ?_
 ·
  intro y hy hyk a' w' c d F' g1 g2 g3 g4 g5 g5' g6 g7
  have hyl:=hKt.lt hy
  have hpos:=hKt.pos y hy
  have hck:(xF S1).2.2=false->ck key (xF S1).1=true:=fun h=>by rw[← hyk,hKt.ck1 y hy];exact (g7 h).1
  have hnext:(qI ck (i+1) [] st1).2=(xF S1).2:=by
   rw[hsnoc]
   cases hb:(xF S1).2.2 with
   | true=>simp only[Bool.true_or];rw[← hb]
   | false=>simp only[hck hb,Bool.not_true,Bool.or_false];rw[← hb]
  have hraw':(qI ck (i+1) [] st1).1=qs key (xF S1).1 raw:=by rw[hsnoc]
  have hE6:Eff (FK rb pb po off 1 kts) w0 w':=hEw1.trans' g6 (by
   rintro k j hk ((h | ⟨e1,e2,e3⟩) | h)
   ·exact .inl h
   ·exact .inr ⟨e1,.inr ⟨y,hy,e2,e3⟩⟩
   ·have:=hFlt y hy k h
    omega)
  have hnF:∀ k,k<w0.heap.size->¬ Fs y.k k:=fun k hk h=>by
   have:=hFlt y hy k h
   omega
  refine vN (kn a' w' v tg (hf2.trans (g1.mono (KR.mono zH zH))) ⟨by rw[hnext];exact g2,?_,hfree1.eff g6,?_,hI.low,?_,?_,hE6⟩)
  ·refine g6.cellSome hcell1 ?_
   rintro ((⟨e,_⟩ | ⟨_,_,e⟩) | h)
   ·exact h1 e
   ·omega
   ·exact hnF pb zH h
  ·refine htag1.effG g6 zH ?_ ?_
   ·rintro j ((⟨e,_⟩ | ⟨e,_⟩) | h)
    ·exact hst.rd.ne e.symm
    ·exact h2 e.symm
    ·exact hnF sb hslt h
   ·rintro q rfl j hj
    have hq:=htag1.lt
    rcases hj with (⟨e,_⟩ | ⟨e,_⟩) | h
    ·omega
    ·omega
    ·exact hys1.map y hy q h rfl
  ·rw[hnext,hraw',yz zH]
   intro h
   rw[← hraw]
   have:=hI.eq (by rw[hS];exact hbadS h)
   exact this
  ·rw[hnext,hraw']
   refine ⟨fun j=>if j=y.k then F' else Fs j,fun z hz=>?_,?_,?_⟩
   ·by_cases hzy:z.k=y.k
    ·obtain rfl:=hKt.uniq hz hy hzy
     refine ⟨c,d,g3,g4,by rw[if_pos rfl];exact g5,fun h=>?_⟩
     rw[← hyk,KY.get_same]
     exact (g7 h).2
    ·obtain ⟨c',d',k1,k2,k3,k4⟩:=hys1.at' z hz
     refine ⟨c',d',k1,k2.eff g6 ?_,?_,fun h=>?_⟩
     ·rintro j hj ((⟨e,_⟩ | ⟨_,e2,e3⟩) | h)
      ·exact h1 e
      ·rw[k1] at hj
       rcases hKt.apart hz hy hzy with h | h<;>omega
      ·exact hnF pb zH h
     ·rw[if_neg hzy]
      refine k3.eff g6 (by show sb<_;omega) ?_ ?_
      ·rintro j ((⟨e,_⟩ | ⟨e,_⟩) | h)
       ·exact hst.rd.ne e.symm
       ·exact h2 e.symm
       ·exact hnF sb hslt h
      ·rintro k j hk ((⟨e,_⟩ | ⟨e,_⟩) | h)
       ·have:=k3.1 k hk;omega
       ·have:=k3.1 k hk;omega
       ·exact hys1.sep z hz y hy hzy k hk h
     ·rw[KY.get_ne _ _ _ zH]
      exact k4 (hbadS h)
   ·intro z1 hz1 z2 hz2' hne k hk1 hk2
    by_cases e1:z1.k=y.k
    ·rw[if_pos e1] at hk1
     rw[if_neg zH] at hk2
     rcases g5' k hk1 with h | h
     ·exact hys1.sep z2 hz2' y hy zH k hk2 h
     ·have:=hFlt z2 hz2' k hk2;omega
    ·rw[if_neg e1] at hk1
     by_cases e2:z2.k=y.k
     ·rw[if_pos e2] at hk2
      rcases g5' k hk2 with h | h
      ·exact hys1.sep z1 hz1 y hy zH k hk1 h
      ·have:=hFlt z1 hz1 k hk1;omega
     ·rw[if_neg e2] at hk2
      exact hys1.sep z1 hz1 z2 hz2' hne k hk1 hk2
   ·rintro z hz k hk rfl
    have hq:=htag1.lt
    by_cases e1:z.k=y.k
    ·rw[if_pos e1] at hk
     rcases g5' k hk with h | h
     ·exact hys1.map y hy k h rfl
     ·omega
    ·rw[if_neg e1] at hk
     exact hys1.map z hz k hk rfl
 ·
  intro y hy hyk a' w' g1 g2 g3 g4 g5
  have hpos:=hKt.pos y hy
  refine kr a' w' (by rw[g1,hf2.defers]) (by rw[g2,hz2]) g3 (hEw1.trans' g4 ?_) ?_
  ·rintro k j hk ((h | ⟨e1,e2,e3⟩) | h)
   ·exact .inl h
   ·exact .inr ⟨e1,.inr ⟨y,hy,e2,e3⟩⟩
   ·have:=hFlt y hy k h
    omega
  ·refine vp (j:=i+1) hiN ?_
   rw[hsnoc]
   rcases g5 with h | h
   ·simp only[h,Bool.true_or]
   ·rw[← hKt.ck1 y hy,hyk] at h
    simp only[h,Bool.not_false,Bool.or_true]
 ·
  intro hno A3 hf3 he3
  have hkey2:kts.length<=key:=by
   rcases Nat.lt_or_ge key kts.length with h | h
   ·obtain ⟨y,hy,e⟩:=hKt.has h
    exact absurd e (hno y hy)
   ·exact h
  have hz3:=hf3.size
  have hst3:RSta E x ver fx rb sb ev A3 w1 S1:=hst2.fr hs1 (hf3.mono (KR.mono zH zH))
  refine m_krSet HK (K:=KR L (n+1) t) hst3.rd hst3.p7 (by rw[he3 s zH];exact hp2) (by rw[he3 (n+1) zH];exact k2n) zH hfo hcell1 hfree1 htag1 zH hslt zH h1 h2 (fun d hd=>hkt d zH) zH zH zH (by rw[hz3,hz2];omega) ?_
  intro a' w2 w' v' g1 g2 g3 g4 g5 g6 g7 g8 gvv g9 g10
  change RdS w' rb sb (xF S1).2 at g5
  change zQ w' sb w0.heap.size v' (qs key (xF S1).1 tg) at g10
  have hnext:(qI ck (i+1) [] st1).2=(xF S1).2:=by
   rw[hsnoc]
   simp only[hKt.ck0 key hkey2,Bool.not_true,Bool.or_false]
  have hraw':(qI ck (i+1) [] st1).1=qs key (xF S1).1 raw:=by rw[hsnoc]
  have hf':Fr (KR L (n+1) t) A a':=(hf2.trans (hf3.mono (KR.mono zH zH))).trans g1
  have hEw2:Eff (FK rb pb po off 1 kts) w0 w2:=hEw1.trans (g2.mono (fun k i _ h=>.inl h))
  have hEw':Eff (FK rb pb po off 1 kts) w0 w':=g3.eff hEw2 (fun q e=>g9.low q e) (fun _=>.inr ⟨rfl,.inl ⟨by omega,by omega⟩⟩)
  have hfr:=hst.fr hs1 hf'
  refine vN (kn a' w' v' _ hf' ⟨?_,g6,g8,g10,?_,?_,?_,hEw'⟩)
  ·rw[hnext]
   have he2:w2.cell? ⟨E.vErr,0,none⟩=some ev:=g2.cellSome hst3.err (fun hh=>hst3.evr hh.1)
   exact ⟨g5,hfr.p7,hfr.us,hfr.ver,hfr.fl,g3.cell he2 (g9.ne he2) (by rintro ⟨e,_⟩;exact h3 e.symm),hst.evr,hst.evi⟩
  ·intro z hz
   rcases y9 _ _ _ z hz with rfl | hz
   ·exact hkey2
   ·exact hI.low z hz
  ·rw[hnext,hraw',jU hkey2]
   intro h
   rw[← hraw]
   have:=hI.eq (by rw[hS];exact hbadS h)
   rw[← this]
  ·rw[hnext,hraw']
   have hz2w:=g2.size
   refine ⟨Fs,fun z hz=>?_,hys1.sep,fun z hz k hk=>?_⟩
   ·obtain ⟨c',d',k1,k2,k3,k4⟩:=hys1.at' z hz
    have hpos:=hKt.pos z hz
    have k2':qb w2 pb (po+z.off) c':=k2.eff g2 (by rintro j hj ⟨e,_⟩;exact h1 e)
    refine ⟨c',d',k1,g3.cells k2' (g9.ne (g2.cellSome hcell1 (by rintro ⟨e,_⟩;exact h1 e))) ?_,?_,fun h=>?_⟩
    ·rintro j hj ⟨_,e⟩
     omega
    ·refine (k3.eff g2 (by show sb<_;omega) (by rintro i ⟨e,_⟩;exact hst.rd.ne e.symm) (by rintro k i hk ⟨e,_⟩;have:=k3.1 k hk;omega)).keep g3.size ?_
     intro k hk
     rcases hk with hk | hk
     ·simp only at hk
      subst hk
      exact g3.at zH (fun e=>by have:=g9.low _ e;omega) (Ne.symm h2)
     ·have:=k3.1 k hk
      exact g3.at zH (hys1.map z hz k hk) zH
    ·rw[KY.get_ne _ _ _ (by have:=hKt.lt hz;omega)]
     exact k4 (hbadS h)
   ·rcases gvv with rfl | rfl
    ·exact hys1.map z hz k hk
    ·have:=hFlt z hz k hk
     intro e
     cases e
     omega
def kStr (E:Env) (x:Cx) (TP TU:TypeId) (s idx k TP':Nat) (ty:Ty):KRd :=
 { k:=k,casN:=3+1+ty.rn,casT:=4+ty.h+ty.rt x+4,casB:=ty.wb,cas:=fun n t b=>wR E x n t::((rg [qd (t+4) (.tmp s) TP,jn (t+5) (.tmp (t+4)),xw (t+6) TU (.tmp (t+5)) idx,qc (n+1) (.tmp (t+6)) TP']::Ty.rc E { x with rd:=n } 0 0 0 0 (n+1) (t+7) b ty)++wz E { x with rd:=n } (n+3+ty.rn) (t+7+ty.rt x)) }
theorem m_rtags (H:EnvR P E T) {fl:Nat} {TP TU idx pb po:Nat} (hx:x.fl=some fl) (hs:RSl x L n t fx) (ht:t+5<=a.tmps.size) (hst:RSta E x ver fx rb sb ev a w st) (hrt:E.rTags≠0) (hagg:zd P E.tTags=some 1) (hfo:qh P TU idx=some off) (hp:a.eval (.tmp s)=.pointer (some ⟨pb,po,none⟩)) (hsn:s<n) (hf:qr w pb (po+off)) (h1:pb≠rb) (h2:pb≠sb) (h3:pb≠E.vErr) (k0:fx=false->∀ a',Fr (KR L n t) a a'->Q .normal a' w) (k:fx=true->∀ a' w' u tags,Fr (KR L n t) a a'->RSta E x ver fx rb sb ev a' w' (xS st).2->w'.cell? ⟨pb,po+off,none⟩=some u->u.oneCell'=true->(∀ B,B<=w.heap.size->pb<B->xx w' ⟨sb,T⟩ B u tags)->(∀ w2,Blk ⟨sb,T⟩ w.heap.size w' w2->xx w2 ⟨sb,T⟩ w.heap.size u tags)->Eff (fun k i=>RM rb k i\/(k=pb/\i=po+off)) w w'->((xS st).2.2=false->tags=(xS st).1)->Q .normal a' w'):
  vc P (sq (rTagsC E x TP TU s idx t)) Q a w:=by
 have hnL:=hs.nL;have hLt:=hs.Lt;have h7:=hs.seven;have hrd:=hs.rd
 have hkt:=hs.kt
 have hfl:=hs.fl fl hx
 simp only[rTagsC,hx]
 refine vS (vX (rM (dn ?_)))
 have hf0:Fr (KR L n t) a (a.put (some t) (a.eval (.tmp fl))):=(Fr.refl _ a).put _ (hkt _ (Nat.le_refl _))
 refine vS (vC (t:=fx) (by rw[qE _ _ _ zH];exact hst.fl fl hx) ?_ ?_)
 ·intro h
  refine vR zS ?_
  refine rM ?_
  refine q8 (args:=#[.pointer (some ⟨rb,0,none⟩)]) ?_ (H.tags hrt rb sb st w hst.rd) ?_
  ·simp only[lM]
   simp (disch:=(try simp only[sP]);omega) only[eV,hst.p7]
  rintro v w1 ⟨⟨u,tags,rfl,hu,htr,htd⟩,hr,hE⟩
  refine xe (ad:=⟨pb,po,none⟩) zA ?_
  refine rF (b:=pb) (o:=po) zE hfo ?_
  have hf1:qr w1 pb (po+off):=hf.eff hE
  have hfree:∀ i,i < [u].length->qr w1 pb (po+off+i):=fun i hi=>by
   have:i=0:=by simpa using hi
   subst this
   exact hf1
  refine qy (b:=pb) (o:=po+off) (cs:=[u]) zE zE (by simpa using hu) hagg hfree ?_
  refine dn (vN (vN ?_))
  have hE2:Eff (fun k i=>k=pb/\i=po+off) w1 (setCells w1 pb (po+off) [u]):=(qe pb [u] w1 (po+off)).mono (by
   rintro k i _ ⟨e1,e2,e3⟩
   simp only[List.length_cons,List.length_nil] at e3
   exact ⟨e1,by omega⟩)
  generalize ha2:Act.put (Act.put (Act.put (Act.put (Act.put a _ _) _ _) _ _) _ _) _ _=a2
  have hf2:Fr (KR L n t) a a2:=by
   subst ha2
   exact (((((Fr.refl _ a).put _ (hkt _ zH)).put _ (hkt _ zH)).put _ (hkt _ zH)).put _ (hkt _ zH)).put _ (hkt _ zH)
  have hpw:=hf.lt
  have hz1:=hE.size
  refine k h a2 _ u tags hf2 ((hst.step hs hf2 hr hE).keep hs (Fr.refl _ _) hE2 (by rintro j ⟨h,_⟩;exact h1 h.symm) (by rintro j ⟨h,_⟩;exact h2 h.symm) (by rintro j ⟨h,_⟩;exact h3 h.symm)) ?_ hu ?_ ?_ ((hE.mono (fun k i _ h=>.inl h)).trans (hE2.mono (fun k i _ h=>.inr h))) htd
  ·have:=qg pb [u] w1 (po+off) (fun j hj=>(hfree j hj).1) 0 u rfl
   simpa using this
  ·intro B hB hpB
   refine htr.eff hE2 ?_ ?_ hB
   ·rintro j ⟨h,_⟩;exact h2 h.symm
   ·rintro k j hk _ ⟨h,_⟩;omega
  ·intro w2 hw2
   refine xx.blk (B':=w.heap.size) hw2 (Nat.le_refl _) (htr.eff hE2 ?_ ?_ (Nat.le_refl _))
   ·rintro j ⟨h,_⟩;exact h2 h.symm
   ·rintro k j hk _ ⟨h,_⟩;omega
 ·intro h
  exact vK (vN (vN (k0 h _ hf0)))
theorem two_sup {TP TU:TypeId} {FD:FuncId} (HK:EnvRK P E T) (w:World) (sb B:Nat):Sup ⟨sb,T⟩ B (fun _=>False) (.struct TP TU FD fs2) w (Ty.struct TP TU FD fs2).dz (Ty.struct TP TU FD fs2).dflt:=by
 have hT0:gf []:=⟨List.Pairwise.nil,by simp⟩
 have hok0:Scal.i32.ok 0:=⟨by omega,by omega⟩
 exact ⟨fun k h=>h.elim,fun w' _ _=>⟨⟨⟨rfl,hok0⟩,⟨⟨rfl,hok0⟩,⟨.map none,rfl,hT0,HK.all _,.inl ⟨rfl,rfl⟩⟩,trivial⟩,trivial⟩,trivial⟩⟩
theorem kTwo_ok (H:EnvR P E T) (HK:EnvRK P E T) {fl:Nat} {TP TU TP' TU' idx:Nat} {FD:FuncId} (hk:k<4294967296) (hx:x.fl=some fl) (hok:(Ty.struct TP' TU' FD fs2).okR P E x=true) (htx:(Ty.struct TP' TU' FD fs2).txR P E) (hfo:qh P TU idx=some off):KY.OK P E T x ver fx L s ⟨k,off,.struct TP' TU' FD fs2,kStr E x TP TU s idx k TP' (.struct TP' TU' FD fs2)⟩:=by
 refine ⟨rfl,hk,fun w sb B=>two_sup HK w sb B,?_⟩
 intro n t b rb sb pb po B ev a w st F c0 d0 Q hfx hs hn ht hst hp hsn hf h1 h2 h3 hB hrB hsB hvB hBw hcl hc0 hsup kn kr
 subst hfx
 have hnL:=hs.nL;have hLt:=hs.Lt;have h7:=hs.seven;have hrd:=hs.rd;have hvs:=hs.vs
 simp only[Ty.okR,Flds.okR,hx,Option.isNone_some,Bool.false_or,Bool.and_eq_true,bne_iff_ne,ne_eq,beq_iff_eq,Ty.size,Ver.okT,Ver.nextT,true_and] at hok
 obtain ⟨⟨⟨⟨ho0,hr32,h32⟩,_⟩,⟨⟨ho1,_⟩,_⟩,⟨ho2,hrt⟩,hag⟩,hokd⟩:=hok
 simp only[Ty.txR] at htx
 obtain ⟨⟨np,nt,htxt,hnt⟩,_⟩:=htx
 have hsz3:(Ty.struct TP' TU' FD fs2).size=3:=rfl
 have hrt18:(Ty.struct TP' TU' FD fs2).rt x=18:=by simp only[Ty.rt,Flds.rt,hx,Ver.nt,Ty.h,Ty.tp,List.isEmpty_nil,if_true]
 have hrn2:(Ty.struct TP' TU' FD fs2).rn=2:=rfl
 simp only[kStr,hrn2] at hn
 simp only[kStr,hrt18,Ty.h,Ty.tp] at ht
 simp only[hsz3] at hf hcl kn kr
 simp only[kStr,hrt18,hrn2]
 show vc P (sq (wR E x n t::rg [qd (t+4) (.tmp s) TP,jn (t+5) (.tmp (t+4)),xw (t+6) TU (.tmp (t+5)) idx,qc (n+1) (.tmp (t+6)) TP']::rg [qd (t+7) (.tmp (n+1)) TP',xj (some (t+8)) FD #[.tmp (t+7)] #[TP'] 0]::rg [qd (t+9) (.tmp (n+1)) TP',qc (n+2) (.tmp (t+9)) TP'] ::
  sq [xb E { x with rd:=n } (E.rScal .i32) (E.tScal .i32) (n+3) (t+10),ko TP' TU' (E.tScal .i32) false (n+3) (n+2) 0 (t+11)]::sq [xb E { x with rd:=n } (E.rScal .i32) (E.tScal .i32) (n+4) (t+15),ko TP' TU' (E.tScal .i32) false (n+4) (n+2) 1 (t+16)] ::
  (rTagsC E { x with rd:=n } TP' TU' (n+2) 2 (t+20)++wz E { x with rd:=n } (n+5) (t+25)))) Q a w
 obtain ⟨v0,v1,v2,rfl⟩:∃ a b c,c0=[a,b,c]:=by
  rcases c0 with _ | ⟨a,_ | ⟨b,_ | ⟨c,_ | ⟨d,r⟩⟩⟩⟩<;>simp at hcl
  exact ⟨a,b,c,rfl⟩
 refine vS (m_krHead HK hs zH zH hst ?_)
 intro a3 w3 rb' hf3 hst3 hr3 hE03 hrb1 hrb2
 have hz3a:=hf3.size
 have hz3:=hE03.size
 have hslt:=hst.rd.lt
 have hs':RSl { x with rd:=n } L (n+1) (t+4) true:=hs.inner zH
 have hx':({ x with rd:=n }:Cx).fl=some fl:=hx
 generalize ({ x with rd:=n }:Cx)=x' at *
 have hp3:a3.eval (.tmp s)=.pointer (some ⟨pb,po,none⟩):=by rw[hf3.slot _ (.inl hsn)];exact hp
 generalize hst':(((xF st).1,false):RSt)=st' at *
 have hnum:(E.rScal .i32)≠0:=hr32
 have hrdeq:(Ty.struct TP' TU' FD fs2).rd true ver st'=(.obj [.int (Scal.i32.rd st').1,.int (Scal.i32.rd (Scal.i32.rd st').2).1] (xS (Scal.i32.rd (Scal.i32.rd st').2).2).1,(xS (Scal.i32.rd (Scal.i32.rd st').2).2).2):=by
  simp only[Ty.rd,Flds.rd,Ver.has,if_true,rdTagsK_no]
 have hchk:∀ kr:KRd,KY.chk true ver ⟨k,off,.struct TP' TU' FD fs2,kr⟩ (xF st).1 = !((Ty.struct TP' TU' FD fs2).rd true ver st').2.2:=by
  intro kr
  rw[← hst']
  rfl
 have hval:∀ kr:KRd,KY.val true ver ⟨k,off,.struct TP' TU' FD fs2,kr⟩ (xF st).1=((Ty.struct TP' TU' FD fs2).rd true ver st').1:=by
  intro kr
  rw[← hst']
  rfl
 refine vX (rM ?_)
 refine xe (ad:=⟨pb,po,none⟩) zA ?_
 refine rF (b:=pb) (o:=po) zE hfo ?_
 refine rA (dn (vX (rM ?_)))
 have hfF:∀ i,i<3->qr w3 pb (po+off+i):=fun i hi=>(hf i hi).eff hE03
 have hc3:qb w3 pb (po+off) [v0,v1,v2]:=hc0.eff hE03 (by rintro i hi ⟨e,_⟩;exact h1 e)
 refine q8 (args:=#[.pointer (some ⟨pb,po+off,none⟩)]) ?_ (c_dflt (E:=E) (b:=pb) (o:=po+off) (off:=0) (cs:=[v0,v1,v2]) htxt hnt hokd rfl (by rw[Nat.add_zero];exact hc3) (by rw[Nat.add_zero];exact hfF)) ?_
 ·simp only[lM]
  exact zE
 rintro v w4 ⟨hE4,_⟩
 rw[Nat.add_zero] at hE4
 refine dn (vX (rM (rA (dn ?_))))
 generalize hA:Act.put _ (some (n+2)) _=A
 have hfA:Fr (KR L (n+1) (t+4)) a3 A:=by
  subst hA
  exact ((((((((Fr.refl _ a3).put _ (hs'.kt _ zH)).put _ (hs'.kt _ zH)).put _ (hs'.kt _ zH)).put _ (hs'.kn _ zH zH)).put _ (hs'.kt _ zH)).put _ (hs'.kt _ zH)).put _ (hs'.kt _ zH)).put _ (hs'.kn _ zH zH)
 have hAs:A.eval (.tmp (n+2))=.pointer (some ⟨pb,po+off,none⟩):=by subst hA;exact zE
 have hzA:=hfA.size
 clear hA
 have hE4':Eff (fun k i=>RM rb' k i\/(k=pb/\po+off<=i/\i<po+off+3)) w3 w4:=hE4.mono (fun k i _ h=>.inr h)
 have hstA:RSta E x' ver true rb' sb ev A w4 st':=hst3.keep hs' hfA hE4 (by rintro i ⟨h,_⟩;omega) (by rintro i ⟨h,_⟩;exact h2 h.symm) (by rintro i ⟨h,_⟩;exact h3 h.symm)
 have hs3:RSl x' L (n+3) (t+10) true:=hs'.up zH zH zH
 refine vS (m_rnum H (pb:=pb) (po:=po+off) (off:=0) hs3 zH (by rw[hzA,hz3a];omega) hstA hnum h32 ho0 hAs zH (by have:=(hfF 0 zH).eff hE4;simpa using this) zH h2 h3 ?_)
 intro a5 w5 hf5 hst5 hc5 hv5 hE5
 have hz5:=hf5.size
 refine vN ?_
 have hs4:RSl x' L (n+4) (t+15) true:=hs3.up zH zH zH
 refine vS (m_rnum H (pb:=pb) (po:=po+off) (off:=1) hs4 zH (by rw[hz5,hzA,hz3a];omega) hst5 hnum h32 ho1 (by rw[hf5.slot _ (.inl zH)];exact hAs) zH (((hfF 1 zH).eff hE4).eff hE5) zH h2 h3 ?_)
 intro a6 w6 hf6 hst6 hc6 hv6 hE6
 have hz6:=hf6.size
 refine vN ?_
 have hs5:RSl x' L (n+5) (t+20) true:=hs4.up zH zH zH
 show vc P (sq (rTagsC E x' TP' TU' (n+2) 2 (t+20)++wz E x' (n+5) (t+25))) Q a6 w6
 refine zw (m_rtags H (pb:=pb) (po:=po+off) (off:=2) hx' hs5 (by rw[hz6,hz5,hzA,hz3a];omega) hst6 hrt hag ho2 (by rw[hf6.slot _ (.inl zH),hf5.slot _ (.inl zH)];exact hAs) zH ((((hfF 2 zH).eff hE4).eff hE5).eff hE6) zH h2 h3 (fun h=>by cases h) ?_)
 intro _ a7 w7 u tags hf7 hst7 hc7 hu7 _ htr7 hE7 htd7
 have hz7:=hf7.size
 show vc P (sq _) Q a7 w7
 have hM:∀ {d:Nat} {k i:Nat},d<3->(RM rb' k i\/(k=pb/\i=po+off+d))->(RM rb' k i\/(k=pb/\po+off<=i/\i<po+off+3)):=by
  rintro d k i hd (h | ⟨h,h'⟩)
  ·exact .inl h
  ·exact .inr ⟨h,by omega,by omega⟩
 have hE37:Eff (fun k i=>RM rb' k i\/(k=pb/\po+off<=i/\i<po+off+3)) w3 w7:=((hE4'.trans (hE5.mono (fun k i _ h=>hM zH h))).trans (hE6.mono (fun k i _ h=>hM zH h))).trans (hE7.mono (fun k i _ h=>hM zH h))
 have hE:Eff (FMF rb pb (po+off) 3 F) w w7:=(hE03.mono (fun k i _ h=>.inl (.inl h))).trans' hE37 (by
  rintro k i hk (⟨e,_⟩ | h)
  ·omega
  ·exact .inl (.inr h))
 have hr7o:RdS w7 rb sb (xF st).2:=hr3.keep hE37 (by rintro i (⟨e,_⟩ | ⟨e,_⟩);omega;exact h1 e.symm) (by rintro i (⟨e,_⟩ | ⟨e,_⟩);omega;exact h2 e.symm)
 have hf37:Fr (KR L (n+1) (t+4)) a3 a7:=((hfA.trans (hf5.mono (KR.mono zH zH))).trans (hf6.mono (KR.mono zH zH))).trans (hf7.mono (KR.mono zH zH))
 have hf07:Fr (KR L n t) a a7:=hf3.trans (hf37.mono (KR.mono zH zH))
 have hz67:=hE7.size
 have hz56:=hE6.size
 have hz45:=hE5.size
 have hz34:=hE4.size
 refine m_krEnd H HK (x:=x') (K:=KR L (n+1) (t+4)) (sb:=sb) (st:=(xS (Scal.i32.rd (Scal.i32.rd st').2).2).2) hst7.rd hst7.err hst.evi hst7.p7 (fun d hd=>hs'.kt d zH) (hs'.kn _ zH zH) zH zH zH ?_ ?_
 ·intro hgood a8 hf8
  have hf8':Fr (KR L n t) a a8:=hf07.trans (hf8.mono (KR.mono zH zH))
  have hfr:=hst.fr hs hf8'
  refine kn a8 w7 [Scal.i32.val (Scal.i32.rd st').1,Scal.i32.val (Scal.i32.rd (Scal.i32.rd st').2).1,u] (.obj [.int (Scal.i32.rd st').1,.int (Scal.i32.rd (Scal.i32.rd st').2).1] tags) (fun k=>F k\/(w.heap.size<=k/\k<w7.heap.size)) hf8' ⟨hr7o,hfr.p7,hfr.us,hfr.ver,hfr.fl,hst7.err,hst.evr,hst.evi⟩ rfl ?_ ⟨?_,?_⟩ (fun k h=>h.imp id (fun h=>h.1)) hE (fun _=>⟨?_,?_⟩)
  ·have g5:=hE7.cellSome (hE6.cellSome hc5 (by rintro (⟨e,_⟩ | ⟨_,e⟩)<;>omega)) (by rintro (⟨e,_⟩ | ⟨_,e⟩)<;>omega)
   have g6:=hE7.cellSome hc6 (by rintro (⟨e,_⟩ | ⟨_,e⟩)<;>omega)
   intro j y hy
   rcases j with _ | _ | _ | j
   ·simp only[List.getElem?_cons_zero,Option.some.injEq] at hy;subst hy;exact g5
   ·simp only[List.getElem?_cons_succ,List.getElem?_cons_zero,Option.some.injEq] at hy;subst hy;exact g6
   ·simp only[List.getElem?_cons_succ,List.getElem?_cons_zero,Option.some.injEq] at hy;subst hy;exact hc7
   ·simp at hy
  ·rintro k (h | h)
   ·have:=hsup.1 k h
    omega
   ·omega
  ·intro w' hw' hk'
   have htg:=htr7 w' ⟨hw',fun _=>hk' sb (.inl rfl),fun k g1 g2=>hk' k (.inr (.inr ⟨by omega,g2⟩))⟩
   exact ⟨⟨⟨rfl,hv5⟩,⟨⟨rfl,hv6⟩,⟨u,rfl,htg.blk (B':=B) ⟨Nat.le_refl _,fun _=>rfl,fun _ _ _=>rfl⟩ zH⟩,trivial⟩,trivial⟩,trivial⟩
  ·rw[hchk,hrdeq,hgood]
   rfl
  ·rw[hval,hrdeq,htd7 hgood]
 ·intro hbad a8 g1 g2 g3
  refine kr a8 w7 (by rw[g1,hf07.defers]) (by rw[g2,hf07.size]) g3 hE (.inr ?_)
  rw[hchk,hrdeq,hbad]
  rfl
theorem kTwo_no {TP TU TP' TU' idx:Nat} {FD:FuncId} (HK:EnvRK P E T) (hk:k<4294967296) (hno:fx=false):KY.OK P E T x ver fx L s ⟨k,off,.struct TP' TU' FD fs2,kStr E x TP TU s idx k TP' (.struct TP' TU' FD fs2)⟩:=by
 subst hno
 exact ⟨rfl,hk,fun w sb B=>two_sup HK w sb B,fun _ _ _ _ _ _ _ _ _ _ _ _ _ _ _ _ h=>by cases h⟩
theorem m_tagsK (H:EnvR P E T) (HK:EnvRK P E T) {fl:Nat} {TP TU idx pb po:Nat} {kts:List KY} (hKt:KtOK P E T x ver fx L s kts ck off pb po w) (hx:x.fl=some fl) (hfo:qh P TU idx=some off) (hs:RSl x L n t fx) (hn:n+(2+(kts.map (·.krd.casN)).sum)<=L) (ht:t+(16+(kts.map fun y=>2+y.krd.casT).sum)<=a.tmps.size) (hst:RSta E x ver fx rb sb ev a w st) (hp:a.eval (.tmp s)=.pointer (some ⟨pb,po,none⟩)) (hsn:s<n) (hc:w.cell? ⟨pb,po+off,none⟩=some (.map none)) (hf:qr w pb (po+off)) (h1:pb≠rb) (h2:pb≠sb) (h3:pb≠E.vErr) (hB:pb<B) (hrB:rb<B) (hBw:B<=w.heap.size) (kn:∀ a' w' v tg,Fr (KR L n t) a a'->RSta E x ver fx rb sb ev a' w' (if fx then (zX ck st).2 else st)->w'.cell? ⟨pb,po+off,none⟩=some v->zQ w' sb w.heap.size v tg->(∀ z ∈ tg,kts.length<=z.1) →
   ((if fx then (zX ck st).2 else st).2=false->tg=(if fx then (zX ck st).1 else []).filter (fun x=>decide (kts.length<=x.1))) →
   KYs fx ver w' pb po B ⟨sb,T⟩ kts ((if fx then (zX ck st).2 else st).2=false) (if fx then (zX ck st).1 else [])->Eff (FK rb pb po off 1 kts) w w'->Q .normal a' w') (kr:∀ a' w',a'.defers=a.defers->a'.tmps.size=a.tmps.size->a'.eval (.tmp 6)=ev->Eff (FK rb pb po off 1 kts) w w'->(if fx then (zX ck st).2 else st).2=true->Q .ret a' w'):
  vc P (sq (rTagsK E x TP TU s idx n t b (kts.map (·.krd)))) Q a w:=by
 have hnL:=hs.nL;have hLt:=hs.Lt;have h7:=hs.seven;have hrd:=hs.rd;have hvs:=hs.vs
 have hkt:=hs.kt
 have hrlt:=hst.rd.rb_lt
 have hslt:=hst.rd.lt
 have htag0:zQ w sb w.heap.size (.map none) []:=⟨⟨List.Pairwise.nil,by simp⟩,.inl ⟨rfl,rfl⟩⟩
 have hys:∀ good,KYI fx ver w pb po w.heap.size ⟨sb,T⟩ kts (fun _ _=>False) (.map none) good []:=fun good =>
  ⟨fun y hy=>⟨y.ty.dz,y.ty.dflt,Ty.dz_len _,hKt.dz y hy,(hKt.ok y hy).2.2.1 w _ _,fun _=>rfl⟩,fun _ _ _ _ _ _ h=>h.elim,fun _ _ _ h=>h.elim⟩
 simp only[rTagsK,hx]
 refine vS (vX (rM (dn ?_)))
 have hf0:Fr (KR L n t) a (a.put (some t) (a.eval (.tmp fl))):=(Fr.refl _ a).put _ (hkt _ (Nat.le_refl _))
 refine vS (vC (t:=fx) (by rw[qE _ _ _ zH];exact hst.fl fl hx) ?_ ?_)
 rotate_left
 ·intro h
  subst h
  refine vK (vN (vN (kn _ w (.map none) [] hf0 (hst.fr hs hf0) hc htag0 zS (fun _=>rfl) ((hys _).ys hBw) (Eff.refl _ _))))
 intro h
 subst h
 simp only[if_true] at kn kr
 refine vX ?_
 refine q8 (args:=#[.pointer (some ⟨rb,0,none⟩)]) ?_ (HK.cU rb sb st w hst.rd) ?_
 ·simp only[lM]
  simp (disch:=(try simp only[sP]);omega) only[eV,hst.p7]
 rintro v1 w1 ⟨rfl,hr1,hE1,_⟩
 refine rA (dn ?_)
 have hNlt:=zx st
 have hres:zX ck st=qI ck (qp st).1 [] (qp st).2:=rfl
 rw[hres] at kn kr
 generalize hN:(qp st).1=N at *
 generalize hst1:(qp st).2=st1 at *
 generalize hA1:Act.put _ (some n) _=A1
 have hf1:Fr (KR L n t) a A1:=by
  subst hA1
  exact (((Fr.refl _ a).put _ (hkt _ zH)).put _ (hkt _ zH)).put _ (hs.kn n (Nat.le_refl _) zH)
 have k1n:A1.eval (.tmp n)=.int .u32 ((N-0:Nat):Int):=by subst hA1;simp (disch:=(try simp only[sP]);omega) only[eV];rfl
 clear hA1
 have hz1:=hE1.size
 refine vS (qk (zU (fun A W=>∃ i v tg,i<=N/\Fr (KR L n t) a A/\A.eval (.tmp n)=.int .u32 ((N-i:Nat):Int)/\KInv P E T x ver true rb sb pb po off B ev kts ck st1 w i v tg A W) (fun A _=>(intOf (A.eval (.tmp n))).toNat) ?_ ?_))
 ·refine ⟨0,.map none,[],Nat.zero_le _,hf1,k1n,⟨hst.step hs hf1 hr1 hE1,hE1.cellSome hc (by rintro ⟨e,_⟩;exact h1 e),hf.eff hE1,htag0.eff hE1 zH hst.rd.ne zH,by simp,fun _=>rfl,⟨_,(hys _).eff hE1 h1 hslt hst.rd.ne zH⟩,hE1.mono (fun k i _ h=>.inl h)⟩⟩
 ·rintro A W ⟨i,v,tg,hi,hfA,hcnt,hI⟩
  have hzA:=hfA.size
  refine vS (vX (rM ?_))
  refine jq (k:=.u32) (m:=((N-i:Nat):Int)) (n:=0) zA rfl ?_
  refine dn ?_
  generalize hA2:Act.put _ (some (t+3)) _=A2
  have hs1:RSl x L (n+1) t true:=hs.up zH zH (Nat.le_refl _)
  have hf2:Fr (KR L (n+1) t) A A2:=by
   subst hA2
   exact ((Fr.refl _ A).put _ (hs1.kt _ zH)).put _ (hs1.kt _ zH)
  have hc2:A2.eval (.tmp (t+3))=.bool (decide (((N-i:Nat):Int)>0)):=by subst hA2;exact zE
  clear hA2
  have hz2:=hf2.size
  have hI2:KInv P E T x ver true rb sb pb po off B ev kts ck st1 w i v tg A2 W:=⟨hI.st.fr hs1 hf2,hI.cell,hI.free,hI.tag,hI.low,hI.eq,hI.ys,hI.eff⟩
  have hcnt2:A2.eval (.tmp n)=.int .u32 ((N-i:Nat):Int):=by rw[hf2.slot _ (.inl zH)];exact hcnt
  refine vS (vC hc2 ?_ ?_)
  ·intro hgt
   have hiN:i<N:=by
    have:((N-i:Nat):Int)>0:=by simpa using hgt
    omega
   refine vK (vN ?_)
   refine vS (qk ?_)
   refine m_tagStep H HK hKt hfo hs hn (by rw[hz2,hzA];exact ht) (by rw[hf2.slot _ (.inl zH),hfA.slot _ (.inl hsn)];exact hp) hsn h1 h2 h3 hB hrB hBw rfl hslt (qi hst.err) hI2 hiN ?_ ?_
   ·intro A3 W3 v3 tg3 hf3 hI3
    have hz3:=hf3.size
    have hcnt3:A3.eval (.tmp n)=.int .u32 ((N-i:Nat):Int):=by rw[hf3.slot _ (.inl zH)];exact hcnt2
    show vc P (sq [rg _]) _ A3 W3
    refine vX (rM ?_)
    refine yX (k:=.u32) (m:=((N-i:Nat):Int)) (n:=1) zA rfl ?_
    rw[wrapu32 zH zH]
    refine rA (dn (vN ?_))
    generalize hA4:Act.put _ (some n) _=A4
    have hf4:Fr (KR L n t) A3 A4:=by
     subst hA4
     exact (((Fr.refl _ A3).put _ (hkt _ zH)).put _ (hkt _ zH)).put _ (hs.kn n (Nat.le_refl _) zH)
    have e4:A4.eval (.tmp n)=.int .u32 (((N-i:Nat):Int)-1):=by subst hA4;exact zE
    have e1:((N-i:Nat):Int)-1=((N-(i+1):Nat):Int):=by omega
    rw[e1] at e4
    refine ⟨⟨i+1,v3,tg3,hiN,((hfA.trans (hf2.mono (KR.mono zH (Nat.le_refl _)))).trans (hf3.mono (KR.mono zH (Nat.le_refl _)))).trans hf4,e4,⟨hI3.st.fr hs hf4,hI3.cell,hI3.free,hI3.tag,hI3.low,hI3.eq,hI3.ys,hI3.eff⟩⟩,?_⟩
    show (intOf _).toNat<(intOf _).toNat
    rw[e4,hcnt]
    simp only[intOf,Int.toNat_natCast]
    omega
   ·intro A3 W3 g1 g2 g3 g4 g5
    exact kr A3 W3 (by rw[g1,hf2.defers,hfA.defers]) (by rw[g2,hz2,hzA]) g3 g4 g5
  ·intro hle
   have hiN:i=N:=by
    have:¬ (((N-i:Nat):Int)>0):=by simpa using hle
    omega
   subst hiN
   refine xp ?_
   simp only[Exit.then,Exit.inBlock,if_true]
   obtain ⟨Fs,hysF⟩:=hI2.ys
   exact vN (vN (vN (kn A2 W v tg (hfA.trans (hf2.mono (KR.mono zH (Nat.le_refl _)))) hI2.st hI2.cell hI2.tag hI2.low hI2.eq (hysF.ys hBw) hI2.eff)))
def Flds.RValK (P:Program) (E:Env) (T:List (Nat × List UInt8)->Prop) (fs:Flds):Prop :=
 ∀ (x:Cx) (ver:Nat) (fx:Bool) (L:Nat) (TP TU:TypeId) (s idx off n t b rb sb pb po B:Nat) (ev:Value) (a:Act) (w:World) (st:RSt) (Q:Exit->Act->World->Prop) (kts:List KY) (ck:Nat->List UInt8->Bool),
  Flds.okR P E x TU idx off kts.length fs=true->fs.txR P E->RSl x L n t fx->n+Flds.rn (kts.map (·.krd.casN)) fs<=L->t+Flds.rt x (kts.map fun y=>2+y.krd.casT) fs<=a.tmps.size->RSta E x ver fx rb sb ev a w st->KtOK P E T x ver fx L s kts ck off pb po w →
  a.eval (.tmp s)=.pointer (some ⟨pb,po,none⟩)->s<n->qb w pb (po+off) fs.dz->(∀ i,i<fs.size->qr w pb (po+off+i))->pb≠rb->pb≠sb->pb≠E.vErr->pb<B->rb<B->B<=w.heap.size →
  (∀ a' w' cs ds tg,Fr (KR L n t) a a'->RSta E x ver fx rb sb ev a' w' (fs.rd fx ver ck st).2.2->cs.length=fs.size->qb w' pb (po+off) cs->fs.Rep w' ⟨sb,T⟩ B cs ds tg->(∀ z ∈ tg,kts.length<=z.1) →
   KYs fx ver w' pb po B ⟨sb,T⟩ kts ((fs.rd fx ver ck st).2.2.2=false) (fs.rd fx ver ck st).2.1->Eff (FK rb pb po off fs.size kts) w w' →
   ((fs.rd fx ver ck st).2.2.2=false->ds=(fs.rd fx ver ck st).1/\tg=(fs.rd fx ver ck st).2.1.filter (fun x=>decide (kts.length<=x.1)))->Q .normal a' w') →
  (∀ a' w',a'.defers=a.defers->a'.tmps.size=a.tmps.size->a'.eval (.tmp 6)=ev->Eff (FK rb pb po off fs.size kts) w w'->(fs.rd fx ver ck st).2.2.2=true->Q .ret a' w') →
  vc P (sq (Flds.rc E x TP TU s idx (kts.map (·.krd)) n t b fs)) Q a w
theorem FK_nil {pb po:Nat} (m:Nat) (k i:Nat) (_:k<m) (h:FK rb pb po off n [] k i):FM rb pb (po+off) n k i:=by
 rcases h with h | ⟨e,h | ⟨y,hy,_⟩⟩
 ·exact .inl h
 ·exact .inr ⟨e,h⟩
 ·simp at hy
theorem Flds.RValK.plain {fs:Flds} (h:fs.RValK P E T):fs.RVal P E T:=by
 intro x ver fx L TP TU s idx off n t b rb sb pb po B ev a w st Q hok htx hs hn ht hst hp hsn hc hf h1 h2 h3 hB hrB hBw kn kr
 refine h x ver fx L TP TU s idx off n t b rb sb pb po B ev a w st Q [] noK hok htx hs hn ht hst ⟨by simp,rfl,by simp,fun _ _ _=>rfl,by simp,List.Pairwise.nil,by simp,by simp⟩ hp hsn hc hf h1 h2 h3 hB hrB hBw ?_ ?_
 ·intro a' w' cs ds tg g1 g2 g3 g4 g5 g6 g7 g8 g9
  refine kn a' w' cs ds tg g1 g2 g3 g4 g5 (g8.mono (FK_nil _)) (fun hh=>⟨(g9 hh).1,?_⟩)
  rw[(g9 hh).2]
  exact List.filter_eq_self.2 zS
 ·intro a' w' g1 g2 g3 g4 g5
  exact kr a' w' g1 g2 g3 (g4.mono (FK_nil _)) g5
theorem fv_nil (H:EnvR P E T) (HK:E.rTags≠0->EnvRK P E T) (hT:T []) (b0:Bool):(Flds.nil b0).RValK P E T:=by
 intro x ver fx L TP TU s idx off n t b rb sb pb po B ev a w st Q kts ck hok htx hs hn ht hst hKt hp hsn hc hf h1 h2 h3 hB hrB hBw kn kr
 have hnL:=hs.nL;have hLt:=hs.Lt;have h7:=hs.seven;have hrd:=hs.rd
 have hkt:=hs.kt
 have hdz:KYs fx ver w pb po B ⟨sb,T⟩ kts True []:=fun y hy=>⟨y.ty.dz,y.ty.dflt,Ty.dz_len _,hKt.dz y hy,((hKt.ok y hy).2.2.1 w _ B).rep.1,fun _=>rfl⟩
 -- no tags are read
 have same:fx=false->∀ a1,Fr (KR L n t) a a1->Q .normal a1 w:=by
  intro h a1 hfr
  subst h
  refine kn a1 w (Flds.dz (.nil b0)) [] [] hfr (hst.fr hs hfr) (Flds.dz_len _) hc (Flds.dz_rep hT (.nil b0) B rfl) zS ?_ (Eff.refl _ _) (fun _=>⟨?_,?_⟩)
  ·intro y hy
   obtain ⟨c,d,k1,k2,k3,k4⟩:=hdz y hy
   exact ⟨c,d,k1,k2,k3,fun _=>k4 trivial⟩
  ·simp[Flds.rd]
  ·simp[Flds.rd]
 cases hx:x.fl with
 | none =>
  have:sq (Flds.rc E x TP TU s idx (kts.map (·.krd)) n t b (.nil b0))=sq []:=by
   simp only[Flds.rc,rTagsC,rTagsK,hx,ite_self]
  rw[this]
  exact vN (same (hs.no hx) a (Fr.refl _ _))
 | some fl =>
 simp only[Flds.okR,hx,Option.isNone_some,Bool.false_or,Bool.and_eq_true,beq_iff_eq,bne_iff_ne] at hok
 obtain ⟨⟨⟨htg,hfo⟩,hrt⟩,hagg⟩:=hok
 subst htg
 have HK:=HK hrt
 have hfl:=hs.fl fl hx
 cases kts with
 | cons y0 kts0 =>
  simp only[Flds.rc,List.map_cons,List.isEmpty_cons,Bool.false_eq_true,if_false]
  simp only[Flds.rn,List.map_cons,List.isEmpty_cons,Bool.false_eq_true,if_false] at hn
  simp only[Flds.rt,hx,List.map_cons,List.isEmpty_cons,Bool.false_eq_true,if_false] at ht
  have hc0:w.cell? ⟨pb,po+off,none⟩=some (.map none):=hc 0 _ (by simp[Flds.dz])
  have hf0:qr w pb (po+off):=by simpa using hf 0 (by simp[Flds.size])
  refine m_tagsK H HK (kts:=y0::kts0) hKt hx hfo hs hn ht hst hp hsn hc0 hf0 h1 h2 h3 hB hrB hBw ?_ ?_
  ·intro a' w' v tg g1 g2 g3 g4 g5 g6 g7 g8
   have hsz:=g8.size
   have hslt:=hst.rd.lt
   refine kn a' w' [v] [] tg g1 ?_ (by simp[Flds.size]) ?_ ?_ g5 ?_ g8 ?_
   ·cases fx<;>simpa [Flds.rd] using g2
   ·intro j u hu
    cases j with
    | zero=>simp only[List.getElem?_cons_zero,Option.some.injEq] at hu;subst hu;exact g3
    | succ j=>simp at hu
   ·simp only[Flds.Rep,if_true]
    exact ⟨v,rfl,g4.repT zH (HK.all _) hBw⟩
   ·cases fx<;>simpa [Flds.rd] using g7
   ·intro h
    cases fx with
    | true =>
     simp only[Flds.rd,if_true] at h g6 ⊢
     exact ⟨trivial,g6 h⟩
    | false =>
     simp only[Flds.rd,Bool.false_eq_true,if_false] at h g6 ⊢
     exact ⟨trivial,g6 h⟩
  ·intro a' w' g1 g2 g3 g4 g5
   refine kr a' w' g1 g2 g3 g4 ?_
   cases fx<;>simpa [Flds.rd] using g5
 | nil =>
  have hck:ck=noK:=funext fun j=>funext fun p=>hKt.ck0 j (Nat.zero_le _) p
  subst hck
  simp only[Flds.rc,List.map_nil,List.isEmpty_nil,if_true]
  simp only[Flds.rt,hx,List.map_nil,List.isEmpty_nil,if_true] at ht
  refine m_rtags H hx hs zH hst hrt hagg hfo hp hsn (by simpa using hf 0 (by simp[Flds.size])) h1 h2 h3 (fun h a' hf'=>same h a' hf') ?_
  intro h a2 w2 u tags g1 g2 g3 g4 g5 _ g6 g7
  subst h
  simp only[Flds.rd,if_true,rdTagsK_no] at kn kr
  refine kn a2 w2 [u] [] tags g1 g2 (by simp[Flds.size]) ?_ ?_ zS (by intro y hy;simp at hy) (g6.mono ?_) ?_
  ·intro j v hv
   cases j with
   | zero=>simp only[List.getElem?_cons_zero,Option.some.injEq] at hv;subst hv;exact g3
   | succ j=>simp at hv
  ·simp only[Flds.Rep,if_true]
   exact ⟨u,rfl,g5 B hBw hB⟩
  ·rintro k i _ (h | ⟨e1,e2⟩)
   ·exact .inl h
   ·exact .inr ⟨e1,.inl ⟨by omega,by simp only[Flds.size,if_true];omega⟩⟩
  ·intro h
   refine ⟨rfl,?_⟩
   rw[g7 h]
   exact (List.filter_eq_self.2 zS).symm
end
end Go.Km
