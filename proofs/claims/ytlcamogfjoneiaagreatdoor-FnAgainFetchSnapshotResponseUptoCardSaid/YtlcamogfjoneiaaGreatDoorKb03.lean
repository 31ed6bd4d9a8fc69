/- Over any program: what the functions of kmsg, kbin and the spec compute. -/
import Derived.Test.YtlcamogfjoneiaaGreatDoorKb00
import Derived.Test.YtlcamogfjoneiaaGreatDoorKb02
import Derived.Lib.BufferRead
import Derived.Laws.IdiomStrings
set_option maxHeartbeats 4000000
set_option linter.unusedSimpArgs false
set_option linter.unusedVariables false
namespace Go.Km
open Go Go.RowKit
variable {B L b cap k n o off rb s sb t ver:Nat} {E:Env} {F:FuncId} {M:Nat->Nat->Prop} {P:Program} {Q:Exit->Act->World->Prop} {S:Value->World->Prop} {T:List (Nat × List UInt8) ->Prop} {W w w':World} {a:Act} {ad:Option Addr} {ck:Nat->List UInt8->Bool} {cs xs:List Value} {ev v:Value} {fx:Bool} {l:List UInt8} {r:List Oper} {x:Cx}
section
attribute [local irreducible] vc rO_ qz qP qJ
abbrev RSt:=List UInt8 × Bool
def beN (l:List UInt8):Nat:=l.foldl (fun n b=>n*256+b.toNat) 0
def rdN (k:Nat) (st:RSt):Nat × RSt:=if st.1.length<k then (0,[],true) else (beN (st.1.take k),st.1.drop k,st.2)
def je (W:World) (sb:Nat) (v:Value) (l:List UInt8):Prop :=
 (v=.slice none 0 0/\l=[])\/∃ o cap,v=.slice (some ⟨sb,o,none⟩) l.length cap/\l.length<=cap/\qb W sb o (l.map bv)
structure RdS (W:World) (rb sb:Nat) (st:RSt):Prop where
 ne:rb≠sb
 lt:sb<W.heap.size
 cells:∃ v,qb W rb 0 [v,.bool st.2]/\je W sb v st.1
 f0:qr W rb 0
 f1:qr W rb 1
 len:st.1.length<=big
abbrev RM (rb:Nat):Nat->Nat->Prop:=fun k i=>k=rb/\i<2
theorem je.one (h:je W sb v l):v.oneCell'=true:=by
 rcases h with ⟨rfl,_⟩ | ⟨o,cap,rfl,_⟩<;>rfl
theorem je.form (h:je W sb v l):∃ ad cap,v=.slice ad l.length cap/\l.length<=cap:=by
 rcases h with ⟨rfl,rfl⟩ | ⟨o,cap,rfl,h,_⟩<;>exact ⟨_,_,rfl,by first | exact Nat.le_refl _ | exact h⟩
theorem je.heap {W W':World} {sb:Nat} {v:Value} {l:List UInt8} (h:je W sb v l) (hk:W'.heap[sb]? = W.heap[sb]?):je W' sb v l:=by
 rcases h with h | ⟨o,cap,h1,h2,h3⟩
 ·exact .inl h
 ·refine .inr ⟨o,cap,h1,h2,fun i u hu=>?_⟩
  have:=h3 i u hu
  simp only[World.cell?] at this ⊢
  rw[hk]
  exact this
theorem je.skip (h:je W sb v l) (hv:v=.slice ad l.length cap) (hn:n<=l.length):
  je W sb (.slice (if cap=n then ad else ad.map (·.add (n*1))) (l.length-n) (cap-n)) (l.drop n):=by
 rcases h with ⟨h1,h2⟩ | ⟨o,c,h1,h2,h3⟩
 ·subst h2
  rw[h1] at hv
  simp only[Value.slice.injEq,List.length_nil] at hv
  obtain ⟨rfl,_,rfl⟩:=hv
  have:n=0:=by simpa using hn
  subst this
  exact .inl ⟨by simp,by simp⟩
 ·rw[h1] at hv
  simp only[Value.slice.injEq,true_and] at hv
  obtain ⟨rfl,rfl⟩:=hv
  by_cases he:c=n
  ·subst he
   have hl:l.length=c:=by omega
   rw[if_pos rfl]
   refine .inr ⟨o,0,by rw[List.length_drop,Nat.sub_self],by rw[List.length_drop];omega,fun i u hu=>?_⟩
   rw[List.drop_eq_nil_of_le zH] at hu
   simp at hu
  ·rw[if_neg he]
   refine .inr ⟨o+n,c-n,?_,by rw[List.length_drop];omega,?_⟩
   ·rw[List.length_drop,Nat.mul_one]
    simp[Addr.add_lit]
   ·intro i u hu
    rw[List.map_drop,List.getElem?_drop] at hu
    have:=h3 _ u hu
    rwa [show o+(n+i)=o+n+i by omega] at this
theorem RdS.below {W W':World} {rb sb:Nat} {st:RSt} {B:Nat} (h:RdS W rb sb st) (hb:Below B W W') (h1:rb<B) (h2:sb<B):RdS W' rb sb st:=by
 obtain ⟨v,h3,h4⟩:=h.cells
 have hk:W'.heap[sb]? = W.heap[sb]?:=hb.block sb h2
 exact ⟨h.ne,Nat.lt_of_lt_of_le h.lt hb.size,⟨v,h3.below hb h1,h4.heap hk⟩,⟨by rw[hb.cell (p:=⟨rb,0,none⟩) h1];exact h.f0.1,by rw[hb.frozen (p:=⟨rb,0,none⟩) h1];exact h.f0.2⟩,
  ⟨by rw[hb.cell (p:=⟨rb,1,none⟩) h1];exact h.f1.1,by rw[hb.frozen (p:=⟨rb,1,none⟩) h1];exact h.f1.2⟩,h.len⟩
theorem RdS.rb_lt {st:RSt} (h:RdS W rb sb st):rb<W.heap.size:=h.f0.lt
theorem RdS.set {st:RSt} (h:RdS W rb sb st) (hv:je W sb v l) (hl:l.length<=big):RdS (W.setCell ⟨rb,0,none⟩ v) rb sb (l,st.2)/\Eff (RM rb) W (W.setCell ⟨rb,0,none⟩ v):=by
 have hE:Eff (fun k i=>k=rb/\i=0) W (W.setCell ⟨rb,0,none⟩ v):=(Eff.refl _ W).setCell _ _ _ (fun _=>⟨rfl,rfl⟩)
 obtain ⟨v0,h3,h4⟩:=h.cells
 refine ⟨⟨h.ne,Nat.lt_of_lt_of_le h.lt hE.size,⟨v,?_,hv.heap (Below.heap_setCell W _ _ sb (Ne.symm h.ne))⟩,h.f0.eff hE,h.f1.eff hE,hl⟩,hE.mono (fun k i _ h=>⟨h.1,by omega⟩)⟩
 intro i u hu
 match i,hu with
 | 0,hu =>
  simp only[List.getElem?_cons_zero,Option.some.injEq] at hu
  subst hu
  exact qo v h.f0.1
 | 1,hu =>
  rw[xP _ (.inr zH)]
  exact h3 1 u hu
theorem RdS.fail {st:RSt} (h:RdS W rb sb st):RdS ((W.setCell ⟨rb,1,none⟩ (.bool true)).setCell ⟨rb,0,none⟩ (.slice none 0 0)) rb sb ([],true)/\Eff (RM rb) W ((W.setCell ⟨rb,1,none⟩ (.bool true)).setCell ⟨rb,0,none⟩ (.slice none 0 0)):=by
 have hE:Eff (fun k i=>k=rb/\i=1) W (W.setCell ⟨rb,1,none⟩ (.bool true)):=(Eff.refl _ W).setCell _ _ _ (fun _=>⟨rfl,rfl⟩)
 obtain ⟨v0,h3,h4⟩:=h.cells
 have h1:RdS (W.setCell ⟨rb,1,none⟩ (.bool true)) rb sb (st.1,true):=by
  refine ⟨h.ne,Nat.lt_of_lt_of_le h.lt hE.size,⟨v0,?_,h4.heap (Below.heap_setCell W _ _ sb (Ne.symm h.ne))⟩,h.f0.eff hE,h.f1.eff hE,h.len⟩
  intro i u hu
  match i,hu with
  | 0,hu =>
   rw[xP _ (.inr zH)]
   exact h3 0 u hu
  | 1,hu =>
   simp only[List.getElem?_cons_succ,List.getElem?_cons_zero,Option.some.injEq] at hu
   subst hu
   exact qo _ h.f1.1
 have h2:=h1.set (v:=.slice none 0 0) (l:=[]) (.inl ⟨rfl,rfl⟩) (Nat.zero_le _)
 exact ⟨h2.1,(hE.mono (fun k i _ h=>⟨h.1,by omega⟩)).trans h2.2⟩
def NN (W:World) (rb:Nat):Prop:=∃ a n c y,qb W rb 0 [.slice (some a) n c,y]
theorem NN.below {W W':World} {rb B:Nat} (h:NN W rb) (hb:Below B W W') (h1:rb<B):NN W' rb:=by
 obtain ⟨a,n,c,y,h⟩:=h
 exact ⟨a,n,c,y,h.below hb h1⟩
theorem RdS.set_nn {st:RSt} (h:RdS W rb sb st) {l:List UInt8} (hs:je W sb v st.1) (hc:qb W rb 0 [v,.bool st.2]) (hv:v=.slice ad st.1.length cap) (hn:n<=st.1.length) (hp:0<n\/NN W rb) {m:Nat}:
  NN (W.setCell ⟨rb,0,none⟩ (.slice (if cap=n then ad else ad.map (·.add (n*1))) k m)) rb:=by
 have hsome:∃ a,ad=some a:=by
  rcases hp with hp | ⟨a,n',c,y,hc'⟩
  ·rcases hs with ⟨_,h0⟩ | ⟨o,c,h1,_⟩
   ·rw[h0] at hn;simp at hn;omega
   ·rw[h1] at hv
    simp only[Value.slice.injEq] at hv
    exact ⟨_,hv.1.symm⟩
  ·have e1:=hc 0 v rfl
   have e2:=hc' 0 _ rfl
   rw[e1] at e2
   simp only[Option.some.injEq] at e2
   rw[hv] at e2
   simp only[Value.slice.injEq] at e2
   exact ⟨_,e2.1⟩
 obtain ⟨a,rfl⟩:=hsome
 obtain ⟨b,hb⟩:∃ b,(if cap=n then some a else (some a).map (·.add (n*1)))=some b:=by
  split
  ·exact ⟨_,rfl⟩
  ·exact ⟨_,rfl⟩
 rw[hb]
 refine ⟨b,k,m,.bool st.2,?_⟩
 intro i u hu
 match i,hu with
 | 0,hu =>
  simp only[List.getElem?_cons_zero,Option.some.injEq] at hu
  subst hu
  exact qo _ h.f0.1
 | 1,hu =>
  rw[xP _ (.inr zH)]
  exact hc 1 u hu
structure REnv (P:Program) (E:Env):Prop where
 row:xo P E.tB E.tU8 1=true
 u8:qu P E.tU8=some .u8
 int:qu P E.tI=some .i64
 oBytes:qW P E.tB=true
 oBool:qW P E.tO=true
 oU8:qW P E.tU8=true
 f0:qh P E.tRd 0=some 0
 f1:qh P E.tRd 1=some 1
theorem gB (H:REnv P E) {X:Nat} {z:Operand} {zv:Value} {T:TypeId} {A:Act} {st:RSt} (ht:t+6<=A.tmps.size) (hX:X<A.tmps.size) (hX0:X≠0) (ht0:0<t) (hz:z=.const zv) (e0:A.eval (.tmp 0)=.pointer (some ⟨rb,0,none⟩)) (hr:RdS W rb sb st) (h:∀ A' W',A'.defers=A.defers->A'.eval (.tmp X)=zv->RdS W' rb sb ([],true)->Eff (RM rb) W W'->Q .ret A' W'):
  vc P (sq [(rg [(qM t 0 E.tPRd),(oQ (t+1) (.nilCheck (.tmp t)) 0),(oQ (t+2) (.fieldAddr E.tRd (.tmp (t+1)) 1) 0),⟨none,.store E.tO (.tmp (t+2)) (.const (.bool true)),0,"",#[],none⟩]),
   (rg [(qM (t+3) 0 E.tPRd),(oQ (t+4) (.nilCheck (.tmp (t+3))) 0),(oQ (t+5) (.fieldAddr E.tRd (.tmp (t+4)) 0) 0),⟨none,.store E.tB (.tmp (t+5)) (.const (.slice none 0 0)),0,"",#[],none⟩]),
   (rg [(oQ X (.assign z) T)]),.ret]) Q A W:=by
 have hf:=hr.fail
 refine vX (rM ?_)
 refine xe (ad:=⟨rb,0,none⟩) zA ?_
 refine rF (b:=rb) (o:=0) zE H.f1 ?_
 refine xC (b:=rb) (o:=0+1) (v:=.bool true) zE rfl rfl H.oBool (by simpa using hr.f1) ?_
 refine dn (vX (rM ?_))
 refine xe (ad:=⟨rb,0,none⟩) zA ?_
 refine rF (b:=rb) (o:=0) zE H.f0 ?_
 have hE:Eff (fun k i=>k=rb/\i=1) W (W.setCell ⟨rb,0+1,none⟩ (.bool true)):=(Eff.refl _ W).setCell _ _ _ (fun _=>⟨rfl,rfl⟩)
 refine xC (b:=rb) (o:=0+0) (v:=.slice none 0 0) zE rfl rfl H.oBytes (by simpa using hr.f0.eff hE) ?_
 refine dn (vX (rA (dn (vS (vT ?_)))))
 subst hz
 exact h _ _ (by simp only[dF]) zE hf.1 hf.2
theorem r_srcLen (H:REnv P E) {A:Act} {st:RSt} (ht:t+5<=A.tmps.size) (ht0:0<t) (e0:A.eval (.tmp 0)=.pointer (some ⟨rb,0,none⟩)) (hr:RdS W rb sb st) (h:∀ A',A'.tmps.size=A.tmps.size->A'.defers=A.defers->(∀ k:Nat,k<t->A'.eval (.tmp k)=A.eval (.tmp k))->A'.eval (.tmp (t+4))=.int .i64 (st.1.length:Int)->rO_ P Q r A' W):
  rO_ P Q ((qM t 0 E.tPRd)::(oQ (t+1) (.nilCheck (.tmp t)) 0)::(oQ (t+2) (.fieldAddr E.tRd (.tmp (t+1)) 0) 0)::(oQ (t+3) (.load E.tB (.tmp (t+2))) E.tB) ::
   (oQ (t+4) (.call { callee:=.builtin .len,args:=#[(.tmp (t+3))],argTypes:=#[E.tB] }) E.tI)::r) A W:=by
 obtain ⟨v,hc,hs⟩:=hr.cells
 obtain ⟨ad,cap,hv,_⟩:=hs.form
 refine rM ?_
 refine xe (ad:=⟨rb,0,none⟩) zA ?_
 refine rF (b:=rb) (o:=0) zE H.f0 ?_
 refine rL (b:=rb) (o:=0+0) (v:=v) zE H.oBytes (hc 0 v rfl) ?_
 refine xh (ad:=ad) (n:=st.1.length) (c:=cap) (rB H.row) zA ?_
 exact h _ (by simp only[zP]) (by simp only[dF]) (fun k hk=>zE) zE
theorem vZ (H:REnv P E) {A:Act} {st:RSt} (ht:t+8<=A.tmps.size) (ht0:0<t) (hn:n<=st.1.length) (e0:A.eval (.tmp 0)=.pointer (some ⟨rb,0,none⟩)) (hr:RdS W rb sb st) (h:∀ A' W',A'.tmps.size=A.tmps.size->A'.defers=A.defers->(∀ k:Nat,k<t->A'.eval (.tmp k)=A.eval (.tmp k))->RdS W' rb sb (st.1.drop n,st.2)->Eff (RM rb) W W'->(0<n\/NN W rb->NN W' rb)->rO_ P Q r A' W'):
  rO_ P Q ((qM t 0 E.tPRd)::(qM (t+1) 0 E.tPRd)::(oQ (t+2) (.nilCheck (.tmp (t+1))) 0)::(oQ (t+3) (.fieldAddr E.tRd (.tmp (t+2)) 0) 0) ::
   (oQ (t+4) (.load E.tB (.tmp (t+3))) E.tB)::(oQ (t+5) (.slice E.tB (.tmp (t+4)) (some (.const (.int .i64 (n:Int)))) none none) E.tB)::(oQ (t+6) (.nilCheck (.tmp t)) 0) ::
   (oQ (t+7) (.fieldAddr E.tRd (.tmp (t+6)) 0) 0)::⟨none,.store E.tB (.tmp (t+7)) (.tmp (t+5)),0,"",#[],none⟩::r) A W:=by
 obtain ⟨v,hc,hs⟩:=hr.cells
 obtain ⟨ad,cap,hv,hcap⟩:=hs.form
 have hsk:=hs.skip hv hn
 have hset:=hr.set hsk (by rw[List.length_drop];have:=hr.len;omega)
 refine rM (rM ?_)
 refine xe (ad:=⟨rb,0,none⟩) zA ?_
 refine rF (b:=rb) (o:=0) zE H.f0 ?_
 refine rL (b:=rb) (o:=0+0) (v:=v) zE H.oBytes (hc 0 v rfl) ?_
 refine kC (ad:=ad) (len:=st.1.length) (cap:=cap) n st.1.length cap (rB H.row) zA ⟨.i64,rfl⟩ ⟨rfl,rfl⟩ rfl hn hcap (Nat.le_refl _) ?_
 refine xe (ad:=⟨rb,0,none⟩) zA ?_
 refine rF (b:=rb) (o:=0) zE H.f0 ?_
 refine xC (b:=rb) (o:=0+0) zE zE hsk.one H.oBytes (by simpa using hr.f0) ?_
 exact h _ _ (by simp only[zP]) (by simp only[dF]) (fun k hk=>zE) hset.1 hset.2 (fun hp=>hr.set_nn (l:=[]) hs hc hv hn hp)
theorem r_skipT (H:REnv P E) {x:Nat} {kk:IntKind} {A:Act} {st:RSt} (ht:t+9<=A.tmps.size) (ht0:0<t) (hx:x<t) (hn:n<=st.1.length) (hxv:A.eval (.tmp x)=.int kk (n:Int)) (e0:A.eval (.tmp 0)=.pointer (some ⟨rb,0,none⟩)) (hr:RdS W rb sb st) (h:∀ A' W',A'.tmps.size=A.tmps.size->A'.defers=A.defers->(∀ k:Nat,k<t->A'.eval (.tmp k)=A.eval (.tmp k))->RdS W' rb sb (st.1.drop n,st.2)->Eff (RM rb) W W'->(0<n\/NN W rb->NN W' rb)->rO_ P Q r A' W'):
  rO_ P Q ((qM t 0 E.tPRd)::(qM (t+1) 0 E.tPRd)::(oQ (t+2) (.nilCheck (.tmp (t+1))) 0)::(oQ (t+3) (.fieldAddr E.tRd (.tmp (t+2)) 0) 0) ::
   (oQ (t+4) (.load E.tB (.tmp (t+3))) E.tB)::(qM (t+5) x E.tI)::(oQ (t+6) (.slice E.tB (.tmp (t+4)) (some (.tmp (t+5))) none none) E.tB)::(oQ (t+7) (.nilCheck (.tmp t)) 0) ::
   (oQ (t+8) (.fieldAddr E.tRd (.tmp (t+7)) 0) 0)::⟨none,.store E.tB (.tmp (t+8)) (.tmp (t+6)),0,"",#[],none⟩::r) A W:=by
 obtain ⟨v,hc,hs⟩:=hr.cells
 obtain ⟨ad,cap,hv,hcap⟩:=hs.form
 have hsk:=hs.skip hv hn
 have hset:=hr.set hsk (by rw[List.length_drop];have:=hr.len;omega)
 refine rM (rM ?_)
 refine xe (ad:=⟨rb,0,none⟩) zA ?_
 refine rF (b:=rb) (o:=0) zE H.f0 ?_
 refine rL (b:=rb) (o:=0+0) (v:=v) zE H.oBytes (hc 0 v rfl) ?_
 refine rM ?_
 refine kC (ad:=ad) (len:=st.1.length) (cap:=cap) n st.1.length cap (rB H.row) zA ⟨kk,zA⟩ ⟨rfl,rfl⟩ rfl hn hcap (Nat.le_refl _) ?_
 refine xe (ad:=⟨rb,0,none⟩) zA ?_
 refine rF (b:=rb) (o:=0) zE H.f0 ?_
 refine xC (b:=rb) (o:=0+0) zE zE hsk.one H.oBytes (by simpa using hr.f0) ?_
 exact h _ _ (by simp only[zP]) (by simp only[dF]) (fun k hk=>zE) hset.1 hset.2 (fun hp=>hr.set_nn (l:=[]) hs hc hv hn hp)
theorem jj (s:Nat) {m K:Nat} (hK:2 ^ s=K) (hm:m<K):m ||| (b*K)=m+b*K:=by
 subst hK
 rw[← Nat.shiftLeft_eq,Nat.or_comm,← Nat.shiftLeft_add_eq_or_of_lt hm,Nat.add_comm]
def unsK (k:IntKind) (K:Nat):Bool:=(k==.u16&&K==65536)||(k==.u32&&K==4294967296)||(k==.u64&&K==18446744073709551616)
theorem unsK_wrap {k:IntKind} {K:Nat} (h:unsK k K=true) (hn:n<K):k.wrap (n:Int)=(n:Int):=by
 simp only[unsK,Bool.or_eq_true,Bool.and_eq_true,beq_iff_eq] at h
 rcases h with (⟨rfl,rfl⟩ | ⟨rfl,rfl⟩) | ⟨rfl,rfl⟩
 ·have:IntKind.u16.wrap (n:Int)=(n:Int) % 65536:=by simp[IntKind.wrap,IntKind.bits,IntKind.signed]
  rw[this];omega
 ·rw[kc];omega
 ·rw[jo];omega
theorem zy {d s t x ty p af g k' K} (hs:qu P s=some .u8) (ht:qu P t=some k') (hK:unsK k' K=true) (hx:a.eval x=.int .u8 (n:Int)) (hn:n<2 ^ 8) (h:rO_ P Q r (a.put (some d) (.int k' (n:Int))) w):
  rO_ P Q (⟨some d,.convert s t x,ty,p,af,g⟩::r) a w:=by
 refine qY hs ht hx ?_
 have:n<K:=by
  simp only[unsK,Bool.or_eq_true,Bool.and_eq_true,beq_iff_eq] at hK
  rcases hK with (⟨_,rfl⟩ | ⟨_,rfl⟩) | ⟨_,rfl⟩<;>omega
 rw[unsK_wrap hK this]
 exact h
theorem kl {d xt x y yt ty p af g k K} {c mm:Nat} (hK:unsK k K=true) (hx:a.eval x=.int k (n:Int)) (hy:y=.const (.int .u64 (c:Int))) (hm:2 ^ (min c k.bits)=mm) (hb:n*mm<K) (h:rO_ P Q r (a.put (some d) (.int k ((n*mm:Nat):Int))) w):
  rO_ P Q (⟨some d,.binOp .shl xt x y yt,ty,p,af,g⟩::r) a w:=by
 subst hy
 refine r_shl hx rfl zS ?_
 have:(n:Int)*2 ^ (min ((c:Int).toNat) k.bits)=((n*mm:Nat):Int):=by
  rw[Int.toNat_natCast,← hm]
  push_cast
  rfl
 rw[this,unsK_wrap hK hb]
 exact h
theorem yn {d xt x y yt ty p af g k K} {m v:Nat} (hK:unsK k K=true) (hx:a.eval x=.int k (m:Int)) (hy:a.eval y=.int k (n:Int)) (he:m ||| n=v) (hm:m<K) (hn:n<K) (h:rO_ P Q r (a.put (some d) (.int k (v:Int))) w):
  rO_ P Q (⟨some d,.binOp .or xt x y yt,ty,p,af,g⟩::r) a w:=by
 refine vu (v:=.int k (v:Int)) hx hy zS ?_ h
 subst he
 simp only[unsK,Bool.or_eq_true,Bool.and_eq_true,beq_iff_eq] at hK
 rcases hK with (⟨rfl,rfl⟩ | ⟨rfl,rfl⟩) | ⟨rfl,rfl⟩
 ·show (pure (Value.int .u16 (bits .or .u16 (m:Int) (n:Int))):Sem Value)=_
  rw[u16_or_nat m n hm hn]
 ·show (pure (Value.int .u32 (bits .or .u32 (m:Int) (n:Int))):Sem Value)=_
  rw[u32_or_nat m n hm hn]
 ·show (pure (Value.int .u64 (bits .or .u64 (m:Int) (n:Int))):Sem Value)=_
  rw[u64_or_nat m n hm hn]
theorem be_u16 (H:REnv P E) (hu:qu P E.tU16=some .u16) (hm:P.follows .mixedOrders=true) (ht:Text P E.bU16 2 18 #[.tmp 4] (c_bU16 E)) {b0 b1:UInt8} (hl:(b0::b1::l).length<=cap) (hc:qb W sb o ((b0::b1::l).map bv)) (hsb:sb<W.heap.size):
  qa P E.bU16 #[.agg #[],.slice (some ⟨sb,o,none⟩) (b0::b1::l).length cap] W fun v w'=>v=.int .u16 ((beN [b0,b1]:Nat):Int)/\Below W.heap.size W w':=by
 refine qa.enter ht zS ?_
 intro a hsz hdf harg
 have e0:=harg 0 (.agg #[]) zS
 have e1:=harg 1 (.slice (some ⟨sb,o,none⟩) (b0::b1::l).length cap) zS
 have hsl:=rB H.row
 have hb0:=b0.toNat_lt
 have hb1:=b1.toNat_lt
 unfold c_bU16
 refine vX ?_
 refine xN (v:=.agg #[]) zA ?_
 refine rA (dn ?_)
 have hb:Below W.heap.size W (W.alloc (.cells (Value.agg #[]).cells E.tBE)):=(Below.refl W.heap.size W).alloc (o:=.cells _ _) (Nat.le_refl _)
 have hc1:qb (W.alloc (.cells (Value.agg #[]).cells E.tBE)) sb o ((b0::b1::l).map bv):=hc.below hb hsb
 generalize W.alloc (.cells (Value.agg #[]).cells E.tBE)=V at *
 refine vX (rM ?_)
 refine qH (k:=.i64) (j:=1) (b:=sb) (o:=o) (len:=(b0::b1::l).length) (cap:=cap) hsl zA rfl (by simp only[List.length_cons];omega) ?_
 refine rL (b:=sb) (o:=o+1*1) (v:=bv b1) zE H.oU8 (hc1 1 _ rfl) ?_
 refine dn ?_
 have hS:(fun W':World=>qb W' sb o ((b0::b1::l).map bv)) { V with drawn:=V.drawn+1 }:=hc1
 refine vS (xq [(0,true),(1,true),(2,true),(3,true),(4,true),(5,true),(6,true),(7,true),(8,true),(9,true),(10,true)] (fun W'=>qb W' sb o ((b0::b1::l).map bv)) hm (by kernel_rfl) rfl (by kernel_rfl) (fun _ _ _ _ h=>False.elim h) ?_)
 refine dP rfl rfl rfl (wN rfl) (by simp only[zP,hsz];decide) hS (fun w' hS'=>rM (dn ⟨rfl,rfl,rfl⟩)) ?_
 refine dP rfl rfl rfl (wN rfl) (by simp only[zP,hsz];decide) hS (fun w' hS'=>qH (k:=.i64) (j:=1) (b:=sb) (o:=o) (len:=(b0::b1::l).length) (cap:=cap) hsl zA rfl (by simp only[List.length_cons];omega) (dn ⟨rfl,rfl,rfl⟩)) ?_
 refine dP rfl rfl rfl (wN rfl) (by simp only[zP,hsz];decide) hS (fun w' hS'=>rL (b:=sb) (o:=o+1*1) (v:=bv b1) zM H.oU8 (hS' 1 _ rfl) (dn ⟨rfl,rfl,rfl⟩)) ?_
 refine dP rfl rfl rfl (wN rfl) (by simp only[zP,hsz];decide) hS (fun w' hS'=>zy (K:=65536) (n:=b1.toNat) H.u8 hu (by decide) zM hb1 (dn ⟨rfl,rfl,rfl⟩)) ?_
 refine dP rfl rfl rfl (wN rfl) (by simp only[zP,hsz];decide) hS (fun w' hS'=>rM (dn ⟨rfl,rfl,rfl⟩)) ?_
 refine dP rfl rfl rfl (wN rfl) (by simp only[zP,hsz];decide) hS (fun w' hS'=>qH (k:=.i64) (j:=0) (b:=sb) (o:=o) (len:=(b0::b1::l).length) (cap:=cap) hsl zA rfl (by simp only[List.length_cons];omega) (dn ⟨rfl,rfl,rfl⟩)) ?_
 refine dP rfl rfl rfl (wN rfl) (by simp only[zP,hsz];decide) hS (fun w' hS'=>rL (b:=sb) (o:=o+0*1) (v:=bv b0) zM H.oU8 (hS' 0 _ rfl) (dn ⟨rfl,rfl,rfl⟩)) ?_
 refine dP rfl rfl rfl (wN rfl) (by simp only[zP,hsz];decide) hS (fun w' hS'=>zy (K:=65536) (n:=b0.toNat) H.u8 hu (by decide) zM hb0 (dn ⟨rfl,rfl,rfl⟩)) ?_
 refine dP rfl rfl rfl (wN rfl) (by simp only[zP,hsz];decide) hS (fun w' hS'=>kl (k:=.u16) (n:=b0.toNat) (c:=8) (mm:=256) (K:=65536) (by decide) zE rfl (by decide) zH (dn ⟨rfl,rfl,rfl⟩)) ?_
 refine dP rfl rfl rfl (wN rfl) (by simp only[zP,hsz];decide) hS (fun w' hS'=>yn (k:=.u16) (m:=b1.toNat) (n:=b0.toNat*256) (v:=b1.toNat+b0.toNat*256) (K:=65536) (by decide) zE zE (jj 8 (by decide) zH) zH zH (dn ⟨rfl,rfl,rfl⟩)) ?_
 refine dP rfl rfl rfl (wN rfl) (by simp only[zP,hsz];decide) hS (fun w' hS'=>rA (dn ⟨rfl,rfl,rfl⟩)) ?_
 refine xI ?_
 refine vS (vT ?_)
 refine ⟨by simp only[dF];exact hdf,_,rO zM,?_,⟨hb.os,hb.tape,hb.output,hb.size,hb.block⟩⟩
 simp only[Value.int.injEq,true_and,beN,List.foldl]
 omega
theorem be_u32 (H:REnv P E) (hu:qu P E.tW=some .u32) (hm:P.follows .mixedOrders=true) (ht:Text P E.bU32 2 30 #[.tmp 4] (c_bU32 E)) {b0 b1 b2 b3:UInt8} (hl:(b0::b1::b2::b3::l).length<=cap) (hc:qb W sb o ((b0::b1::b2::b3::l).map bv)) (hsb:sb<W.heap.size):
  qa P E.bU32 #[.agg #[],.slice (some ⟨sb,o,none⟩) (b0::b1::b2::b3::l).length cap] W fun v w'=>v=.int .u32 ((beN [b0,b1,b2,b3]:Nat):Int)/\Below W.heap.size W w':=by
 refine qa.enter ht zS ?_
 intro a hsz hdf harg
 have e0:=harg 0 (.agg #[]) zS
 have e1:=harg 1 (.slice (some ⟨sb,o,none⟩) (b0::b1::b2::b3::l).length cap) zS
 have hsl:=rB H.row
 have hb0:=b0.toNat_lt
 have hb1:=b1.toNat_lt
 have hb2:=b2.toNat_lt
 have hb3:=b3.toNat_lt
 unfold c_bU32
 refine vX ?_
 refine xN (v:=.agg #[]) zA ?_
 refine rA (dn ?_)
 have hb:Below W.heap.size W (W.alloc (.cells (Value.agg #[]).cells E.tBE)):=(Below.refl W.heap.size W).alloc (o:=.cells _ _) (Nat.le_refl _)
 have hc1:qb (W.alloc (.cells (Value.agg #[]).cells E.tBE)) sb o ((b0::b1::b2::b3::l).map bv):=hc.below hb hsb
 generalize W.alloc (.cells (Value.agg #[]).cells E.tBE)=V at *
 refine vX (rM ?_)
 refine qH (k:=.i64) (j:=3) (b:=sb) (o:=o) (len:=(b0::b1::b2::b3::l).length) (cap:=cap) hsl zA rfl (by simp only[List.length_cons];omega) ?_
 refine rL (b:=sb) (o:=o+3*1) (v:=bv b3) zE H.oU8 (hc1 3 _ rfl) ?_
 refine dn ?_
 have hS:(fun W':World=>qb W' sb o ((b0::b1::b2::b3::l).map bv)) { V with drawn:=V.drawn+1 }:=hc1
 refine vS (xq [(0,true),(1,true),(2,true),(3,true),(4,true),(5,true),(6,true),(7,true),(8,true),(9,true),(10,true),(11,true),(12,true),(13,true),(14,true),(15,true),(16,true),(17,true),(18,true),(19,true),(20,true),(21,true),(22,true)] (fun W'=>qb W' sb o ((b0::b1::b2::b3::l).map bv)) hm (by kernel_rfl) rfl (by kernel_rfl) (fun _ _ _ _ h=>False.elim h) ?_)
 refine dP rfl rfl rfl (wN rfl) (by simp only[zP,hsz];decide) hS (fun w' hS'=>rM (dn ⟨rfl,rfl,rfl⟩)) ?_
 refine dP rfl rfl rfl (wN rfl) (by simp only[zP,hsz];decide) hS (fun w' hS'=>qH (k:=.i64) (j:=3) (b:=sb) (o:=o) (len:=(b0::b1::b2::b3::l).length) (cap:=cap) hsl zA rfl (by simp only[List.length_cons];omega) (dn ⟨rfl,rfl,rfl⟩)) ?_
 refine dP rfl rfl rfl (wN rfl) (by simp only[zP,hsz];decide) hS (fun w' hS'=>rL (b:=sb) (o:=o+3*1) (v:=bv b3) zM H.oU8 (hS' 3 _ rfl) (dn ⟨rfl,rfl,rfl⟩)) ?_
 refine dP rfl rfl rfl (wN rfl) (by simp only[zP,hsz];decide) hS (fun w' hS'=>zy (K:=4294967296) (n:=b3.toNat) H.u8 hu (by decide) zM hb3 (dn ⟨rfl,rfl,rfl⟩)) ?_
 refine dP rfl rfl rfl (wN rfl) (by simp only[zP,hsz];decide) hS (fun w' hS'=>rM (dn ⟨rfl,rfl,rfl⟩)) ?_
 refine dP rfl rfl rfl (wN rfl) (by simp only[zP,hsz];decide) hS (fun w' hS'=>qH (k:=.i64) (j:=2) (b:=sb) (o:=o) (len:=(b0::b1::b2::b3::l).length) (cap:=cap) hsl zA rfl (by simp only[List.length_cons];omega) (dn ⟨rfl,rfl,rfl⟩)) ?_
 refine dP rfl rfl rfl (wN rfl) (by simp only[zP,hsz];decide) hS (fun w' hS'=>rL (b:=sb) (o:=o+2*1) (v:=bv b2) zM H.oU8 (hS' 2 _ rfl) (dn ⟨rfl,rfl,rfl⟩)) ?_
 refine dP rfl rfl rfl (wN rfl) (by simp only[zP,hsz];decide) hS (fun w' hS'=>zy (K:=4294967296) (n:=b2.toNat) H.u8 hu (by decide) zM hb2 (dn ⟨rfl,rfl,rfl⟩)) ?_
 refine dP rfl rfl rfl (wN rfl) (by simp only[zP,hsz];decide) hS (fun w' hS'=>kl (k:=.u32) (n:=b2.toNat) (c:=8) (mm:=256) (K:=4294967296) (by decide) zE rfl (by decide) zH (dn ⟨rfl,rfl,rfl⟩)) ?_
 refine dP rfl rfl rfl (wN rfl) (by simp only[zP,hsz];decide) hS (fun w' hS'=>yn (k:=.u32) (m:=b3.toNat) (n:=b2.toNat*256) (v:=b3.toNat+b2.toNat*256) (K:=4294967296) (by decide) zE zE (jj 8 (by decide) zH) zH zH (dn ⟨rfl,rfl,rfl⟩)) ?_
 refine dP rfl rfl rfl (wN rfl) (by simp only[zP,hsz];decide) hS (fun w' hS'=>rM (dn ⟨rfl,rfl,rfl⟩)) ?_
 refine dP rfl rfl rfl (wN rfl) (by simp only[zP,hsz];decide) hS (fun w' hS'=>qH (k:=.i64) (j:=1) (b:=sb) (o:=o) (len:=(b0::b1::b2::b3::l).length) (cap:=cap) hsl zA rfl (by simp only[List.length_cons];omega) (dn ⟨rfl,rfl,rfl⟩)) ?_
 refine dP rfl rfl rfl (wN rfl) (by simp only[zP,hsz];decide) hS (fun w' hS'=>rL (b:=sb) (o:=o+1*1) (v:=bv b1) zM H.oU8 (hS' 1 _ rfl) (dn ⟨rfl,rfl,rfl⟩)) ?_
 refine dP rfl rfl rfl (wN rfl) (by simp only[zP,hsz];decide) hS (fun w' hS'=>zy (K:=4294967296) (n:=b1.toNat) H.u8 hu (by decide) zM hb1 (dn ⟨rfl,rfl,rfl⟩)) ?_
 refine dP rfl rfl rfl (wN rfl) (by simp only[zP,hsz];decide) hS (fun w' hS'=>kl (k:=.u32) (n:=b1.toNat) (c:=16) (mm:=65536) (K:=4294967296) (by decide) zE rfl (by decide) zH (dn ⟨rfl,rfl,rfl⟩)) ?_
 refine dP rfl rfl rfl (wN rfl) (by simp only[zP,hsz];decide) hS (fun w' hS'=>yn (k:=.u32) (m:=b3.toNat+b2.toNat*256) (n:=b1.toNat*65536) (v:=b3.toNat+b2.toNat*256+b1.toNat*65536) (K:=4294967296) (by decide) zE zE (jj 16 (by decide) zH) zH zH (dn ⟨rfl,rfl,rfl⟩)) ?_
 refine dP rfl rfl rfl (wN rfl) (by simp only[zP,hsz];decide) hS (fun w' hS'=>rM (dn ⟨rfl,rfl,rfl⟩)) ?_
 refine dP rfl rfl rfl (wN rfl) (by simp only[zP,hsz];decide) hS (fun w' hS'=>qH (k:=.i64) (j:=0) (b:=sb) (o:=o) (len:=(b0::b1::b2::b3::l).length) (cap:=cap) hsl zA rfl (by simp only[List.length_cons];omega) (dn ⟨rfl,rfl,rfl⟩)) ?_
 refine dP rfl rfl rfl (wN rfl) (by simp only[zP,hsz];decide) hS (fun w' hS'=>rL (b:=sb) (o:=o+0*1) (v:=bv b0) zM H.oU8 (hS' 0 _ rfl) (dn ⟨rfl,rfl,rfl⟩)) ?_
 refine dP rfl rfl rfl (wN rfl) (by simp only[zP,hsz];decide) hS (fun w' hS'=>zy (K:=4294967296) (n:=b0.toNat) H.u8 hu (by decide) zM hb0 (dn ⟨rfl,rfl,rfl⟩)) ?_
 refine dP rfl rfl rfl (wN rfl) (by simp only[zP,hsz];decide) hS (fun w' hS'=>kl (k:=.u32) (n:=b0.toNat) (c:=24) (mm:=16777216) (K:=4294967296) (by decide) zE rfl (by decide) zH (dn ⟨rfl,rfl,rfl⟩)) ?_
 refine dP rfl rfl rfl (wN rfl) (by simp only[zP,hsz];decide) hS (fun w' hS'=>yn (k:=.u32) (m:=b3.toNat+b2.toNat*256+b1.toNat*65536) (n:=b0.toNat*16777216) (v:=b3.toNat+b2.toNat*256+b1.toNat*65536+b0.toNat*16777216) (K:=4294967296) (by decide) zE zE (jj 24 (by decide) zH) zH zH (dn ⟨rfl,rfl,rfl⟩)) ?_
 refine dP rfl rfl rfl (wN rfl) (by simp only[zP,hsz];decide) hS (fun w' hS'=>rA (dn ⟨rfl,rfl,rfl⟩)) ?_
 refine xI ?_
 refine vS (vT ?_)
 refine ⟨by simp only[dF];exact hdf,_,rO zM,?_,⟨hb.os,hb.tape,hb.output,hb.size,hb.block⟩⟩
 simp only[Value.int.injEq,true_and,beN,List.foldl]
 omega
theorem be_u64 (H:REnv P E) (hu:qu P E.tU64=some .u64) (hm:P.follows .mixedOrders=true) (ht:Text P E.bU64 2 54 #[.tmp 4] (c_bU64 E)) {b0 b1 b2 b3 b4 b5 b6 b7:UInt8} (hl:(b0::b1::b2::b3::b4::b5::b6::b7::l).length<=cap) (hc:qb W sb o ((b0::b1::b2::b3::b4::b5::b6::b7::l).map bv)) (hsb:sb<W.heap.size):
  qa P E.bU64 #[.agg #[],.slice (some ⟨sb,o,none⟩) (b0::b1::b2::b3::b4::b5::b6::b7::l).length cap] W fun v w'=>v=.int .u64 ((beN [b0,b1,b2,b3,b4,b5,b6,b7]:Nat):Int)/\Below W.heap.size W w':=by
 refine qa.enter ht zS ?_
 intro a hsz hdf harg
 have e0:=harg 0 (.agg #[]) zS
 have e1:=harg 1 (.slice (some ⟨sb,o,none⟩) (b0::b1::b2::b3::b4::b5::b6::b7::l).length cap) zS
 have hsl:=rB H.row
 have hb0:=b0.toNat_lt
 have hb1:=b1.toNat_lt
 have hb2:=b2.toNat_lt
 have hb3:=b3.toNat_lt
 have hb4:=b4.toNat_lt
 have hb5:=b5.toNat_lt
 have hb6:=b6.toNat_lt
 have hb7:=b7.toNat_lt
 unfold c_bU64
 refine vX ?_
 refine xN (v:=.agg #[]) zA ?_
 refine rA (dn ?_)
 have hb:Below W.heap.size W (W.alloc (.cells (Value.agg #[]).cells E.tBE)):=(Below.refl W.heap.size W).alloc (o:=.cells _ _) (Nat.le_refl _)
 have hc1:qb (W.alloc (.cells (Value.agg #[]).cells E.tBE)) sb o ((b0::b1::b2::b3::b4::b5::b6::b7::l).map bv):=hc.below hb hsb
 generalize W.alloc (.cells (Value.agg #[]).cells E.tBE)=V at *
 refine vX (rM ?_)
 refine qH (k:=.i64) (j:=7) (b:=sb) (o:=o) (len:=(b0::b1::b2::b3::b4::b5::b6::b7::l).length) (cap:=cap) hsl zA rfl (by simp only[List.length_cons];omega) ?_
 refine rL (b:=sb) (o:=o+7*1) (v:=bv b7) zE H.oU8 (hc1 7 _ rfl) ?_
 refine dn ?_
 have hS:(fun W':World=>qb W' sb o ((b0::b1::b2::b3::b4::b5::b6::b7::l).map bv)) { V with drawn:=V.drawn+1 }:=hc1
 refine vS (xq [(0,true),(1,true),(2,true),(3,true),(4,true),(5,true),(6,true),(7,true),(8,true),(9,true),(10,true),(11,true),(12,true),(13,true),(14,true),(15,true),(16,true),(17,true),(18,true),(19,true),(20,true),(21,true),(22,true),(23,true),(24,true),(25,true),(26,true),(27,true),(28,true),(29,true),(30,true),(31,true),(32,true),(33,true),(34,true),(35,true),(36,true),(37,true),(38,true),(39,true),(40,true),(41,true),(42,true),(43,true),(44,true),(45,true),(46,true)] (fun W'=>qb W' sb o ((b0::b1::b2::b3::b4::b5::b6::b7::l).map bv)) hm (by kernel_rfl) rfl (by kernel_rfl) (fun _ _ _ _ h=>False.elim h) ?_)
 refine dP rfl rfl rfl (wN rfl) (by simp only[zP,hsz];decide) hS (fun w' hS'=>rM (dn ⟨rfl,rfl,rfl⟩)) ?_
 refine dP rfl rfl rfl (wN rfl) (by simp only[zP,hsz];decide) hS (fun w' hS'=>qH (k:=.i64) (j:=7) (b:=sb) (o:=o) (len:=(b0::b1::b2::b3::b4::b5::b6::b7::l).length) (cap:=cap) hsl zA rfl (by simp only[List.length_cons];omega) (dn ⟨rfl,rfl,rfl⟩)) ?_
 refine dP rfl rfl rfl (wN rfl) (by simp only[zP,hsz];decide) hS (fun w' hS'=>rL (b:=sb) (o:=o+7*1) (v:=bv b7) zM H.oU8 (hS' 7 _ rfl) (dn ⟨rfl,rfl,rfl⟩)) ?_
 refine dP rfl rfl rfl (wN rfl) (by simp only[zP,hsz];decide) hS (fun w' hS'=>zy (K:=18446744073709551616) (n:=b7.toNat) H.u8 hu (by decide) zM hb7 (dn ⟨rfl,rfl,rfl⟩)) ?_
 refine dP rfl rfl rfl (wN rfl) (by simp only[zP,hsz];decide) hS (fun w' hS'=>rM (dn ⟨rfl,rfl,rfl⟩)) ?_
 refine dP rfl rfl rfl (wN rfl) (by simp only[zP,hsz];decide) hS (fun w' hS'=>qH (k:=.i64) (j:=6) (b:=sb) (o:=o) (len:=(b0::b1::b2::b3::b4::b5::b6::b7::l).length) (cap:=cap) hsl zA rfl (by simp only[List.length_cons];omega) (dn ⟨rfl,rfl,rfl⟩)) ?_
 refine dP rfl rfl rfl (wN rfl) (by simp only[zP,hsz];decide) hS (fun w' hS'=>rL (b:=sb) (o:=o+6*1) (v:=bv b6) zM H.oU8 (hS' 6 _ rfl) (dn ⟨rfl,rfl,rfl⟩)) ?_
 refine dP rfl rfl rfl (wN rfl) (by simp only[zP,hsz];decide) hS (fun w' hS'=>zy (K:=18446744073709551616) (n:=b6.toNat) H.u8 hu (by decide) zM hb6 (dn ⟨rfl,rfl,rfl⟩)) ?_
 refine dP rfl rfl rfl (wN rfl) (by simp only[zP,hsz];decide) hS (fun w' hS'=>kl (k:=.u64) (n:=b6.toNat) (c:=8) (mm:=256) (K:=18446744073709551616) (by decide) zE rfl (by decide) zH (dn ⟨rfl,rfl,rfl⟩)) ?_
 refine dP rfl rfl rfl (wN rfl) (by simp only[zP,hsz];decide) hS (fun w' hS'=>yn (k:=.u64) (m:=b7.toNat) (n:=b6.toNat*256) (v:=b7.toNat+b6.toNat*256) (K:=18446744073709551616) (by decide) zE zE (jj 8 (by decide) zH) zH zH (dn ⟨rfl,rfl,rfl⟩)) ?_
 refine dP rfl rfl rfl (wN rfl) (by simp only[zP,hsz];decide) hS (fun w' hS'=>rM (dn ⟨rfl,rfl,rfl⟩)) ?_
 refine dP rfl rfl rfl (wN rfl) (by simp only[zP,hsz];decide) hS (fun w' hS'=>qH (k:=.i64) (j:=5) (b:=sb) (o:=o) (len:=(b0::b1::b2::b3::b4::b5::b6::b7::l).length) (cap:=cap) hsl zA rfl (by simp only[List.length_cons];omega) (dn ⟨rfl,rfl,rfl⟩)) ?_
 refine dP rfl rfl rfl (wN rfl) (by simp only[zP,hsz];decide) hS (fun w' hS'=>rL (b:=sb) (o:=o+5*1) (v:=bv b5) zM H.oU8 (hS' 5 _ rfl) (dn ⟨rfl,rfl,rfl⟩)) ?_
 refine dP rfl rfl rfl (wN rfl) (by simp only[zP,hsz];decide) hS (fun w' hS'=>zy (K:=18446744073709551616) (n:=b5.toNat) H.u8 hu (by decide) zM hb5 (dn ⟨rfl,rfl,rfl⟩)) ?_
 refine dP rfl rfl rfl (wN rfl) (by simp only[zP,hsz];decide) hS (fun w' hS'=>kl (k:=.u64) (n:=b5.toNat) (c:=16) (mm:=65536) (K:=18446744073709551616) (by decide) zE rfl (by decide) zH (dn ⟨rfl,rfl,rfl⟩)) ?_
 refine dP rfl rfl rfl (wN rfl) (by simp only[zP,hsz];decide) hS (fun w' hS'=>yn (k:=.u64) (m:=b7.toNat+b6.toNat*256) (n:=b5.toNat*65536) (v:=b7.toNat+b6.toNat*256+b5.toNat*65536) (K:=18446744073709551616) (by decide) zE zE (jj 16 (by decide) zH) zH zH (dn ⟨rfl,rfl,rfl⟩)) ?_
 refine dP rfl rfl rfl (wN rfl) (by simp only[zP,hsz];decide) hS (fun w' hS'=>rM (dn ⟨rfl,rfl,rfl⟩)) ?_
 refine dP rfl rfl rfl (wN rfl) (by simp only[zP,hsz];decide) hS (fun w' hS'=>qH (k:=.i64) (j:=4) (b:=sb) (o:=o) (len:=(b0::b1::b2::b3::b4::b5::b6::b7::l).length) (cap:=cap) hsl zA rfl (by simp only[List.length_cons];omega) (dn ⟨rfl,rfl,rfl⟩)) ?_
 refine dP rfl rfl rfl (wN rfl) (by simp only[zP,hsz];decide) hS (fun w' hS'=>rL (b:=sb) (o:=o+4*1) (v:=bv b4) zM H.oU8 (hS' 4 _ rfl) (dn ⟨rfl,rfl,rfl⟩)) ?_
 refine dP rfl rfl rfl (wN rfl) (by simp only[zP,hsz];decide) hS (fun w' hS'=>zy (K:=18446744073709551616) (n:=b4.toNat) H.u8 hu (by decide) zM hb4 (dn ⟨rfl,rfl,rfl⟩)) ?_
 refine dP rfl rfl rfl (wN rfl) (by simp only[zP,hsz];decide) hS (fun w' hS'=>kl (k:=.u64) (n:=b4.toNat) (c:=24) (mm:=16777216) (K:=18446744073709551616) (by decide) zE rfl (by decide) zH (dn ⟨rfl,rfl,rfl⟩)) ?_
 refine dP rfl rfl rfl (wN rfl) (by simp only[zP,hsz];decide) hS (fun w' hS'=>yn (k:=.u64) (m:=b7.toNat+b6.toNat*256+b5.toNat*65536) (n:=b4.toNat*16777216) (v:=b7.toNat+b6.toNat*256+b5.toNat*65536+b4.toNat*16777216) (K:=18446744073709551616) (by decide) zE zE (jj 24 (by decide) zH) zH zH (dn ⟨rfl,rfl,rfl⟩)) ?_
 refine dP rfl rfl rfl (wN rfl) (by simp only[zP,hsz];decide) hS (fun w' hS'=>rM (dn ⟨rfl,rfl,rfl⟩)) ?_
 refine dP rfl rfl rfl (wN rfl) (by simp only[zP,hsz];decide) hS (fun w' hS'=>qH (k:=.i64) (j:=3) (b:=sb) (o:=o) (len:=(b0::b1::b2::b3::b4::b5::b6::b7::l).length) (cap:=cap) hsl zA rfl (by simp only[List.length_cons];omega) (dn ⟨rfl,rfl,rfl⟩)) ?_
 refine dP rfl rfl rfl (wN rfl) (by simp only[zP,hsz];decide) hS (fun w' hS'=>rL (b:=sb) (o:=o+3*1) (v:=bv b3) zM H.oU8 (hS' 3 _ rfl) (dn ⟨rfl,rfl,rfl⟩)) ?_
 refine dP rfl rfl rfl (wN rfl) (by simp only[zP,hsz];decide) hS (fun w' hS'=>zy (K:=18446744073709551616) (n:=b3.toNat) H.u8 hu (by decide) zM hb3 (dn ⟨rfl,rfl,rfl⟩)) ?_
 refine dP rfl rfl rfl (wN rfl) (by simp only[zP,hsz];decide) hS (fun w' hS'=>kl (k:=.u64) (n:=b3.toNat) (c:=32) (mm:=4294967296) (K:=18446744073709551616) (by decide) zE rfl (by decide) zH (dn ⟨rfl,rfl,rfl⟩)) ?_
 refine dP rfl rfl rfl (wN rfl) (by simp only[zP,hsz];decide) hS (fun w' hS'=>yn (k:=.u64) (m:=b7.toNat+b6.toNat*256+b5.toNat*65536+b4.toNat*16777216) (n:=b3.toNat*4294967296) (v:=b7.toNat+b6.toNat*256+b5.toNat*65536+b4.toNat*16777216+b3.toNat*4294967296) (K:=18446744073709551616) (by decide) zE zE (jj 32 (by decide) zH) zH zH (dn ⟨rfl,rfl,rfl⟩)) ?_
 refine dP rfl rfl rfl (wN rfl) (by simp only[zP,hsz];decide) hS (fun w' hS'=>rM (dn ⟨rfl,rfl,rfl⟩)) ?_
 refine dP rfl rfl rfl (wN rfl) (by simp only[zP,hsz];decide) hS (fun w' hS'=>qH (k:=.i64) (j:=2) (b:=sb) (o:=o) (len:=(b0::b1::b2::b3::b4::b5::b6::b7::l).length) (cap:=cap) hsl zA rfl (by simp only[List.length_cons];omega) (dn ⟨rfl,rfl,rfl⟩)) ?_
 refine dP rfl rfl rfl (wN rfl) (by simp only[zP,hsz];decide) hS (fun w' hS'=>rL (b:=sb) (o:=o+2*1) (v:=bv b2) zM H.oU8 (hS' 2 _ rfl) (dn ⟨rfl,rfl,rfl⟩)) ?_
 refine dP rfl rfl rfl (wN rfl) (by simp only[zP,hsz];decide) hS (fun w' hS'=>zy (K:=18446744073709551616) (n:=b2.toNat) H.u8 hu (by decide) zM hb2 (dn ⟨rfl,rfl,rfl⟩)) ?_
 refine dP rfl rfl rfl (wN rfl) (by simp only[zP,hsz];decide) hS (fun w' hS'=>kl (k:=.u64) (n:=b2.toNat) (c:=40) (mm:=1099511627776) (K:=18446744073709551616) (by decide) zE rfl (by decide) zH (dn ⟨rfl,rfl,rfl⟩)) ?_
 refine dP rfl rfl rfl (wN rfl) (by simp only[zP,hsz];decide) hS (fun w' hS'=>yn (k:=.u64) (m:=b7.toNat+b6.toNat*256+b5.toNat*65536+b4.toNat*16777216+b3.toNat*4294967296) (n:=b2.toNat*1099511627776) (v:=b7.toNat+b6.toNat*256+b5.toNat*65536+b4.toNat*16777216+b3.toNat*4294967296+b2.toNat*1099511627776) (K:=18446744073709551616) (by decide) zE zE (jj 40 (by decide) zH) zH zH (dn ⟨rfl,rfl,rfl⟩)) ?_
 refine dP rfl rfl rfl (wN rfl) (by simp only[zP,hsz];decide) hS (fun w' hS'=>rM (dn ⟨rfl,rfl,rfl⟩)) ?_
 refine dP rfl rfl rfl (wN rfl) (by simp only[zP,hsz];decide) hS (fun w' hS'=>qH (k:=.i64) (j:=1) (b:=sb) (o:=o) (len:=(b0::b1::b2::b3::b4::b5::b6::b7::l).length) (cap:=cap) hsl zA rfl (by simp only[List.length_cons];omega) (dn ⟨rfl,rfl,rfl⟩)) ?_
 refine dP rfl rfl rfl (wN rfl) (by simp only[zP,hsz];decide) hS (fun w' hS'=>rL (b:=sb) (o:=o+1*1) (v:=bv b1) zM H.oU8 (hS' 1 _ rfl) (dn ⟨rfl,rfl,rfl⟩)) ?_
 refine dP rfl rfl rfl (wN rfl) (by simp only[zP,hsz];decide) hS (fun w' hS'=>zy (K:=18446744073709551616) (n:=b1.toNat) H.u8 hu (by decide) zM hb1 (dn ⟨rfl,rfl,rfl⟩)) ?_
 refine dP rfl rfl rfl (wN rfl) (by simp only[zP,hsz];decide) hS (fun w' hS'=>kl (k:=.u64) (n:=b1.toNat) (c:=48) (mm:=281474976710656) (K:=18446744073709551616) (by decide) zE rfl (by decide) zH (dn ⟨rfl,rfl,rfl⟩)) ?_
 refine dP rfl rfl rfl (wN rfl) (by simp only[zP,hsz];decide) hS (fun w' hS'=>yn (k:=.u64) (m:=b7.toNat+b6.toNat*256+b5.toNat*65536+b4.toNat*16777216+b3.toNat*4294967296+b2.toNat*1099511627776) (n:=b1.toNat*281474976710656) (v:=b7.toNat+b6.toNat*256+b5.toNat*65536+b4.toNat*16777216+b3.toNat*4294967296+b2.toNat*1099511627776+b1.toNat*281474976710656) (K:=18446744073709551616) (by decide) zE zE (jj 48 (by decide) zH) zH zH (dn ⟨rfl,rfl,rfl⟩)) ?_
 refine dP rfl rfl rfl (wN rfl) (by simp only[zP,hsz];decide) hS (fun w' hS'=>rM (dn ⟨rfl,rfl,rfl⟩)) ?_
 refine dP rfl rfl rfl (wN rfl) (by simp only[zP,hsz];decide) hS (fun w' hS'=>qH (k:=.i64) (j:=0) (b:=sb) (o:=o) (len:=(b0::b1::b2::b3::b4::b5::b6::b7::l).length) (cap:=cap) hsl zA rfl (by simp only[List.length_cons];omega) (dn ⟨rfl,rfl,rfl⟩)) ?_
 refine dP rfl rfl rfl (wN rfl) (by simp only[zP,hsz];decide) hS (fun w' hS'=>rL (b:=sb) (o:=o+0*1) (v:=bv b0) zM H.oU8 (hS' 0 _ rfl) (dn ⟨rfl,rfl,rfl⟩)) ?_
 refine dP rfl rfl rfl (wN rfl) (by simp only[zP,hsz];decide) hS (fun w' hS'=>zy (K:=18446744073709551616) (n:=b0.toNat) H.u8 hu (by decide) zM hb0 (dn ⟨rfl,rfl,rfl⟩)) ?_
 refine dP rfl rfl rfl (wN rfl) (by simp only[zP,hsz];decide) hS (fun w' hS'=>kl (k:=.u64) (n:=b0.toNat) (c:=56) (mm:=72057594037927936) (K:=18446744073709551616) (by decide) zE rfl (by decide) zH (dn ⟨rfl,rfl,rfl⟩)) ?_
 refine dP rfl rfl rfl (wN rfl) (by simp only[zP,hsz];decide) hS (fun w' hS'=>yn (k:=.u64) (m:=b7.toNat+b6.toNat*256+b5.toNat*65536+b4.toNat*16777216+b3.toNat*4294967296+b2.toNat*1099511627776+b1.toNat*281474976710656) (n:=b0.toNat*72057594037927936) (v:=b7.toNat+b6.toNat*256+b5.toNat*65536+b4.toNat*16777216+b3.toNat*4294967296+b2.toNat*1099511627776+b1.toNat*281474976710656+b0.toNat*72057594037927936) (K:=18446744073709551616) (by decide) zE zE (jj 56 (by decide) zH) zH zH (dn ⟨rfl,rfl,rfl⟩)) ?_
 refine dP rfl rfl rfl (wN rfl) (by simp only[zP,hsz];decide) hS (fun w' hS'=>rA (dn ⟨rfl,rfl,rfl⟩)) ?_
 refine xI ?_
 refine vS (vT ?_)
 refine ⟨by simp only[dF];exact hdf,_,rO zM,?_,⟨hb.os,hb.tape,hb.output,hb.size,hb.block⟩⟩
 simp only[Value.int.injEq,true_and,beN,List.foldl]
 omega
def sgn (k n:Nat):Int:=if n<2 ^ (8*k-1) then (n:Int) else (n:Int)-2 ^ (8*k)
theorem sgn1 (h:n<256):IntKind.i8.wrap (n:Int)=sgn 1 n:=by
 have h2:(2:Int) ^ 8=256:=by decide
 have h3:(2:Int) ^ (8-1)=128:=by decide
 have h4:(2:Nat) ^ (8*1-1)=128:=by decide
 have h5:(2:Int) ^ (8*1)=256:=by decide
 simp only[IntKind.wrap,IntKind.bits,IntKind.signed,Bool.true_and,decide_eq_true_eq,h2,h3,sgn,h4,h5]
 split<;>split<;>omega
theorem sgn2 (h:n<65536):IntKind.i16.wrap (n:Int)=sgn 2 n:=by
 have h2:(2:Int) ^ 16=65536:=by decide
 have h3:(2:Int) ^ (16-1)=32768:=by decide
 have h4:(2:Nat) ^ (8*2-1)=32768:=by decide
 have h5:(2:Int) ^ (8*2)=65536:=by decide
 simp only[IntKind.wrap,IntKind.bits,IntKind.signed,Bool.true_and,decide_eq_true_eq,h2,h3,sgn,h4,h5]
 split<;>split<;>omega
theorem sgn4 (h:n<4294967296):IntKind.i32.wrap (n:Int)=sgn 4 n:=by
 have h2:(2:Int) ^ 32=4294967296:=by decide
 have h3:(2:Int) ^ (32-1)=2147483648:=by decide
 have h4:(2:Nat) ^ (8*4-1)=2147483648:=by decide
 have h5:(2:Int) ^ (8*4)=4294967296:=by decide
 simp only[IntKind.wrap,IntKind.bits,IntKind.signed,Bool.true_and,decide_eq_true_eq,h2,h3,sgn,h4,h5]
 split<;>split<;>omega
theorem sgn8 (h:n<18446744073709551616):IntKind.i64.wrap (n:Int)=sgn 8 n:=by
 have h2:(2:Int) ^ 64=18446744073709551616:=by decide
 have h3:(2:Int) ^ (64-1)=9223372036854775808:=by decide
 have h4:(2:Nat) ^ (8*8-1)=9223372036854775808:=by decide
 have h5:(2:Int) ^ (8*8)=18446744073709551616:=by decide
 simp only[IntKind.wrap,IntKind.bits,IntKind.signed,Bool.true_and,decide_eq_true_eq,h2,h3,sgn,h4,h5]
 split<;>split<;>omega
theorem beN_lt:∀ (l:List UInt8) (n:Nat),l.foldl (fun n b=>n*256+b.toNat) n<(n+1)*256 ^ l.length
 | [],n=>by simp
 | b::r,n=>by
  have hb:=b.toNat_lt
  have:=beN_lt r (n*256+b.toNat)
  simp only[List.foldl_cons,List.length_cons,Nat.pow_succ]
  refine Nat.lt_of_lt_of_le this ?_
  rw[show (n+1)*(256 ^ r.length*256)=((n+1)*256)*256 ^ r.length by rw[Nat.mul_comm (256 ^ r.length),Nat.mul_assoc]]
  exact Nat.mul_le_mul_right _ zH
theorem j4 (k:Nat) (st:RSt):(rdN k st).1<256 ^ k:=by
 unfold rdN
 split
 ·exact Nat.pow_pos (by decide)
 ·rename_i h
  have:=beN_lt (st.1.take k) 0
  rw[List.length_take,Nat.min_eq_left zH] at this
  simpa [beN] using this
def RdC (P:Program) (F:FuncId) (rb sb:Nat) (st':RSt) (v:Value) (W:World):Prop :=
 qa P F #[.pointer (some ⟨rb,0,none⟩)] W fun x w'=>x=v/\RdS w' rb sb st'/\Eff (RM rb) W w'/\(st'.2=false->NN w' rb)
theorem kG (H:REnv P E) {z:Operand} {zv:Value} {T:TypeId} {A:Act} {st:RSt} {rest:List Code} (hs:16<=A.tmps.size) (hz:z=.const zv) (e0:A.eval (.tmp 0)=.pointer (some ⟨rb,0,none⟩)) (hr:RdS W rb sb st) (hf:st.1.length<k->∀ A' W',A'.defers=A.defers->A'.eval (.tmp 2)=zv->RdS W' rb sb ([],true)->Eff (RM rb) W W'->Q .ret A' W') (ho:k<=st.1.length->∀ A',A'.tmps.size=A.tmps.size->A'.defers=A.defers->A'.eval (.tmp 0)=.pointer (some ⟨rb,0,none⟩)->vc P (sq rest) Q A' W):
  vc P (sq ((rg [(oQ 2 (.assign z) T)]) ::
   (sq [(rg [(qM 4 0 E.tPRd),(oQ 5 (.nilCheck (.tmp 4)) 0),(qF 6 E.tRd 5 0),(qL 7 6 E.tB),
    (qN 8 7 E.tB E.tI),(oQ 9 (.binOp .lss E.tI (.tmp 8) (.const (.int .i64 (k:Int))) E.tI) E.tO)]),
   (.cond (.tmp 9)
    (sq [(rg [(qM 10 0 E.tPRd),(oQ 11 (.nilCheck (.tmp 10)) 0),(qF 12 E.tRd 11 1),⟨none,.store E.tO (.tmp 12) (.const (.bool true)),0,"",#[],none⟩]),
     (rg [(qM 13 0 E.tPRd),(oQ 14 (.nilCheck (.tmp 13)) 0),(qF 15 E.tRd 14 0),⟨none,.store E.tB (.tmp 15) (.const (.slice none 0 0)),0,"",#[],none⟩]),
     (rg [(oQ 2 (.assign z) T)]),.ret])
    .skip)])::rest)) Q A W:=by
 refine vX (rA (dn (vS (vX ?_))))
 refine r_srcLen (t:=4) H (by simp only[zP];omega) (by decide) zA hr ?_
 intro A1 a1 a2 a3 a4
 simp only[zP,dF] at a1 a2
 have a0:A1.eval (.tmp 0)=.pointer (some ⟨rb,0,none⟩):=by
  rw[a3 0 zH]
  exact zA
 refine xm (k:=.i64) (m:=(st.1.length:Int)) (n:=(k:Int)) a4 rfl ?_
 refine dn ?_
 refine vS (vC (t:=decide ((st.1.length:Int)<(k:Int))) zE ?_ ?_)
 ·intro hlt
  have hlt':st.1.length<k:=by simpa using hlt
  refine gB (t:=10) (X:=2) H (by simp only[zP];omega) (by simp only[zP];omega) (by decide) (by decide) hz zA hr ?_
  intro A2 W2 b1 b2 b3 b4
  exact hf hlt' A2 W2 (by rw[b1];simp only[dF];exact a2) b2 b3 b4
 ·intro hlt
  have hlt':k<=st.1.length:=by simpa using hlt
  refine vK (vN ?_)
  exact ho hlt' _ (by simp only[zP];exact a1) (by simp only[dF];exact a2) zA
theorem yx (H:REnv P E) {st:RSt} (hk:0<k) (hr:RdS W rb sb st) (hle:k<=st.1.length):∃ v o cap,qb W rb 0 [v,.bool st.2]/\v=.slice (some ⟨sb,o,none⟩) st.1.length cap/\st.1.length<=cap/\qb W sb o (st.1.map bv):=by
 obtain ⟨v,hc,hsv⟩:=hr.cells
 rcases hsv with ⟨_,h0⟩ | ⟨o,cap,h1,h2,h3⟩
 ·rw[h0] at hle;simp at hle;omega
 ·exact ⟨v,o,cap,hc,h1,h2,h3⟩
theorem k_rI16 (H:REnv P E) (hm:P.follows .mixedOrders=true) (hBE:zd P E.tBE=some 0) (hu:qu P E.tU16=some .u16) (hs:qu P E.tI16=some .i16) (hb:Text P E.bU16 2 18 #[.tmp 4] (c_bU16 E)) (ht:Text P E.rI16 1 32 #[.tmp 2] (c_rI16 E)) {st:RSt} (hr:RdS W rb sb st):
  RdC P E.rI16 rb sb (rdN 2 st).2 (.int .i16 (sgn 2 (rdN 2 st).1)) W:=by
 refine qa.enter ht zS ?_
 intro a hsz hdf harg
 have e0:=harg 0 (.pointer (some ⟨rb,0,none⟩)) zS
 unfold c_rI16
 refine kG (k:=2) (zv:=.int .i16 0) H zH rfl e0 hr ?_ ?_
 ·intro hlt A' W' h1 h2 h3 h4
  have:rdN 2 st=(0,[],true):=by simp[rdN,hlt]
  rw[this]
  exact ⟨by rw[h1];exact hdf,_,rO h2,rfl,h3,h4,fun h=>by cases h⟩
 ·intro hle A h1 h2 h3
  obtain ⟨v,o,cap,hc,hv,hcap,hcs⟩:=yx (k:=2) H (by decide) hr hle
  obtain ⟨l0,bad⟩:=st
  simp only at hle hv hcap hcs
  obtain ⟨b0,b1,l,rfl⟩:∃ (b0 b1:UInt8) (l:List UInt8),l0=b0::b1::l:=by
   cases l0 with
   | nil=>simp at hle
   | cons b0 r0 =>
    cases r0 with
    | nil=>simp at hle
    | cons b1 r1 =>
     exact ⟨b0,b1,r1,rfl⟩
  have hN:rdN 2 (b0::b1::l,bad)=(beN [b0,b1],l,bad):=by
   simp only[rdN]
   rw[if_neg (by simp only[List.length_cons];omega)]
   rfl
  have hlt:=j4 2 (b0::b1::l,bad)
  rw[hN] at hlt
  simp only at hlt
  rw[hN]
  have hS:(fun W'=>qb W' rb 0 [v,.bool bad]) { W with drawn:=W.drawn+1 }:=hc
  have hs':A.tmps.size=32:=by omega
  refine vS (xq [(0,true),(1,true),(2,false),(3,true),(4,true),(5,false),(6,true),(7,true)] (fun W'=>qb W' rb 0 [v,.bool bad]) hm (by kernel_rfl) rfl (by kernel_rfl) (fun _ _ _ _ h=>False.elim h) ?_)
  refine dP rfl rfl rfl (wN rfl) (by simp only[zP,hs'];decide) hS (fun w' hS'=>qf (b:=E.vBE) (o:=0) (cs:=[]) rfl hBE (qb.nil _ _ _) (dn ⟨rfl,rfl,rfl⟩)) ?_
  refine dP rfl rfl rfl (wN rfl) (by simp only[zP,hs'];decide) hS (fun w' hS'=>rM (dn ⟨rfl,rfl,rfl⟩)) ?_
  refine qw rfl (wN rfl) ?_
  refine xe (ad:=⟨rb,0,none⟩) zA ?_
  refine dn (qv hS ?_)
  refine dP rfl rfl rfl (wN rfl) (by simp only[zP,hs'];decide) hS (fun w' hS'=>rF (b:=rb) (o:=0) zE H.f0 (dn ⟨rfl,rfl,rfl⟩)) ?_
  refine dP rfl rfl rfl (wN rfl) (by simp only[zP,hs'];decide) hS (fun w' hS'=>rL (b:=rb) (o:=0+0) (v:=v) zE H.oBytes (hS' 0 v rfl) (dn ⟨rfl,rfl,rfl⟩)) ?_
  refine qw rfl (wN rfl) ?_
  have hcs':qb { W with drawn:=W.drawn+1 } sb o ((b0::b1::l).map bv):=hcs
  refine q8 (args:=#[.agg #[],.slice (some ⟨sb,o,none⟩) (b0::b1::l).length cap]) ?_ (be_u16 H hu hm hb hcap hcs' hr.lt) ?_
  ·simp only[lM]
   simp (disch:=(try simp only[sP]);omega) only[eV,hv]
  rintro v1 W1 ⟨rfl,hb1⟩
  have hb1':Below W.heap.size W W1:=⟨hb1.os,hb1.tape,hb1.output,hb1.size,hb1.block⟩
  have hr1:=hr.below hb1' hr.rb_lt hr.lt
  have hS1:(fun W'=>qb W' rb 0 [v,.bool bad]) W1:=hc.below hb1' hr.rb_lt
  refine dn (qv hS1 ?_)
  refine dP rfl rfl rfl (wN rfl) (by simp only[zP,hs'];decide) hS1 (fun w' hS'=>qY (k:=.u16) (k':=.i16) (m:=((beN [b0,b1]:Nat):Int)) hu hs zE (dn ⟨rfl,rfl,rfl⟩)) ?_
  refine dP rfl rfl rfl (wN rfl) (by simp only[zP,hs'];decide) hS1 (fun w' hS'=>rA (dn ⟨rfl,rfl,rfl⟩)) ?_
  refine xI ?_
  refine vX ?_
  refine vZ (t:=23) (n:=2) H (by simp only[zP];omega) (by decide) zS zA hr1 ?_
  intro A2 W2 p1 p2 p3 p4 p5 p6
  simp only[zP,dF] at p1 p2
  refine dn ?_
  have hv3:A2.eval (.tmp 3)=.int .i16 (IntKind.i16.wrap ((beN [b0,b1]:Nat):Int)):=by
   rw[p3 3 zH]
   exact zE
  refine vX (rM (rA (dn (vS (vT ?_)))))
  refine ⟨by simp only[dF];rw[p2,h2];exact hdf,.int .i16 (IntKind.i16.wrap ((beN [b0,b1]:Nat):Int)),rO zA,by rw[sgn2 (by simpa using hlt)],by simpa using p4,?_,fun _=>p6 (.inl (by decide))⟩
  exact (Eff.of_below hb1').trans' p5 (fun k i _ h=>h) |>.mono (fun k i _ h=>h)
theorem k_rI32 (H:REnv P E) (hm:P.follows .mixedOrders=true) (hBE:zd P E.tBE=some 0) (hu:qu P E.tW=some .u32) (hs:qu P E.tI32=some .i32) (hb:Text P E.bU32 2 30 #[.tmp 4] (c_bU32 E)) (ht:Text P E.rI32 1 32 #[.tmp 2] (c_rI32 E)) {st:RSt} (hr:RdS W rb sb st):
  RdC P E.rI32 rb sb (rdN 4 st).2 (.int .i32 (sgn 4 (rdN 4 st).1)) W:=by
 refine qa.enter ht zS ?_
 intro a hsz hdf harg
 have e0:=harg 0 (.pointer (some ⟨rb,0,none⟩)) zS
 unfold c_rI32
 refine kG (k:=4) (zv:=.int .i32 0) H zH rfl e0 hr ?_ ?_
 ·intro hlt A' W' h1 h2 h3 h4
  have:rdN 4 st=(0,[],true):=by simp[rdN,hlt]
  rw[this]
  exact ⟨by rw[h1];exact hdf,_,rO h2,rfl,h3,h4,fun h=>by cases h⟩
 ·intro hle A h1 h2 h3
  obtain ⟨v,o,cap,hc,hv,hcap,hcs⟩:=yx (k:=4) H (by decide) hr hle
  obtain ⟨l0,bad⟩:=st
  simp only at hle hv hcap hcs
  obtain ⟨b0,b1,b2,b3,l,rfl⟩:∃ (b0 b1 b2 b3:UInt8) (l:List UInt8),l0=b0::b1::b2::b3::l:=by
   cases l0 with
   | nil=>simp at hle
   | cons b0 r0 =>
    cases r0 with
    | nil=>simp at hle
    | cons b1 r1 =>
     cases r1 with
     | nil=>simp at hle
     | cons b2 r2 =>
      cases r2 with
      | nil=>simp at hle
      | cons b3 r3 =>
       exact ⟨b0,b1,b2,b3,r3,rfl⟩
  have hN:rdN 4 (b0::b1::b2::b3::l,bad)=(beN [b0,b1,b2,b3],l,bad):=by
   simp only[rdN]
   rw[if_neg (by simp only[List.length_cons];omega)]
   rfl
  have hlt:=j4 4 (b0::b1::b2::b3::l,bad)
  rw[hN] at hlt
  simp only at hlt
  rw[hN]
  have hS:(fun W'=>qb W' rb 0 [v,.bool bad]) { W with drawn:=W.drawn+1 }:=hc
  have hs':A.tmps.size=32:=by omega
  refine vS (xq [(0,true),(1,true),(2,false),(3,true),(4,true),(5,false),(6,true),(7,true)] (fun W'=>qb W' rb 0 [v,.bool bad]) hm (by kernel_rfl) rfl (by kernel_rfl) (fun _ _ _ _ h=>False.elim h) ?_)
  refine dP rfl rfl rfl (wN rfl) (by simp only[zP,hs'];decide) hS (fun w' hS'=>qf (b:=E.vBE) (o:=0) (cs:=[]) rfl hBE (qb.nil _ _ _) (dn ⟨rfl,rfl,rfl⟩)) ?_
  refine dP rfl rfl rfl (wN rfl) (by simp only[zP,hs'];decide) hS (fun w' hS'=>rM (dn ⟨rfl,rfl,rfl⟩)) ?_
  refine qw rfl (wN rfl) ?_
  refine xe (ad:=⟨rb,0,none⟩) zA ?_
  refine dn (qv hS ?_)
  refine dP rfl rfl rfl (wN rfl) (by simp only[zP,hs'];decide) hS (fun w' hS'=>rF (b:=rb) (o:=0) zE H.f0 (dn ⟨rfl,rfl,rfl⟩)) ?_
  refine dP rfl rfl rfl (wN rfl) (by simp only[zP,hs'];decide) hS (fun w' hS'=>rL (b:=rb) (o:=0+0) (v:=v) zE H.oBytes (hS' 0 v rfl) (dn ⟨rfl,rfl,rfl⟩)) ?_
  refine qw rfl (wN rfl) ?_
  have hcs':qb { W with drawn:=W.drawn+1 } sb o ((b0::b1::b2::b3::l).map bv):=hcs
  refine q8 (args:=#[.agg #[],.slice (some ⟨sb,o,none⟩) (b0::b1::b2::b3::l).length cap]) ?_ (be_u32 H hu hm hb hcap hcs' hr.lt) ?_
  ·simp only[lM]
   simp (disch:=(try simp only[sP]);omega) only[eV,hv]
  rintro v1 W1 ⟨rfl,hb1⟩
  have hb1':Below W.heap.size W W1:=⟨hb1.os,hb1.tape,hb1.output,hb1.size,hb1.block⟩
  have hr1:=hr.below hb1' hr.rb_lt hr.lt
  have hS1:(fun W'=>qb W' rb 0 [v,.bool bad]) W1:=hc.below hb1' hr.rb_lt
  refine dn (qv hS1 ?_)
  refine dP rfl rfl rfl (wN rfl) (by simp only[zP,hs'];decide) hS1 (fun w' hS'=>qY (k:=.u32) (k':=.i32) (m:=((beN [b0,b1,b2,b3]:Nat):Int)) hu hs zE (dn ⟨rfl,rfl,rfl⟩)) ?_
  refine dP rfl rfl rfl (wN rfl) (by simp only[zP,hs'];decide) hS1 (fun w' hS'=>rA (dn ⟨rfl,rfl,rfl⟩)) ?_
  refine xI ?_
  refine vX ?_
  refine vZ (t:=23) (n:=4) H (by simp only[zP];omega) (by decide) zS zA hr1 ?_
  intro A2 W2 p1 p2 p3 p4 p5 p6
  simp only[zP,dF] at p1 p2
  refine dn ?_
  have hv3:A2.eval (.tmp 3)=.int .i32 (IntKind.i32.wrap ((beN [b0,b1,b2,b3]:Nat):Int)):=by
   rw[p3 3 zH]
   exact zE
  refine vX (rM (rA (dn (vS (vT ?_)))))
  refine ⟨by simp only[dF];rw[p2,h2];exact hdf,.int .i32 (IntKind.i32.wrap ((beN [b0,b1,b2,b3]:Nat):Int)),rO zA,by rw[sgn4 (by simpa using hlt)],by simpa using p4,?_,fun _=>p6 (.inl (by decide))⟩
  exact (Eff.of_below hb1').trans' p5 (fun k i _ h=>h) |>.mono (fun k i _ h=>h)
theorem k_rU16 (H:REnv P E) (hm:P.follows .mixedOrders=true) (hBE:zd P E.tBE=some 0) (hu:qu P E.tU16=some .u16) (hb:Text P E.bU16 2 18 #[.tmp 4] (c_bU16 E)) (ht:Text P E.rU16 1 31 #[.tmp 2] (c_rU16 E)) {st:RSt} (hr:RdS W rb sb st):
  RdC P E.rU16 rb sb (rdN 2 st).2 (.int .u16 (((rdN 2 st).1:Int))) W:=by
 refine qa.enter ht zS ?_
 intro a hsz hdf harg
 have e0:=harg 0 (.pointer (some ⟨rb,0,none⟩)) zS
 unfold c_rU16
 refine kG (k:=2) (zv:=.int .u16 0) H zH rfl e0 hr ?_ ?_
 ·intro hlt A' W' h1 h2 h3 h4
  have:rdN 2 st=(0,[],true):=by simp[rdN,hlt]
  rw[this]
  exact ⟨by rw[h1];exact hdf,_,rO h2,rfl,h3,h4,fun h=>by cases h⟩
 ·intro hle A h1 h2 h3
  obtain ⟨v,o,cap,hc,hv,hcap,hcs⟩:=yx (k:=2) H (by decide) hr hle
  obtain ⟨l0,bad⟩:=st
  simp only at hle hv hcap hcs
  obtain ⟨b0,b1,l,rfl⟩:∃ (b0 b1:UInt8) (l:List UInt8),l0=b0::b1::l:=by
   cases l0 with
   | nil=>simp at hle
   | cons b0 r0 =>
    cases r0 with
    | nil=>simp at hle
    | cons b1 r1 =>
     exact ⟨b0,b1,r1,rfl⟩
  have hN:rdN 2 (b0::b1::l,bad)=(beN [b0,b1],l,bad):=by
   simp only[rdN]
   rw[if_neg (by simp only[List.length_cons];omega)]
   rfl
  have hlt:=j4 2 (b0::b1::l,bad)
  rw[hN] at hlt
  simp only at hlt
  rw[hN]
  have hS:(fun W'=>qb W' rb 0 [v,.bool bad]) { W with drawn:=W.drawn+1 }:=hc
  have hs':A.tmps.size=31:=by omega
  refine vS (xq [(0,true),(1,true),(2,false),(3,true),(4,true),(5,false),(6,true)] (fun W'=>qb W' rb 0 [v,.bool bad]) hm (by kernel_rfl) rfl (by kernel_rfl) (fun _ _ _ _ h=>False.elim h) ?_)
  refine dP rfl rfl rfl (wN rfl) (by simp only[zP,hs'];decide) hS (fun w' hS'=>qf (b:=E.vBE) (o:=0) (cs:=[]) rfl hBE (qb.nil _ _ _) (dn ⟨rfl,rfl,rfl⟩)) ?_
  refine dP rfl rfl rfl (wN rfl) (by simp only[zP,hs'];decide) hS (fun w' hS'=>rM (dn ⟨rfl,rfl,rfl⟩)) ?_
  refine qw rfl (wN rfl) ?_
  refine xe (ad:=⟨rb,0,none⟩) zA ?_
  refine dn (qv hS ?_)
  refine dP rfl rfl rfl (wN rfl) (by simp only[zP,hs'];decide) hS (fun w' hS'=>rF (b:=rb) (o:=0) zE H.f0 (dn ⟨rfl,rfl,rfl⟩)) ?_
  refine dP rfl rfl rfl (wN rfl) (by simp only[zP,hs'];decide) hS (fun w' hS'=>rL (b:=rb) (o:=0+0) (v:=v) zE H.oBytes (hS' 0 v rfl) (dn ⟨rfl,rfl,rfl⟩)) ?_
  refine qw rfl (wN rfl) ?_
  have hcs':qb { W with drawn:=W.drawn+1 } sb o ((b0::b1::l).map bv):=hcs
  refine q8 (args:=#[.agg #[],.slice (some ⟨sb,o,none⟩) (b0::b1::l).length cap]) ?_ (be_u16 H hu hm hb hcap hcs' hr.lt) ?_
  ·simp only[lM]
   simp (disch:=(try simp only[sP]);omega) only[eV,hv]
  rintro v1 W1 ⟨rfl,hb1⟩
  have hb1':Below W.heap.size W W1:=⟨hb1.os,hb1.tape,hb1.output,hb1.size,hb1.block⟩
  have hr1:=hr.below hb1' hr.rb_lt hr.lt
  have hS1:(fun W'=>qb W' rb 0 [v,.bool bad]) W1:=hc.below hb1' hr.rb_lt
  refine dn (qv hS1 ?_)
  refine dP rfl rfl rfl (wN rfl) (by simp only[zP,hs'];decide) hS1 (fun w' hS'=>rA (dn ⟨rfl,rfl,rfl⟩)) ?_
  refine xI ?_
  refine vX ?_
  refine vZ (t:=22) (n:=2) H (by simp only[zP];omega) (by decide) zS zA hr1 ?_
  intro A2 W2 p1 p2 p3 p4 p5 p6
  simp only[zP,dF] at p1 p2
  refine dn ?_
  have hv3:A2.eval (.tmp 3)=.int .u16 ((beN [b0,b1]:Nat):Int):=by
   rw[p3 3 zH]
   exact zE
  refine vX (rM (rA (dn (vS (vT ?_)))))
  refine ⟨by simp only[dF];rw[p2,h2];exact hdf,.int .u16 ((beN [b0,b1]:Nat):Int),rO zA,rfl,by simpa using p4,?_,fun _=>p6 (.inl (by decide))⟩
  exact (Eff.of_below hb1').trans' p5 (fun k i _ h=>h) |>.mono (fun k i _ h=>h)
theorem k_rU64 (H:REnv P E) (hm:P.follows .mixedOrders=true) (hBE:zd P E.tBE=some 0) (hu:qu P E.tU64=some .u64) (hb:Text P E.bU64 2 54 #[.tmp 4] (c_bU64 E)) (ht:Text P E.rU64 1 31 #[.tmp 2] (c_rU64 E)) {st:RSt} (hr:RdS W rb sb st):
  RdC P E.rU64 rb sb (rdN 8 st).2 (.int .u64 (((rdN 8 st).1:Int))) W:=by
 refine qa.enter ht zS ?_
 intro a hsz hdf harg
 have e0:=harg 0 (.pointer (some ⟨rb,0,none⟩)) zS
 unfold c_rU64
 refine kG (k:=8) (zv:=.int .u64 0) H zH rfl e0 hr ?_ ?_
 ·intro hlt A' W' h1 h2 h3 h4
  have:rdN 8 st=(0,[],true):=by simp[rdN,hlt]
  rw[this]
  exact ⟨by rw[h1];exact hdf,_,rO h2,rfl,h3,h4,fun h=>by cases h⟩
 ·intro hle A h1 h2 h3
  obtain ⟨v,o,cap,hc,hv,hcap,hcs⟩:=yx (k:=8) H (by decide) hr hle
  obtain ⟨l0,bad⟩:=st
  simp only at hle hv hcap hcs
  obtain ⟨b0,b1,b2,b3,b4,b5,b6,b7,l,rfl⟩:∃ (b0 b1 b2 b3 b4 b5 b6 b7:UInt8) (l:List UInt8),l0=b0::b1::b2::b3::b4::b5::b6::b7::l:=by
   cases l0 with
   | nil=>simp at hle
   | cons b0 r0 =>
    cases r0 with
    | nil=>simp at hle
    | cons b1 r1 =>
     cases r1 with
     | nil=>simp at hle
     | cons b2 r2 =>
      cases r2 with
      | nil=>simp at hle
      | cons b3 r3 =>
       cases r3 with
       | nil=>simp at hle
       | cons b4 r4 =>
        cases r4 with
        | nil=>simp at hle
        | cons b5 r5 =>
         cases r5 with
         | nil=>simp at hle
         | cons b6 r6 =>
          cases r6 with
          | nil=>simp at hle
          | cons b7 r7 =>
           exact ⟨b0,b1,b2,b3,b4,b5,b6,b7,r7,rfl⟩
  have hN:rdN 8 (b0::b1::b2::b3::b4::b5::b6::b7::l,bad)=(beN [b0,b1,b2,b3,b4,b5,b6,b7],l,bad):=by
   simp only[rdN]
   rw[if_neg (by simp only[List.length_cons];omega)]
   rfl
  have hlt:=j4 8 (b0::b1::b2::b3::b4::b5::b6::b7::l,bad)
  rw[hN] at hlt
  simp only at hlt
  rw[hN]
  have hS:(fun W'=>qb W' rb 0 [v,.bool bad]) { W with drawn:=W.drawn+1 }:=hc
  have hs':A.tmps.size=31:=by omega
  refine vS (xq [(0,true),(1,true),(2,false),(3,true),(4,true),(5,false),(6,true)] (fun W'=>qb W' rb 0 [v,.bool bad]) hm (by kernel_rfl) rfl (by kernel_rfl) (fun _ _ _ _ h=>False.elim h) ?_)
  refine dP rfl rfl rfl (wN rfl) (by simp only[zP,hs'];decide) hS (fun w' hS'=>qf (b:=E.vBE) (o:=0) (cs:=[]) rfl hBE (qb.nil _ _ _) (dn ⟨rfl,rfl,rfl⟩)) ?_
  refine dP rfl rfl rfl (wN rfl) (by simp only[zP,hs'];decide) hS (fun w' hS'=>rM (dn ⟨rfl,rfl,rfl⟩)) ?_
  refine qw rfl (wN rfl) ?_
  refine xe (ad:=⟨rb,0,none⟩) zA ?_
  refine dn (qv hS ?_)
  refine dP rfl rfl rfl (wN rfl) (by simp only[zP,hs'];decide) hS (fun w' hS'=>rF (b:=rb) (o:=0) zE H.f0 (dn ⟨rfl,rfl,rfl⟩)) ?_
  refine dP rfl rfl rfl (wN rfl) (by simp only[zP,hs'];decide) hS (fun w' hS'=>rL (b:=rb) (o:=0+0) (v:=v) zE H.oBytes (hS' 0 v rfl) (dn ⟨rfl,rfl,rfl⟩)) ?_
  refine qw rfl (wN rfl) ?_
  have hcs':qb { W with drawn:=W.drawn+1 } sb o ((b0::b1::b2::b3::b4::b5::b6::b7::l).map bv):=hcs
  refine q8 (args:=#[.agg #[],.slice (some ⟨sb,o,none⟩) (b0::b1::b2::b3::b4::b5::b6::b7::l).length cap]) ?_ (be_u64 H hu hm hb hcap hcs' hr.lt) ?_
  ·simp only[lM]
   simp (disch:=(try simp only[sP]);omega) only[eV,hv]
  rintro v1 W1 ⟨rfl,hb1⟩
  have hb1':Below W.heap.size W W1:=⟨hb1.os,hb1.tape,hb1.output,hb1.size,hb1.block⟩
  have hr1:=hr.below hb1' hr.rb_lt hr.lt
  have hS1:(fun W'=>qb W' rb 0 [v,.bool bad]) W1:=hc.below hb1' hr.rb_lt
  refine dn (qv hS1 ?_)
  refine dP rfl rfl rfl (wN rfl) (by simp only[zP,hs'];decide) hS1 (fun w' hS'=>rA (dn ⟨rfl,rfl,rfl⟩)) ?_
  refine xI ?_
  refine vX ?_
  refine vZ (t:=22) (n:=8) H (by simp only[zP];omega) (by decide) zS zA hr1 ?_
  intro A2 W2 p1 p2 p3 p4 p5 p6
  simp only[zP,dF] at p1 p2
  refine dn ?_
  have hv3:A2.eval (.tmp 3)=.int .u64 ((beN [b0,b1,b2,b3,b4,b5,b6,b7]:Nat):Int):=by
   rw[p3 3 zH]
   exact zE
  refine vX (rM (rA (dn (vS (vT ?_)))))
  refine ⟨by simp only[dF];rw[p2,h2];exact hdf,.int .u64 ((beN [b0,b1,b2,b3,b4,b5,b6,b7]:Nat):Int),rO zA,rfl,by simpa using p4,?_,fun _=>p6 (.inl (by decide))⟩
  exact (Eff.of_below hb1').trans' p5 (fun k i _ h=>h) |>.mono (fun k i _ h=>h)
end
theorem vc_goto {l:Nat} (h:Q (.goto l) a w):vc P (.goto l) Q a w:=h
theorem vc_label {l:Nat} (h:Q .normal a w):vc P (.label l) Q a w:=h
theorem bare_seq_inv {c a b:Code} (h:bare c=.seq a b):∃ x y,c=.seq x y/\bare x=a/\bare y=b:=by
 cases c with
 | seq x y =>
  simp only[bare,Code.seq.injEq] at h
  exact ⟨x,y,rfl,h.1,h.2⟩
 | region id ops d=>cases d<;>simp[bare] at h
 | _=>simp[bare] at h
theorem bare_scope_inv {c b:Code} (h:bare c=.scope b):∃ y,c=.scope y/\bare y=b:=by
 cases c with
 | scope y =>
  simp only[bare,Code.scope.injEq] at h
  exact ⟨y,rfl,h⟩
 | region id ops d=>cases d<;>simp[bare] at h
 | _=>simp[bare] at h
theorem qa.of_scope {f:FuncId} {np nt:Nat} {res:Array ResultVar} {r0 c1 rest:Code} (ht:Text P f np nt res (.seq r0 (.scope c1))) {l:Nat} {J:Act->World->Prop} (hl:findLabel c1 l=some rest) {args:Array Value} (h:∀ a,a.tmps.size=max nt args.size->a.defers=[]->(∀ i v,args[i]? = some v->a.eval (.tmp i)=v)->vc P r0 (Exit.then (vc P c1 (Exit.jump l J (Out P res S))) (Out P res S)) a w) (pass:∀ a w,J a w->vc P rest (Exit.jump l (fun _ _=>False) (Out P res S)) a w):qa P f args w S:=by
 refine ⟨ht.enters,?_⟩
 obtain ⟨fn,h1,h2,h3,h4,_⟩:=ht.text
 cases hb:fn.body with
 | none=>simp[hb] at h2
 | some c0 =>
  simp only[hb,Option.map_some,Option.some.injEq] at h2
  obtain ⟨x,y,rfl,hx,hy⟩:=bare_seq_inv h2
  obtain ⟨z,rfl,hz⟩:=bare_scope_inv hy
  subst h3;subst h4
  have ha:=h { tmps:=args++Array.replicate (fn.ntmps-args.size) undef,defers:=[] } (by simp;omega) rfl (by
   intro i v hv
   have hi:i<args.size:=by
    rcases Nat.lt_or_ge i args.size with h | h
    ·exact h
    ·rw[Array.getElem?_eq_none h] at hv;cases hv
   simp only[Act.eval]
   rw[Array.getD_eq_getD_getElem?,Array.getElem?_append_left hi,hv]
   rfl)
  have hf:∃ r,findLabel z l=some r/\bare r=rest:=by
   have:=vB z l
   rw[hz,hl] at this
   cases hr:findLabel z l with
   | none=>rw[hr] at this;cases this
   | some r =>
    rw[hr,Option.map_some,Option.some.injEq] at this
    exact ⟨r,rfl,this.symm⟩
  obtain ⟨r,hr,hbr⟩:=hf
  have hres:∀ t,results { (default:Func) with results:=fn.results } t=results fn t:=fun t=>rfl
  refine calls_of_wp h1 hb (wp_mono (Q:=Out P fn.results S) (wp_seq (wp_mono (gj x (vc_bare x (hx ▸ ha))) ?_)) ?_)
  ·intro e a w h
   cases e with
   | normal =>
    refine wp_scope_jumps l J (fun _ _=>0) hr (gj z (vc_bare z (hz ▸ h))) ?_
    intro a w hJ
    refine wp_mono (gj r (vc_bare r (hbr ▸ pass a w hJ))) ?_
    intro e a w h
    cases e with
    | goto k=>exact h.2.elim
    | _=>exact h
   | _=>exact h
  ·intro e a w h
   cases e with
   | normal=>exact ⟨h.1,let ⟨v,hv,hs⟩:=h.2;⟨v,(hres _) ▸ hv,v,rfl,hs⟩⟩
   | ret=>exact ⟨h.1,let ⟨v,hv,hs⟩:=h.2;⟨v,(hres _) ▸ hv,v,rfl,hs⟩⟩
   | _=>exact h.elim
section
attribute [local irreducible] vc rO_ qz qP qJ
def zf:Nat->Nat->List UInt8->Option (Nat × Nat)
 | _,_,[]=>none
 | i,acc,b::r=>if i=4 then (if b.toNat<=15 then some (acc+b.toNat*2 ^ 28,5) else none) else if b.toNat<128 then some (acc+b.toNat*2 ^ (7*i),i+1) else zf (i+1) (acc+b.toNat % 128*2 ^ (7*i)) r
def qp (st:RSt):Nat × RSt:=match zf 0 0 st.1 with | none=>(0,[],true) | some (v,n)=>(v,st.1.drop n,st.2)
theorem uvDec_lt:∀ (l:List UInt8) (i acc v n:Nat),acc<2 ^ (7*i)->i<=4->zf i acc l=some (v,n)->v<4294967296/\n<=i+l.length/\i<n
 | [],i,acc,v,n,_,_,h=>by cases h
 | b::r,i,acc,v,n,ha,hi,h=>by
  have hb:=b.toNat_lt
  unfold zf at h
  split at h
  ·rename_i h4
   subst h4
   split at h
   ·simp only[Option.some.injEq,Prod.mk.injEq] at h
    obtain ⟨rfl,rfl⟩:=h
    simp only[List.length_cons]
    have:(2:Nat) ^ (7*4)=268435456:=by decide
    have h28:(2:Nat) ^ 28=268435456:=by decide
    rw[this] at ha
    rw[h28]
    omega
   ·cases h
  ·rename_i h4
   have hp:2 ^ (7*(i+1))=2 ^ (7*i)*128:=by rw[show 7*(i+1)=7*i+7 by omega,Nat.pow_add]
   have hbig:2 ^ (7*(i+1))<=2 ^ 28:=Nat.pow_le_pow_right (by decide) zH
   have h28:(2:Nat) ^ 28=268435456:=by decide
   rw[h28] at hbig
   have hmul:∀ x:Nat,x<128->acc+x*2 ^ (7*i)<2 ^ (7*(i+1)):=fun x hx=>by
    have:x*2 ^ (7*i)<=127*2 ^ (7*i):=Nat.mul_le_mul_right _ zH
    rw[hp]
    omega
   split at h
   ·rename_i h1
    simp only[Option.some.injEq,Prod.mk.injEq] at h
    obtain ⟨rfl,rfl⟩:=h
    have:=hmul b.toNat h1
    simp only[List.length_cons]
    omega
   ·have:=uvDec_lt r (i+1) _ v n (hmul (b.toNat % 128) (Nat.mod_lt _ (by decide))) zH h
    simp only[List.length_cons]
    omega
theorem qT {u:Nat} {x:Value} (h:a.eval (.tmp t)=v) (h2:a.eval (.tmp u)=x):(results { (default:Func) with results:=#[.tmp t,.tmp u] } a.tmps).run P w=.ok (.tuple #[v,x]) w:=by
 subst h;subst h2
 simp[results,Act.eval]
theorem r_and127 {d xt x c yt ty p af g} (hx:a.eval x=.int .u8 (n:Int)) (hc:c=.const (.int .u8 127)) (hn:n<256) (h:rO_ P Q r (a.put (some d) (.int .u8 ((n % 128:Nat):Int))) w):rO_ P Q (⟨some d,.binOp .and xt x c yt,ty,p,af,g⟩::r) a w:=by
 subst hc
 refine vu (v:=.int .u8 ((n % 128:Nat):Int)) hx rfl zS ?_ h
 have:=u8_and_nat n 127 hn (by decide)
 rw[show n &&& 127=n % 128 from Nat.and_two_pow_sub_one_eq_mod n 7] at this
 show (pure (Value.int .u8 (bits .and .u8 (n:Int) 127)):Sem Value)=_
 rw[show (127:Int)=((127:Nat):Int) from rfl,this]
theorem r_and128 {d xt x c yt ty p af g} (hx:a.eval x=.int .u8 (n:Int)) (hc:c=.const (.int .u8 128)) (hn:n<256) (h:rO_ P Q r (a.put (some d) (.int .u8 ((if n<128 then 0 else 128:Nat):Int))) w):rO_ P Q (⟨some d,.binOp .and xt x c yt,ty,p,af,g⟩::r) a w:=by
 subst hc
 refine vu (v:=.int .u8 ((if n<128 then 0 else 128:Nat):Int)) hx rfl zS ?_ h
 have:=u8_and_nat n 128 hn (by decide)
 have hd:∀ n,n<256->n &&& 128=if n<128 then 0 else 128:=by decide +kernel
 rw[hd n hn] at this
 show (pure (Value.int .u8 (bits .and .u8 (n:Int) 128)):Sem Value)=_
 rw[show (128:Int)=((128:Nat):Int) from rfl,this]
theorem ql {d x i t p af g} {vs:Array Value} (hx:a.eval x=.tuple vs) (hv:vs[i]? = some v) (h:rO_ P Q r (a.put (some d) v) w):rO_ P Q (⟨some d,.extract x i,t,p,af,g⟩::r) a w:=by
 refine st ?_
 have hr:(Instr.extract (a.eval x) i).run P w=.ok v w:=by rw[hx];simp[Instr.extract,hv]
 simp only[Oper.wp,execOp,Sem.run_bind,hr,Sem.run_pure,Result.andThen_ok,Oper.upon_value]
 exact h
theorem uv_test (H:REnv P E) {i:Nat} {A:Act} {rest:List Code} {q acc:Nat} {b:UInt8} (hs:t+9<=A.tmps.size) (ht:6<=t) (e0:A.eval (.tmp 0)=.slice (some ⟨q,o,none⟩) l.length cap) (hc:qb W q o (l.map bv)) (hi:l[i]? = some b) (e4:A.eval (.tmp 4)=.int .u32 (acc:Int)) (e5:A.eval (.tmp 5)=.int .i64 0) (h1:b.toNat<128->∀ A',A'.defers=A.defers->A'.eval (.tmp 2)=.int .u32 (acc:Int)->A'.eval (.tmp 3)=.int .i64 ((i+1:Nat):Int)->Q .ret A' W) (h2:¬ b.toNat<128->l.length<i+2->∀ A',A'.tmps.size=A.tmps.size->A'.defers=A.defers->A'.eval (.tmp 5)=.int .i64 0->Q (.goto 0) A' W) (h3:¬ b.toNat<128->i+2<=l.length->∀ A',A'.tmps.size=A.tmps.size->A'.defers=A.defers->A'.eval (.tmp 0)=.slice (some ⟨q,o,none⟩) l.length cap->A'.eval (.tmp 4)=.int .u32 (acc:Int)->A'.eval (.tmp 5)=.int .i64 0->vc P (sq rest) Q A' W):
  vc P (sq ((sq [(rg [(qM t 0 E.tB),(oQ (t+1) (.indexAddr E.tB (.tmp t) (.const (.int .i64 (i:Int)))) 0),(oQ (t+2) (.load E.tU8 (.tmp (t+1))) E.tU8),
      (oQ (t+3) (.binOp .and E.tU8 (.tmp (t+2)) (.const (.int .u8 128)) E.tU8) E.tU8),(oQ (t+4) (.binOp .eql E.tU8 (.tmp (t+3)) (.const (.int .u8 0)) E.tU8) E.tO)]),
     (.cond (.tmp (t+4))
      (sq [(rg [(qM (t+5) 4 E.tW),(oQ 2 (.assign (.tmp (t+5))) E.tW),(oQ 3 (.assign (.const (.int .i64 ((i+1:Nat):Int)))) E.tI)]),.ret])
      (sq [(rg [(qM (t+6) 0 E.tB),(oQ (t+7) (.call { callee:=.builtin .len,args:=#[(.tmp (t+6))],argTypes:=#[E.tB] }) E.tI),(oQ (t+8) (.binOp .lss E.tI (.tmp (t+7)) (.const (.int .i64 ((i+2:Nat):Int))) E.tI) E.tO)]),
       (.cond (.tmp (t+8)) (.goto 0) .skip)]))])::rest)) Q A W:=by
 have hsl:=rB H.row
 have hil:i<l.length:=by
  rcases Nat.lt_or_ge i l.length with h | h
  ·exact h
  ·rw[List.getElem?_eq_none h] at hi;cases hi
 have hcell:W.cell? ⟨q,o+i*1,none⟩=some (bv b):=by
  rw[Nat.mul_one]
  exact hc i _ (by rw[List.getElem?_map,hi];rfl)
 refine vS (vX (rM ?_))
 refine qH (k:=.i64) (j:=i) (b:=q) (o:=o) (len:=l.length) (cap:=cap) hsl zA rfl hil ?_
 refine rL (b:=q) (o:=o+i*1) (v:=bv b) zE H.oU8 hcell ?_
 refine r_and128 (n:=b.toNat) zM rfl b.toNat_lt ?_
 refine xG (k:=.u8) (m:=((if b.toNat<128 then 0 else 128:Nat):Int)) (n:=0) zE rfl ?_
 refine dn ?_
 refine vS (vC (t:=decide (b.toNat<128)) ?_ ?_ ?_)
 ·simp (disch:=(try simp only[sP]);omega) only[eV]
  by_cases h:b.toNat<128<;>simp[h]
 ·intro h
  have h':b.toNat<128:=by simpa using h
  refine vX (rM (rA (rA (dn (vS (vT ?_))))))
  exact h1 h' _ (by simp only[dF]) zA zE
 ·intro h
  have h':¬ b.toNat<128:=by simpa using h
  refine vX (rM ?_)
  refine xh (ad:=some ⟨q,o,none⟩) (n:=l.length) (c:=cap) hsl zA ?_
  refine xm (k:=.i64) (m:=(l.length:Int)) (n:=((i+2:Nat):Int)) zE rfl ?_
  refine dn ?_
  refine vS (vC (t:=decide ((l.length:Int)<((i+2:Nat):Int))) zE ?_ ?_)
  ·intro h4
   have h4':l.length<i+2:=by simp at h4;omega
   refine vc_goto ?_
   exact h2 h' h4' _ (by simp only[zP]) (by simp only[dF]) zA
  ·intro h4
   have h4':i+2<=l.length:=by simp at h4;omega
   refine vK (vN (vN ?_))
   exact h3 h' h4' _ (by simp only[zP]) (by simp only[dF]) zA zA zA
theorem uv_acc (H:REnv P E) (hu:qu P E.tW=some .u32) {i mm sh:Nat} {A:Act} {rest:List Code} {q acc:Nat} {b:UInt8} (hs:t+8<=A.tmps.size) (ht:6<=t) (hmm:2 ^ sh=mm) (hsh:2 ^ (min sh IntKind.u32.bits)=mm) (hacc:acc<mm) (hm128:mm*128<=268435456) (e0:A.eval (.tmp 0)=.slice (some ⟨q,o,none⟩) l.length cap) (hc:qb W q o (l.map bv)) (hi:l[i]? = some b) (e4:A.eval (.tmp 4)=.int .u32 (acc:Int)) (e5:A.eval (.tmp 5)=.int .i64 0) (h:∀ A',A'.tmps.size=A.tmps.size->A'.defers=A.defers->A'.eval (.tmp 0)=.slice (some ⟨q,o,none⟩) l.length cap->A'.eval (.tmp 4)=.int .u32 ((acc+b.toNat % 128*mm:Nat):Int)->A'.eval (.tmp 5)=.int .i64 0->vc P (sq rest) Q A' W):
  vc P (sq ((rg [(qM t 4 E.tW),(qM (t+1) 0 E.tB),(oQ (t+2) (.indexAddr E.tB (.tmp (t+1)) (.const (.int .i64 (i:Int)))) 0),(oQ (t+3) (.load E.tU8 (.tmp (t+2))) E.tU8),
     (oQ (t+4) (.binOp .and E.tU8 (.tmp (t+3)) (.const (.int .u8 127)) E.tU8) E.tU8),(oQ (t+5) (.convert E.tU8 E.tW (.tmp (t+4))) E.tW),(oQ (t+6) (.binOp .shl E.tW (.tmp (t+5)) (.const (.int .u64 (sh:Int))) E.tUint) E.tW),
     (oQ (t+7) (.binOp .or E.tW (.tmp t) (.tmp (t+6)) E.tW) E.tW),(oQ 4 (.assign (.tmp (t+7))) E.tW)])::rest)) Q A W:=by
 have hsl:=rB H.row
 have hil:i<l.length:=by
  rcases Nat.lt_or_ge i l.length with h | h
  ·exact h
  ·rw[List.getElem?_eq_none h] at hi;cases hi
 have hcell:W.cell? ⟨q,o+i*1,none⟩=some (bv b):=by
  rw[Nat.mul_one]
  exact hc i _ (by rw[List.getElem?_map,hi];rfl)
 have hb7:b.toNat % 128<128:=Nat.mod_lt _ (by decide)
 have hmul:b.toNat % 128*mm<4294967296:=by
  have:b.toNat % 128*mm<=128*mm:=Nat.mul_le_mul_right _ zH
  omega
 refine vX (rM (rM ?_))
 refine qH (k:=.i64) (j:=i) (b:=q) (o:=o) (len:=l.length) (cap:=cap) hsl zA rfl hil ?_
 refine rL (b:=q) (o:=o+i*1) (v:=bv b) zE H.oU8 hcell ?_
 refine r_and127 (n:=b.toNat) zM rfl b.toNat_lt ?_
 refine zy (K:=4294967296) (n:=b.toNat % 128) H.u8 hu (by decide) zE zH ?_
 refine kl (k:=.u32) (n:=b.toNat % 128) (c:=sh) (mm:=mm) (K:=4294967296) (by decide) zE rfl hsh hmul ?_
 refine yn (k:=.u32) (m:=acc) (n:=b.toNat % 128*mm) (v:=acc+b.toNat % 128*mm) (K:=4294967296) (by decide) zA zE (jj sh hmm hacc) zH hmul ?_
 refine rA (dn ?_)
 exact h _ (by simp only[zP]) (by simp only[dF]) zA zE zA
theorem xY {i acc:Nat} {b:UInt8} {r:List UInt8} (hi:i<4):zf i acc (b::r)=if b.toNat<128 then some (acc+b.toNat*2 ^ (7*i),i+1) else zf (i+1) (acc+b.toNat % 128*2 ^ (7*i)) r:=by
 rw[zf,if_neg zH]
theorem uvDec_four {acc:Nat} {b:UInt8} {r:List UInt8}:zf 4 acc (b::r)=if b.toNat<=15 then some (acc+b.toNat*2 ^ 28,5) else none:=by
 rw[zf,if_pos rfl]
theorem k_uv (H:REnv P E) (hu:qu P E.tW=some .u32) (ht:Text P E.kUv 1 87 #[.tmp 2,.tmp 3] (c_kUv E)) (hv:je W sb v l):
  qa P E.kUv #[v] W fun x w'=>w'=W/\∃ a n:Int,x=.tuple #[.int .u32 a,.int .i64 n]/\(match zf 0 0 l with | some (val,k)=>a=val/\n=k | none=>a=0/\n<=0):=by
 have hsl:=rB H.row
 obtain ⟨ad,cap,hvf,hcap⟩:=hv.form
 unfold c_kUv at ht
 refine qa.of_scope (l:=0) (J:=fun A w'=>w'=W/\A.tmps.size=87/\A.defers=[]/\zf 0 0 l=none/\∃ m:Int,A.eval (.tmp 5)=.int .i64 m/\m<=0) ht rfl ?_ ?_
 ·intro a hsz hdf harg
  have hsz':a.tmps.size=87:=by rw[hsz];rfl
  have e0:=harg 0 v zS
  refine vR zS ?_
  refine rA (rA (dn (vX (rA (dn (vX (rA (dn ?_))))))))
  refine vS (vX (rM ?_))
  refine xh (ad:=ad) (n:=l.length) (c:=cap) hsl (by simp (disch:=(try simp only[sP]);omega) only[eV,e0,hvf]) ?_
  refine xm (k:=.i64) (m:=(l.length:Int)) (n:=1) zE rfl ?_
  refine dn ?_
  refine vS (vC (t:=decide ((l.length:Int)<1)) zE ?_ ?_)
  ·intro h
   have h':l=[]:=List.eq_nil_of_length_eq_zero (by simp at h;omega)
   refine vc_goto ?_
   exact ⟨rfl,rfl,by simp only[zP];exact hsz',by simp only[dF];exact hdf,by rw[h'];rfl,0,zE,by omega⟩
  intro h
  refine vK (vN ?_)
  have hlen:0<l.length:=by simp at h;omega
  obtain ⟨q,o,rfl,hc⟩:∃ q o,ad=some ⟨q,o,none⟩/\qb W q o (l.map bv):=by
   rcases hv with ⟨_,h0⟩ | ⟨o,c,h1,h2,h3⟩
   ·rw[h0] at hlen;simp at hlen
   ·rw[h1] at hvf
    simp only[Value.slice.injEq] at hvf
    exact ⟨sb,o,hvf.1.symm,h3⟩
  obtain ⟨b0,l1,rfl⟩:∃ b r,l=b::r:=by
   cases l with
   | nil=>simp at hlen
   | cons b r=>exact ⟨b,r,rfl⟩
  have hb0:=b0.toNat_lt
  refine vX (rM ?_)
  refine qH (k:=.i64) (j:=0) (b:=q) (o:=o) (len:=(b0::l1).length) (cap:=cap) hsl (by simp (disch:=(try simp only[sP]);omega) only[eV,e0,hvf]) rfl hlen ?_
  refine rL (b:=q) (o:=o+0*1) (v:=bv b0) zE H.oU8 (hc 0 _ rfl) ?_
  refine r_and127 (n:=b0.toNat) zM rfl hb0 ?_
  refine zy (K:=4294967296) (n:=b0.toNat % 128) H.u8 hu (by decide) zE zH ?_
  refine rA (dn ?_)
  refine uv_test (t:=14) (i:=0) (q:=q) (o:=o) (cap:=cap) (l:=b0::l1) (b:=b0) (acc:=b0.toNat % 128) H (by simp only[zP];omega) (by decide) (by simp (disch:=(try simp only[sP]);omega) only[eV,e0,hvf]) hc rfl zE zE ?_ ?_ ?_
  ·intro hlt A' p1 p2 p3
   refine ⟨by rw[p1];simp only[dF];exact hdf,_,qT p2 p3,rfl,_,_,rfl,?_⟩
   rw[xY (by decide),if_pos hlt]
   simp[Nat.mod_eq_of_lt hlt]
  ·intro hge hsh A' p1 p2 p3
   refine ⟨rfl,rfl,by rw[p1];simp only[zP];exact hsz',by rw[p2];simp only[dF];exact hdf,?_,0,p3,by omega⟩
   have:l1=[]:=List.eq_nil_of_length_eq_zero (by simp at hsh;omega)
   subst this
   rw[xY (by decide),if_neg hge]
   rfl
  intro hge0 hlen1 A1 p1 p2 p3 p4 p5
  simp only[zP,dF] at p1 p2
  obtain ⟨b1,l2,rfl⟩:∃ b r,l1=b::r:=by
   cases l1 with
   | nil=>simp at hlen1
   | cons b r=>exact ⟨b,r,rfl⟩
  have e1:zf 0 0 (b0::b1::l2)=zf 1 (b0.toNat % 128) (b1::l2):=by
   rw[xY (by decide),if_neg hge0]
   simp
  have hm0:b0.toNat % 128<128:=Nat.mod_lt _ (by decide)
  refine uv_acc (t:=23) (i:=1) (mm:=128) (sh:=7) (l:=b0::b1::l2) (b:=b1) (acc:=b0.toNat % 128) H hu zH (by decide) rfl rfl hm0 (by decide) p3 hc rfl p4 p5 ?_
  intro A2 q1 q2 q3 q4 q5
  refine uv_test (t:=31) (i:=1) (l:=b0::b1::l2) (b:=b1) H zH (by decide) q3 hc rfl q4 q5 ?_ ?_ ?_
  ·intro hlt A' r1 r2 r3
   refine ⟨by rw[r1,q2,p2];exact hdf,_,qT r2 r3,rfl,_,_,rfl,?_⟩
   rw[e1,xY (by decide),if_pos hlt]
   simp[Nat.mod_eq_of_lt hlt]
  ·intro hge hsh A' r1 r2 r3
   refine ⟨rfl,rfl,by omega,by rw[r2,q2,p2];exact hdf,?_,0,r3,by omega⟩
   have:l2=[]:=List.eq_nil_of_length_eq_zero (by simp at hsh;omega)
   subst this
   rw[e1,xY (by decide),if_neg hge]
   rfl
  intro hge1 hlen2 A3 r1 r2 r3 r4 r5
  obtain ⟨b2,l3,rfl⟩:∃ b r,l2=b::r:=by
   cases l2 with
   | nil=>simp at hlen2
   | cons b r=>exact ⟨b,r,rfl⟩
  have hm1:b1.toNat % 128<128:=Nat.mod_lt _ (by decide)
  have e2:zf 0 0 (b0::b1::b2::l3)=zf 2 (b0.toNat % 128+b1.toNat % 128*128) (b2::l3):=by
   rw[e1,xY (by decide),if_neg hge1]
  generalize hA2:b0.toNat % 128+b1.toNat % 128*128=acc2 at *
  have ha2:acc2<16384:=by omega
  refine uv_acc (t:=40) (i:=2) (mm:=16384) (sh:=14) (l:=b0::b1::b2::l3) (b:=b2) (acc:=acc2) H hu zH (by decide) rfl rfl ha2 (by decide) r3 hc rfl r4 r5 ?_
  intro A4 s1 s2 s3 s4 s5
  refine uv_test (t:=48) (i:=2) (l:=b0::b1::b2::l3) (b:=b2) H zH (by decide) s3 hc rfl s4 s5 ?_ ?_ ?_
  ·intro hlt A' t1 t2 t3
   refine ⟨by rw[t1,s2,r2,q2,p2];exact hdf,_,qT t2 t3,rfl,_,_,rfl,?_⟩
   rw[e2,xY (by decide),if_pos hlt,Nat.mod_eq_of_lt hlt]
   exact ⟨rfl,rfl⟩
  ·intro hge hsh A' t1 t2 t3
   refine ⟨rfl,rfl,by omega,by rw[t2,s2,r2,q2,p2];exact hdf,?_,0,t3,by omega⟩
   have:l3=[]:=List.eq_nil_of_length_eq_zero (by simp at hsh;omega)
   subst this
   rw[e2,xY (by decide),if_neg hge]
   rfl
  intro hge2 hlen3 A5 t1 t2 t3 t4 t5
  obtain ⟨b3,l4,rfl⟩:∃ b r,l3=b::r:=by
   cases l3 with
   | nil=>simp at hlen3
   | cons b r=>exact ⟨b,r,rfl⟩
  have hm2:b2.toNat % 128<128:=Nat.mod_lt _ (by decide)
  have e3:zf 0 0 (b0::b1::b2::b3::l4)=zf 3 (acc2+b2.toNat % 128*16384) (b3::l4):=by
   rw[e2,xY (by decide),if_neg hge2]
  generalize hA3:acc2+b2.toNat % 128*16384=acc3 at *
  have ha3:acc3<2097152:=by omega
  refine uv_acc (t:=57) (i:=3) (mm:=2097152) (sh:=21) (l:=b0::b1::b2::b3::l4) (b:=b3) (acc:=acc3) H hu zH (by decide) rfl rfl ha3 (by decide) t3 hc rfl t4 t5 ?_
  intro A6 u1 u2 u3 u4 u5
  refine uv_test (t:=65) (i:=3) (l:=b0::b1::b2::b3::l4) (b:=b3) H zH (by decide) u3 hc rfl u4 u5 ?_ ?_ ?_
  ·intro hlt A' x1 x2 x3
   refine ⟨by rw[x1,u2,t2,s2,r2,q2,p2];exact hdf,_,qT x2 x3,rfl,_,_,rfl,?_⟩
   rw[e3,xY (by decide),if_pos hlt,Nat.mod_eq_of_lt hlt]
   exact ⟨rfl,rfl⟩
  ·intro hge hsh A' x1 x2 x3
   refine ⟨rfl,rfl,by omega,by rw[x2,u2,t2,s2,r2,q2,p2];exact hdf,?_,0,x3,by omega⟩
   have:l4=[]:=List.eq_nil_of_length_eq_zero (by simp at hsh;omega)
   subst this
   rw[e3,xY (by decide),if_neg hge]
   rfl
  intro hge3 hlen4 A7 x1 x2 x3 x4 x5
  obtain ⟨b4,l5,rfl⟩:∃ b r,l4=b::r:=by
   cases l4 with
   | nil=>simp at hlen4
   | cons b r=>exact ⟨b,r,rfl⟩
  have hm3:b3.toNat % 128<128:=Nat.mod_lt _ (by decide)
  have hb4:=b4.toNat_lt
  have e4:zf 0 0 (b0::b1::b2::b3::b4::l5)=zf 4 (acc3+b3.toNat % 128*2097152) (b4::l5):=by
   rw[e3,xY (by decide),if_neg hge3]
  generalize hA4:acc3+b3.toNat % 128*2097152=acc4 at *
  have ha4:acc4<268435456:=by omega
  have hd2:A7.defers=[]:=by rw[x2,u2,t2,s2,r2,q2,p2];exact hdf
  have hz2:A7.tmps.size=87:=by omega
  have hle:(b0::b1::b2::b3::b4::l5).length<=cap:=hcap
  refine vX (rM (rM ?_))
  refine qH (k:=.i64) (j:=4) (b:=q) (o:=o) (len:=(b0::b1::b2::b3::b4::l5).length) (cap:=cap) hsl zA rfl hlen4 ?_
  refine rL (b:=q) (o:=o+4*1) (v:=bv b4) zE H.oU8 (hc 4 _ rfl) ?_
  refine zy (K:=4294967296) (n:=b4.toNat) H.u8 hu (by decide) zM hb4 ?_
  refine r_shl (k:=.u32) (m:=(b4.toNat:Int)) (k':=.u64) (n:=28) zE rfl (by decide) ?_
  have hw:IntKind.u32.wrap ((b4.toNat:Int)*2 ^ (min (28:Int).toNat IntKind.u32.bits))=((b4.toNat % 16*268435456:Nat):Int):=by
   rw[show (2:Int) ^ (min (28:Int).toNat IntKind.u32.bits)=268435456 by decide,kc]
   omega
  rw[hw]
  refine yn (k:=.u32) (m:=acc4) (n:=b4.toNat % 16*268435456) (v:=acc4+b4.toNat % 16*268435456) (K:=4294967296) (by decide) zA zE (jj 28 (by decide) ha4) zH zH ?_
  refine rA (dn (vS (vX (rM ?_))))
  refine qH (k:=.i64) (j:=4) (b:=q) (o:=o) (len:=(b0::b1::b2::b3::b4::l5).length) (cap:=cap) hsl zA rfl hlen4 ?_
  refine rL (b:=q) (o:=o+4*1) (v:=bv b4) zE H.oU8 (hc 4 _ rfl) ?_
  refine ww (k:=.u8) (m:=(b4.toNat:Int)) (n:=15) zM rfl ?_
  refine dn ?_
  refine vS (vC (t:=decide ((b4.toNat:Int)<=15)) zE ?_ ?_)
  ·intro h15
   have h15':b4.toNat<=15:=by simp at h15;omega
   refine vX (rM (rA (rA (dn (vS (vT ?_))))))
   refine ⟨by simp only[dF];exact hd2,.tuple #[.int .u32 ((acc4+b4.toNat % 16*268435456:Nat):Int),.int .i64 5],qT zE zE,rfl,_,_,rfl,?_⟩
   rw[e4,uvDec_four,if_pos h15',Nat.mod_eq_of_lt zH]
   exact ⟨rfl,rfl⟩
  ·intro h15
   have h15':¬ b4.toNat<=15:=by simp at h15;omega
   refine vK (vN (vX (rA (dn ?_))))
   refine vS (vc_label ?_)
   refine vX (rM (rA (rA (dn (vS (vT ?_))))))
   refine ⟨by simp only[dF];exact hd2,.tuple #[.int .u32 0,.int .i64 (-5)],qT zE zE,rfl,_,_,rfl,?_⟩
   rw[e4,uvDec_four,if_neg h15']
   exact ⟨rfl,by omega⟩
 ·rintro a w ⟨rfl,hz2,hd2,hnone,m,h5,hm⟩
  refine vS (c:=.skip) (r:=[(rg [(qM 86 5 E.tI),
     (oQ 2 (.assign (.const (.int .u32 0))) E.tW),
     (qA 3 86 E.tI)]),.ret]) ?_
  refine vK (vX (rM (rA (rA (dn (vS (vT ?_)))))))
  refine ⟨by simp only[dF];exact hd2,.tuple #[.int .u32 0,.int .i64 m],qT zE zA,rfl,_,_,rfl,?_⟩
  rw[hnone]
  exact ⟨rfl,hm⟩
def qt (l:Int) (st:RSt):List UInt8 × RSt:=if (st.1.length:Int)<l\/l<0 then ([],[],true) else (st.1.take l.toNat,st.1.drop l.toNat,st.2)
theorem k_rUvar (H:REnv P E) (hu:qu P E.tW=some .u32) (hk:Text P E.kUv 1 87 #[.tmp 2,.tmp 3] (c_kUv E)) (ht:Text P E.rUvar 1 31 #[.tmp 2] (c_rUvar E)) {st:RSt} (hr:RdS W rb sb st):
  RdC P E.rUvar rb sb (qp st).2 (.int .u32 ((qp st).1:Int)) W:=by
 refine qa.enter ht zS ?_
 intro a hsz hdf harg
 have e0:=harg 0 (.pointer (some ⟨rb,0,none⟩)) zS
 obtain ⟨v,hc,hsv⟩:=hr.cells
 unfold c_rUvar
 refine vX (rA (dn (vX (rM ?_))))
 refine xe (ad:=⟨rb,0,none⟩) zA ?_
 refine rF (b:=rb) (o:=0) zE H.f0 ?_
 refine rL (b:=rb) (o:=0+0) (v:=v) zE H.oBytes (hc 0 v rfl) ?_
 refine q8 (args:=#[v]) ?_ (k_uv H hu hk hsv) ?_
 ·simp only[lM]
  exact zE
 rintro x w' ⟨rfl,va,n,rfl,hres⟩
 refine rM ?_
 refine ql (vs:=#[.int .u32 va,.int .i64 n]) (v:=.int .u32 va) zE rfl ?_
 refine ql (vs:=#[.int .u32 va,.int .i64 n]) (v:=.int .i64 n) zE rfl ?_
 refine rA (rA (dn (vS (vX (rM ?_)))))
 refine ww (k:=.i64) (m:=n) (n:=0) zE rfl ?_
 refine dn ?_
 cases hd:zf 0 0 st.1 with
 | none =>
  rw[hd] at hres
  simp only at hres
  obtain ⟨rfl,hn⟩:=hres
  have e:qp st=(0,[],true):=by simp[qp,hd]
  rw[e]
  refine vS (vC (t:=true) ?_ ?_ (fun h=>by cases h))
  ·simp (disch:=(try simp only[sP]);omega) only[eV]
   simp only[Value.bool.injEq,decide_eq_true_eq]
   omega
  intro _
  refine gB (t:=15) (X:=2) (zv:=.int .u32 0) H (by simp only[zP];omega) (by simp only[zP];omega) (by decide) (by decide) rfl zA hr ?_
  intro A' W' h1 h2 h3 h4
  exact ⟨by rw[h1];simp only[dF];exact hdf,_,rO h2,rfl,h3,h4,fun h=>by cases h⟩
 | some p =>
  obtain ⟨val,k⟩:=p
  rw[hd] at hres
  simp only at hres
  obtain ⟨rfl,rfl⟩:=hres
  have hlt:=uvDec_lt st.1 0 0 val k (by decide) (by decide) hd
  have e:qp st=(val,st.1.drop k,st.2):=by simp[qp,hd]
  rw[e]
  refine vS (vC (t:=false) ?_ (fun h=>by cases h) ?_)
  ·simp (disch:=(try simp only[sP]);omega) only[eV]
   simp only[Value.bool.injEq,decide_eq_false_iff_not]
   omega
  intro _
  refine vK (vN (vX ?_))
  refine r_skipT (t:=21) (x:=4) (n:=k) (kk:=.i64) H (by simp only[zP];omega) (by decide) (by decide) zH zE zA hr ?_
  intro A2 W2 p1 p2 p3 p4 p5 p6
  simp only[zP,dF] at p1 p2
  refine dn ?_
  have h3:A2.eval (.tmp 3)=.int .u32 (val:Int):=by
   rw[p3 3 zH]
   exact zE
  refine vX (rM (rA (dn (vS (vT ?_)))))
  exact ⟨by simp only[dF];rw[p2];exact hdf,.int .u32 (val:Int),rO zA,rfl,p4,p5,fun _=>p6 (.inl zH)⟩
theorem k_rSpan (H:REnv P E) (ht:Text P E.rSpan 2 40 #[.tmp 4] (c_rSpan E)) {st:RSt} {l:Int} (hr:RdS W rb sb st):
  qa P E.rSpan #[.pointer (some ⟨rb,0,none⟩),.int .i64 l] W fun x w'=>je w' sb x (qt l st).1/\RdS w' rb sb (qt l st).2/\Eff (RM rb) W w'/\(NN W rb->(qt l st).2.2=false->NN w' rb/\∃ a n c,x=.slice (some a) n c):=by
 refine qa.enter ht zS ?_
 intro a hsz hdf harg
 have e0:=harg 0 (.pointer (some ⟨rb,0,none⟩)) zS
 have e1:=harg 1 (.int .i64 l) zS
 obtain ⟨v,hc,hsv⟩:=hr.cells
 obtain ⟨ad,cap,hv,hcap⟩:=hsv.form
 have hsl:=rB H.row
 unfold c_rSpan
 refine vX (rA (dn ?_))
 refine vS (vS (yF [0,1,2,3,4,5,6,7,8,9,10] rfl ?_))
 (refine rD rfl (wN rfl) ?_;refine rM ?_;refine dn (rT ?_))
 refine rD rfl (wN rfl) (xe (ad:=⟨rb,0,none⟩) zA (dn (rT ?_)))
 refine rD rfl (wN rfl) (rF (b:=rb) (o:=0) zE H.f0 (dn (rT ?_)))
 refine rD rfl (wN rfl) (rL (b:=rb) (o:=0+0) (v:=v) zE H.oBytes (hc 0 v rfl) (dn (rT ?_)))
 refine rD rfl (wN rfl) (xh (ad:=ad) (n:=st.1.length) (c:=cap) hsl zA (dn (rT ?_)))
 (refine rD rfl (wN rfl) ?_;refine rM ?_;refine dn (rT ?_))
 refine rD rfl (wN rfl) (xm (k:=.i64) (m:=(st.1.length:Int)) (n:=l) zE zA (dn (rT ?_)))
 have short:∀ A:Act,A.tmps.size=40->A.defers=[]->A.eval (.tmp 0)=.pointer (some ⟨rb,0,none⟩)->((st.1.length:Int)<l\/l<0)->∀ Q:Exit->Act->World->Prop,(∀ A' W',Out P #[.tmp 4] (fun x w'=>je w' sb x (qt l st).1/\RdS w' rb sb (qt l st).2/\Eff (RM rb) W w'/\(NN W rb->(qt l st).2.2=false->NN w' rb/\∃ a n c,x=.slice (some a) n c)) .ret A' W'->Q .ret A' W') →
   vc P (sq [(rg [(qM 17 0 E.tPRd),
      (oQ 18 (.nilCheck (.tmp 17)) 0),
      (qF 19 E.tRd 18 1),
      ⟨none,.store E.tO (.tmp 19) (.const (.bool true)),0,"",#[],none⟩]),
     (rg [(qM 20 0 E.tPRd),
      (oQ 21 (.nilCheck (.tmp 20)) 0),
      (qF 22 E.tRd 21 0),
      ⟨none,.store E.tB (.tmp 22) (.const (.slice none 0 0)),0,"",#[],none⟩]),
     (rg [(oQ 4 (.assign (.const (.slice none 0 0))) E.tB)]),
     .ret]) Q A W:=by
  intro A hs hd h0 hcond Q hQ
  refine gB (t:=17) (X:=4) (zv:=.slice none 0 0) H zH zH (by decide) (by decide) rfl h0 hr ?_
  intro A' W' h1 h2 h3 h4
  have e:qt l st=([],[],true):=by unfold qt;rw[if_pos hcond]
  rw[e] at hQ
  exact hQ _ _ ⟨by rw[h1];exact hd,_,rO h2,.inl ⟨rfl,rfl⟩,h3,h4,fun _ h=>by cases h⟩
 by_cases h1:(st.1.length:Int)<l
 ·rw[show decide ((st.1.length:Int)<l)=true by simpa using h1]
  (refine rD rfl (wN rfl) ?_;refine rM ?_;refine dn (rT ?_))
  (refine x7 rfl (by rw[wS (b:=true) rfl rfl zM];rfl) ?_)
  (refine x7 rfl (by rw[wS (b:=true) rfl rfl zM];rfl) ?_)
  refine rD rfl (wN rfl) (xf zE (dn (rT ?_)))
  refine qx ?_
  refine vS (vC (t:=true) zE ?_ (fun h=>by cases h))
  intro _
  exact short _ (by simp only[zP];exact hsz) (by simp only[dF];exact hdf) zA (.inl h1) _ (fun _ _ h=>h)
 ·rw[show decide ((st.1.length:Int)<l)=false by simpa using h1]
  (refine rD rfl (wN rfl) ?_;refine rM ?_;refine dn (rT ?_))
  refine rD rfl (by rw[wS (b:=false) rfl rfl zM];rfl) (rM (dn (rT ?_)))
  refine rD rfl (by rw[wS (b:=false) rfl rfl zM];rfl) (xm (k:=.i64) (m:=l) (n:=0) zA rfl (dn (rT ?_)))
  refine rD rfl (wN rfl) (xE zE (dn (rT ?_)))
  refine qx ?_
  refine vS (vC (t:=decide (l<0)) zE ?_ ?_)
  ·intro h2
   exact short _ (by simp only[zP];exact hsz) (by simp only[dF];exact hdf) zA (.inr (by simpa using h2)) _ (fun _ _ h=>h)
  ·intro h2
   have h2':¬ l<0:=by simpa using h2
   obtain ⟨n,rfl⟩:∃ n:Nat,l=(n:Int):=⟨l.toNat,by omega⟩
   have hn:n<=st.1.length:=by omega
   have e:qt (n:Int) st=(st.1.take n,st.1.drop n,st.2):=by
    unfold qt
    rw[if_neg zH]
    simp
   rw[e]
   refine vK (vN (vX (rM ?_)))
   refine xe (ad:=⟨rb,0,none⟩) zA ?_
   refine rF (b:=rb) (o:=0) zE H.f0 ?_
   refine rL (b:=rb) (o:=0+0) (v:=v) zE H.oBytes (hc 0 v rfl) ?_
   refine rM (rM ?_)
   refine kC (ad:=ad) (len:=st.1.length) (cap:=cap) 0 n n hsl zA rfl ⟨.i64,zA⟩ ⟨.i64,zA⟩ (Nat.zero_le _) (Nat.le_refl _) zH ?_
   refine rA (dn ?_)
   generalize hsp:Value.slice (if n=0 then ad else ad.map (·.add (0*1))) (n-0) (n-0)=sp
   have hspV:∀ W',W'.heap[sb]? = W.heap[sb]?->je W' sb sp (st.1.take n):=by
    intro W' hk
    have hsv':=hsv.heap hk
    rcases hsv' with ⟨h3,h4⟩ | ⟨o,c,h3,h4,h5⟩
    ·have:n=0:=by rw[h4] at hn;simpa using hn
     subst this
     rw[h3] at hv
     simp only[Value.slice.injEq] at hv
     obtain ⟨rfl,_⟩:=hv
     exact .inl ⟨by rw[← hsp];rfl,by simp⟩
    ·rw[h3] at hv
     simp only[Value.slice.injEq,true_and] at hv
     obtain ⟨rfl,rfl⟩:=hv
     refine .inr ⟨o,n,?_,by rw[List.length_take];omega,?_⟩
     ·rw[← hsp,List.length_take,Nat.min_eq_left hn]
      simp[Addr.add_lit]
     ·rw[List.map_take]
      exact h5.take n
   refine vX ?_
   refine r_skipT (t:=30) (x:=1) (n:=n) (kk:=.i64) H (by simp only[zP];omega) (by decide) (by decide) hn zA zA hr ?_
   intro A2 W2 p1 p2 p3 p4 p5 p6
   simp only[zP,dF] at p1 p2
   refine dn ?_
   have h3:A2.eval (.tmp 5)=sp:=by
    rw[p3 5 zH]
    exact zE
   refine vX (rM (rA (dn (vS (vT ?_)))))
   refine ⟨by simp only[dF];rw[p2];exact hdf,sp,rO zA,hspV W2 ?_,p4,p5,fun hN _=>⟨p6 (.inr hN),?_⟩⟩
   ·exact p5.blockEq hr.lt (fun i h=>hr.ne h.1.symm)
   ·obtain ⟨a1,n1,c1,y1,hcn⟩:=hN
    have e1:=hc 0 v rfl
    have e2:=hcn 0 _ rfl
    rw[e1] at e2
    simp only[Option.some.injEq] at e2
    rw[hv] at e2
    simp only[Value.slice.injEq] at e2
    obtain ⟨rfl,_⟩:=e2
    rw[← hsp]
    split
    ·exact ⟨_,_,_,rfl⟩
    ·exact ⟨_,_,_,rfl⟩
theorem gz {st:RSt} (h:(rdN k st).2.2=false):st.2=false:=by
 unfold rdN at h
 split at h
 ·cases h
 ·exact h
theorem zJ {st:RSt} (h:(qp st).2.2=false):st.2=false:=by
 unfold qp at h
 split at h
 ·cases h
 ·exact h
theorem qZ {l:Int} {st:RSt} (h:(qt l st).2.2=false):st.2=false:=by
 unfold qt at h
 split at h
 ·cases h
 ·exact h
def wM (st:RSt):Int × RSt:=(sgn 2 (rdN 2 st).1,(rdN 2 st).2)
def jR (st:RSt):Int × RSt:=(sgn 4 (rdN 4 st).1,(rdN 4 st).2)
def j5 (st:RSt):Int × RSt:=(((qp st).1:Int)-1,(qp st).2)
def zT (p:Int × RSt):List UInt8 × RSt:=qt p.1 p.2
def x6 (p:Int × RSt):Option (List UInt8) × RSt:=if p.1<0 then (none,p.2) else (some (qt p.1 p.2).1,(qt p.1 p.2).2)
def xX (p:Int × RSt):Option (List UInt8) × RSt:=if p.1 = -1 then (some [],p.2) else (some (qt p.1 p.2).1,(qt p.1 p.2).2)
def zo (p:Int × RSt):Int × RSt:=if (p.2.1.length:Int)<p.1 then (0,[],true) else p
def rdC4 (st:RSt):Int × RSt:=zo (jR st)
def rdCc (st:RSt):Int × RSt:=zo (IntKind.i32.wrap (IntKind.i32.wrap ((qp st).1:Int)-1),(qp st).2)
abbrev CI16 (P:Program) (E:Env):Prop:=∀ (rb sb:Nat) (st:RSt) (W:World),RdS W rb sb st->RdC P E.rI16 rb sb (rdN 2 st).2 (.int .i16 (sgn 2 (rdN 2 st).1)) W
abbrev CI32 (P:Program) (E:Env):Prop:=∀ (rb sb:Nat) (st:RSt) (W:World),RdS W rb sb st->RdC P E.rI32 rb sb (rdN 4 st).2 (.int .i32 (sgn 4 (rdN 4 st).1)) W
abbrev CUv (P:Program) (E:Env):Prop:=∀ (rb sb:Nat) (st:RSt) (W:World),RdS W rb sb st->RdC P E.rUvar rb sb (qp st).2 (.int .u32 ((qp st).1:Int)) W
abbrev vb (P:Program) (E:Env):Prop:=∀ (rb sb:Nat) (st:RSt) (l:Int) (W:World),RdS W rb sb st->qa P E.rSpan #[.pointer (some ⟨rb,0,none⟩),.int .i64 l] W fun x w'=>je w' sb x (qt l st).1/\RdS w' rb sb (qt l st).2/\Eff (RM rb) W w'/\(NN W rb->(qt l st).2.2=false->NN w' rb/\∃ a n c,x=.slice (some a) n c)
def OctV (W:World) (sb B:Nat) (v:Value):Option (List UInt8)->Prop
 | none=>v=.slice none 0 0
 | some l=>∃ q o cap,v=.slice (some ⟨q,o,none⟩) l.length cap/\(q=sb\/B<=q)/\qb W q o (l.map bv)/\q<W.heap.size
theorem je.octV (h:je W sb v l) (hs:sb<W.heap.size):∃ o,OctV W sb B v o/\((∃ a n c,v=.slice (some a) n c)->o=some l):=by
 rcases h with ⟨rfl,rfl⟩ | ⟨o,c,rfl,_,h⟩
 ·exact ⟨none,rfl,fun ⟨_,_,_,h⟩=>by cases h⟩
 ·exact ⟨some l,⟨sb,o,c,rfl,.inl rfl,h,hs⟩,fun _=>rfl⟩
theorem kH {d s t x ty p af g e v sb} (hB:xo P s e 1=true) (he:qu P e=some .u8) (ht:strB P t=true) (hx:a.eval x=v) (hv:je w sb v l) (h:rO_ P Q r (a.put (some d) (.string ⟨l.toArray⟩)) w):
  rO_ P Q (⟨some d,.convert s t x,ty,p,af,g⟩::r) a w:=by
 refine st ?_
 obtain ⟨hu,_⟩:=xW hB
 have he':P.underlying e=some (.int .u8):=by
  unfold qu at he
  split at he
  ·simp_all
  ·cases he
 have hr:(convert s t (a.eval x)).run P w=.ok (.string ⟨l.toArray⟩) w:=by
  rw[hx]
  rcases hv with ⟨rfl,rfl⟩ | ⟨o,cap,rfl,_,hc⟩
  ·exact Go.Lib.run_convert_nil_bytes w s t e 0 hu he' (kP ht)
  ·refine run_convert_bytes_back w s t e ⟨sb,o,none⟩ cap l hu he' (kP ht) (fun j hj=>?_)
   rw[Addr.add_lit]
   exact hc j _ (by rw[List.getElem?_map,List.getElem?_eq_getElem hj];rfl)
 simp only[Oper.wp,execOp,Sem.run_bind,hr,Sem.run_pure,Result.andThen_ok,Oper.upon_value]
 exact h
section
variable {st : RSt}
theorem k_rI8 (H:REnv P E) (hi:qu P E.tI8=some .i8) (ht:Text P E.rI8 1 32 #[.tmp 2] (c_rI8 E)) (hr:RdS W rb sb st):RdC P E.rI8 rb sb (rdN 1 st).2 (.int .i8 (sgn 1 (rdN 1 st).1)) W:=by
 refine qa.enter ht zS ?_
 intro a hsz hdf harg
 have e0:=harg 0 (.pointer (some ⟨rb,0,none⟩)) zS
 unfold c_rI8
 refine kG (k:=1) (zv:=.int .i8 0) H zH rfl e0 hr ?_ ?_
 ·intro hlt A' W' h1 h2 h3 h4
  have:rdN 1 st=(0,[],true):=by simp[rdN,hlt]
  rw[this]
  exact ⟨by rw[h1];exact hdf,_,rO h2,rfl,h3,h4,fun h=>by cases h⟩
 ·intro hle A h1 h2 h3
  obtain ⟨v,o,cap,hc,hv,hcap,hcs⟩:=yx (k:=1) H (by decide) hr hle
  obtain ⟨l0,bad⟩:=st
  simp only at hle hv hcap hcs
  obtain ⟨b0,l,rfl⟩:∃ (b0:UInt8) (l:List UInt8),l0=b0::l:=by
   cases l0 with
   | nil=>simp at hle
   | cons b r=>exact ⟨b,r,rfl⟩
  have hN:rdN 1 (b0::l,bad)=(b0.toNat,l,bad):=by
   simp only[rdN]
   rw[if_neg (by simp only[List.length_cons];omega)]
   simp[beN]
  rw[hN]
  refine vX (rM ?_)
  refine xe (ad:=⟨rb,0,none⟩) zA ?_
  refine rF (b:=rb) (o:=0) zE H.f0 ?_
  refine rL (b:=rb) (o:=0+0) (v:=v) zE H.oBytes (hc 0 v rfl) ?_
  refine qH (k:=.i64) (j:=0) (b:=sb) (o:=o) (len:=(b0::l).length) (cap:=cap) (rB H.row) zA rfl hle ?_
  refine rL (b:=sb) (o:=o+0*1) (v:=bv b0) zE H.oU8 (hcs 0 _ rfl) ?_
  refine rA (dn (vX ?_))
  refine vZ (t:=22) (n:=1) H (by simp only[zP];omega) (by decide) zS zA hr ?_
  intro A2 W2 p1 p2 p3 p4 p5 p6
  simp only[zP,dF] at p1 p2
  refine dn ?_
  have hv3:A2.eval (.tmp 3)=.int .u8 (b0.toNat:Int):=by
   rw[p3 3 zH]
   simp (disch:=(try simp only[sP]);omega) only[eV]
   rfl
  refine vX (rM ?_)
  refine qY (k:=.u8) (k':=.i8) (m:=(b0.toNat:Int)) H.u8 hi zA ?_
  refine rA (dn (vS (vT ?_)))
  exact ⟨by simp only[dF];rw[p2,h2];exact hdf,.int .i8 (IntKind.i8.wrap (b0.toNat:Int)),rO zE,by rw[sgn1 b0.toNat_lt],by simpa using p4,p5,fun _=>p6 (.inl (by decide))⟩
theorem k_rBool (H:REnv P E) (ht:Text P E.rBool 1 32 #[.tmp 2] (c_rBool E)) (hr:RdS W rb sb st):RdC P E.rBool rb sb (rdN 1 st).2 (.bool ((rdN 1 st).1 != 0)) W:=by
 refine qa.enter ht zS ?_
 intro a hsz hdf harg
 have e0:=harg 0 (.pointer (some ⟨rb,0,none⟩)) zS
 unfold c_rBool
 refine kG (k:=1) (zv:=.bool false) H zH rfl e0 hr ?_ ?_
 ·intro hlt A' W' h1 h2 h3 h4
  have:rdN 1 st=(0,[],true):=by simp[rdN,hlt]
  rw[this]
  exact ⟨by rw[h1];exact hdf,_,rO h2,rfl,h3,h4,fun h=>by cases h⟩
 ·intro hle A h1 h2 h3
  obtain ⟨v,o,cap,hc,hv,hcap,hcs⟩:=yx (k:=1) H (by decide) hr hle
  obtain ⟨l0,bad⟩:=st
  simp only at hle hv hcap hcs
  obtain ⟨b0,l,rfl⟩:∃ (b0:UInt8) (l:List UInt8),l0=b0::l:=by
   cases l0 with
   | nil=>simp at hle
   | cons b r=>exact ⟨b,r,rfl⟩
  have hN:rdN 1 (b0::l,bad)=(b0.toNat,l,bad):=by
   simp only[rdN]
   rw[if_neg (by simp only[List.length_cons];omega)]
   simp[beN]
  rw[hN]
  refine vX (rM ?_)
  refine xe (ad:=⟨rb,0,none⟩) zA ?_
  refine rF (b:=rb) (o:=0) zE H.f0 ?_
  refine rL (b:=rb) (o:=0+0) (v:=v) zE H.oBytes (hc 0 v rfl) ?_
  refine qH (k:=.i64) (j:=0) (b:=sb) (o:=o) (len:=(b0::l).length) (cap:=cap) (rB H.row) zA rfl hle ?_
  refine rL (b:=sb) (o:=o+0*1) (v:=bv b0) zE H.oU8 (hcs 0 _ rfl) ?_
  refine gC (k:=.u8) (m:=(b0.toNat:Int)) (n:=0) zM rfl ?_
  refine rA (dn (vX ?_))
  refine vZ (t:=23) (n:=1) H (by simp only[zP];omega) (by decide) zS zA hr ?_
  intro A2 W2 p1 p2 p3 p4 p5 p6
  simp only[zP,dF] at p1 p2
  refine dn ?_
  have hv3:A2.eval (.tmp 3)=.bool (b0.toNat != 0):=by
   rw[p3 3 zH]
   simp (disch:=(try simp only[sP]);omega) only[eV]
   simp only[Value.bool.injEq]
   by_cases h:b0.toNat=0
   ·rw[h];rfl
   ·have:((b0.toNat:Int) != 0)=true:=by simp[bne_iff_ne];omega
    rw[this]
    simp[bne_iff_ne,h]
  refine vX (rM (rA (dn (vS (vT ?_)))))
  exact ⟨by simp only[dF];rw[p2,h2];exact hdf,.bool (b0.toNat != 0),rO zA,rfl,by simpa using p4,p5,fun _=>p6 (.inl (by decide))⟩
theorem k_rI64 (hu:qu P E.tU64=some .u64) (hi:qu P E.tI64=some .i64) (h8:∀ (rb sb:Nat) (st:RSt) (W:World),RdS W rb sb st->RdC P E.rU64 rb sb (rdN 8 st).2 (.int .u64 ((rdN 8 st).1:Int)) W) (ht:Text P E.rI64 1 6 #[.tmp 2] (c_rI64 E)) (hr:RdS W rb sb st):
  RdC P E.rI64 rb sb (rdN 8 st).2 (.int .i64 (sgn 8 (rdN 8 st).1)) W:=by
 refine qa.enter ht zS ?_
 intro a hsz hdf harg
 have e0:=harg 0 (.pointer (some ⟨rb,0,none⟩)) zS
 unfold c_rI64
 refine vX (rA (dn (vX (rM ?_))))
 refine q8 (args:=#[.pointer (some ⟨rb,0,none⟩)]) ?_ (h8 rb sb st W hr) ?_
 ·simp only[lM]
  simp (disch:=(try simp only[sP]);omega) only[eV,e0]
 rintro v w' ⟨rfl,h1,h2,h3⟩
 refine qY (k:=.u64) (k':=.i64) (m:=((rdN 8 st).1:Int)) hu hi zE ?_
 refine rA (dn (vS (vT ?_)))
 exact ⟨by simp only[dF];exact hdf,.int .i64 (IntKind.i64.wrap ((rdN 8 st).1:Int)),rO zE,by rw[sgn8 (j4 8 st)],h1,h2,h3⟩
theorem k_rOk (H:REnv P E) (ht:Text P E.rOk 1 8 #[.tmp 2] (c_rOk E)) (hr:RdS W rb sb st):qa P E.rOk #[.pointer (some ⟨rb,0,none⟩)] W fun x w'=>x=.bool (!st.2)/\w'=W:=by
 refine qa.enter ht zS ?_
 intro a hsz hdf harg
 have e0:=harg 0 (.pointer (some ⟨rb,0,none⟩)) zS
 obtain ⟨v,hc,_⟩:=hr.cells
 unfold c_rOk
 refine vX (rA (dn (vX (rM ?_))))
 refine xe (ad:=⟨rb,0,none⟩) zA ?_
 refine rF (b:=rb) (o:=0) zE H.f1 ?_
 refine rL (b:=rb) (o:=0+1) (v:=.bool st.2) zE H.oBool (hc 1 _ rfl) ?_
 refine zG (b:=st.2) zE ?_
 refine rA (dn (vS (vT ?_)))
 exact ⟨by simp only[dF];exact hdf,.bool (!st.2),rO zE,rfl,rfl⟩
theorem k_rComplete (H:REnv P E) (oE:qW P E.tErr=true) (ht:Text P E.rComplete 1 8 #[.tmp 2] (vE E)) (hg:W.cell? ⟨E.vErr,0,none⟩=some ev) (hr:RdS W rb sb st):
  qa P E.rComplete #[.pointer (some ⟨rb,0,none⟩)] W fun x w'=>x=(if st.2 then ev else .nilIface)/\w'=W:=by
 refine qa.enter ht zS ?_
 intro a hsz hdf harg
 have e0:=harg 0 (.pointer (some ⟨rb,0,none⟩)) zS
 obtain ⟨v,hc,_⟩:=hr.cells
 unfold vE
 refine vX (rA (dn (vS (vX (rM ?_)))))
 refine xe (ad:=⟨rb,0,none⟩) zA ?_
 refine rF (b:=rb) (o:=0) zE H.f1 ?_
 refine rL (b:=rb) (o:=0+1) (v:=.bool st.2) zE H.oBool (hc 1 _ rfl) ?_
 refine dn ?_
 refine vS (vC (t:=st.2) zE ?_ ?_)
 ·intro h
  rw[h]
  refine vX ?_
  refine rL (b:=E.vErr) (o:=0) (v:=ev) rfl oE hg ?_
  refine rA (dn (vS (vT ?_)))
  exact ⟨by simp only[dF];exact hdf,ev,rO zE,rfl,rfl⟩
 ·intro h
  rw[h]
  refine vK (vN (vX (rA (dn (vS (vT ?_))))))
  exact ⟨by simp only[dF];exact hdf,.nilIface,rO zE,rfl,rfl⟩
end
section
variable {st : RSt}
theorem k_rStr (H:REnv P E) (i16:qu P E.tI16=some .i16) (hS:strB P E.tStr=true) (c16:CI16 P E) (cS:vb P E) (ht:Text P E.rStr 1 11 #[.tmp 2] (c_rStr E)) (hr:RdS W rb sb st):
  RdC P E.rStr rb sb (zT (wM st)).2 (.string ⟨(zT (wM st)).1.toArray⟩) W:=by
 refine qa.enter ht zS ?_
 intro a hsz hdf harg
 have e0:=harg 0 (.pointer (some ⟨rb,0,none⟩)) zS
 unfold c_rStr
 refine vX (rA (dn (vX (rM ?_))))
 refine q8 (args:=#[.pointer (some ⟨rb,0,none⟩)]) ?_ (c16 rb sb st W hr) ?_
 ·simp only[lM]
  simp (disch:=(try simp only[sP]);omega) only[eV,e0]
 rintro v w1 ⟨rfl,h1,h2,h3⟩
 refine rA (dn (vX (rM (rM ?_))))
 have hlt:-32768<=sgn 2 (rdN 2 st).1/\sgn 2 (rdN 2 st).1<=32767:=by
  have:=j4 2 st
  unfold sgn
  simp only[show (256:Nat) ^ 2=65536 by decide] at this
  have h4:(2:Nat) ^ (8*2-1)=32768:=by decide
  have h5:(2:Int) ^ (8*2)=65536:=by decide
  rw[h4,h5]
  split<;>omega
 refine qY (k:=.i16) (k':=.i64) (m:=sgn 2 (rdN 2 st).1) i16 H.int zE ?_
 rw[wrap_i64 zH zH]
 refine q8 (args:=#[.pointer (some ⟨rb,0,none⟩),.int .i64 (sgn 2 (rdN 2 st).1)]) ?_ (cS rb sb (rdN 2 st).2 (sgn 2 (rdN 2 st).1) w1 h1) ?_
 ·simp only[lM]
  simp (disch:=(try simp only[sP]);omega) only[eV,e0]
 rintro v w2 ⟨h4,h5,h6,h7⟩
 refine kH H.row H.u8 hS zE h4 ?_
 refine rA (dn (vS (vT ?_)))
 exact ⟨by simp only[dF];exact hdf,_,rO zM,rfl,h5,h2.trans h6,fun h=>(h7 (h3 (qZ h)) h).1⟩
theorem k_rCStr (H:REnv P E) (iu:qu P E.tW=some .u32) (hS:strB P E.tStr=true) (cU:CUv P E) (cS:vb P E) (ht:Text P E.rCStr 1 12 #[.tmp 2] (c_rCStr E)) (hlt:∀ st,(qp st).1<4294967296) (hr:RdS W rb sb st):
  RdC P E.rCStr rb sb (zT (j5 st)).2 (.string ⟨(zT (j5 st)).1.toArray⟩) W:=by
 refine qa.enter ht zS ?_
 intro a hsz hdf harg
 have e0:=harg 0 (.pointer (some ⟨rb,0,none⟩)) zS
 have hlt:=hlt st
 unfold c_rCStr
 refine vX (rA (dn (vX (rM ?_))))
 refine q8 (args:=#[.pointer (some ⟨rb,0,none⟩)]) ?_ (cU rb sb st W hr) ?_
 ·simp only[lM]
  simp (disch:=(try simp only[sP]);omega) only[eV,e0]
 rintro v w1 ⟨rfl,h1,h2,h3⟩
 refine qY (k:=.u32) (k':=.i64) (m:=((qp st).1:Int)) iu H.int zE ?_
 rw[wrap_i64 zH zH]
 refine yX (k:=.i64) (m:=((qp st).1:Int)) (n:=1) zE rfl ?_
 rw[wrap_i64 zH zH]
 refine rA (dn (vX (rM (rM ?_))))
 refine q8 (args:=#[.pointer (some ⟨rb,0,none⟩),.int .i64 (((qp st).1:Int)-1)]) ?_ (cS rb sb (qp st).2 (((qp st).1:Int)-1) w1 h1) ?_
 ·simp only[lM]
  simp (disch:=(try simp only[sP]);omega) only[eV,e0]
 rintro v w2 ⟨h4,h5,h6,h7⟩
 refine kH H.row H.u8 hS zE h4 ?_
 refine rA (dn (vS (vT ?_)))
 exact ⟨by simp only[dF];exact hdf,_,rO zM,rfl,h5,h2.trans h6,fun h=>(h7 (h3 (qZ h)) h).1⟩
def PStr (W':World) (B:Nat) (v:Value):Option (List UInt8)->Prop
 | none=>v=.pointer none
 | some l=>∃ q,v=.pointer (some ⟨q,0,none⟩)/\B<=q/\W'.cell? ⟨q,0,none⟩=some (.string ⟨l.toArray⟩)
theorem box_str {T:TypeId} (l:List UInt8) {z:Value} (hz:z.cells=#[z]):((w.alloc (.cells z.cells T)).setCell ⟨w.heap.size,0,none⟩ (.string ⟨l.toArray⟩)).cell? ⟨w.heap.size,0,none⟩=some (.string ⟨l.toArray⟩) :=
 qo _ (by rw[World.cell?_alloc_new,hz];rfl)
theorem vk (st:RSt):-32768<=sgn 2 (rdN 2 st).1/\sgn 2 (rdN 2 st).1<=32767:=by
 have:=j4 2 st
 unfold sgn
 simp only[show (256:Nat) ^ 2=65536 by decide] at this
 have h4:(2:Nat) ^ (8*2-1)=32768:=by decide
 have h5:(2:Int) ^ (8*2)=65536:=by decide
 rw[h4,h5]
 split<;>omega
theorem yl (st:RSt):-2147483648<=sgn 4 (rdN 4 st).1/\sgn 4 (rdN 4 st).1<=2147483647:=by
 have:=j4 4 st
 unfold sgn
 simp only[show (256:Nat) ^ 4=4294967296 by decide] at this
 have h4:(2:Nat) ^ (8*4-1)=2147483648:=by decide
 have h5:(2:Int) ^ (8*4)=4294967296:=by decide
 rw[h4,h5]
 split<;>omega
theorem zx (st:RSt):(qp st).1<4294967296:=by
 unfold qp
 split
 ·decide
 ·rename_i v n h
  exact (uvDec_lt st.1 0 0 v n (by decide) (by decide) h).1
theorem k_rNStr (H:REnv P E) (i16:qu P E.tI16=some .i16) (hS:strB P E.tStr=true) (oS:qW P E.tStr=true) {zs:Value} (hzs:qQ P E.tStr=some zs) (hz1:zs.cells=#[zs]) (c16:CI16 P E) (cS:vb P E) (ht:Text P E.rNStr 1 14 #[.tmp 2] (c_rNStr E)) (hr:RdS W rb sb st):
  qa P E.rNStr #[.pointer (some ⟨rb,0,none⟩)] W fun x w'=>PStr w' W.heap.size x (x6 (wM st)).1/\RdS w' rb sb (x6 (wM st)).2/\Eff (RM rb) W w'/\((x6 (wM st)).2.2=false->NN w' rb):=by
 refine qa.enter ht zS ?_
 intro a hsz hdf harg
 have e0:=harg 0 (.pointer (some ⟨rb,0,none⟩)) zS
 have hlt:=vk st
 unfold c_rNStr
 refine vX (rA (dn (vX (rM ?_))))
 refine q8 (args:=#[.pointer (some ⟨rb,0,none⟩)]) ?_ (c16 rb sb st W hr) ?_
 ·simp only[lM]
  simp (disch:=(try simp only[sP]);omega) only[eV,e0]
 rintro v w1 ⟨rfl,h1,h2,h3⟩
 refine rA (dn (vS (vX (rM ?_))))
 refine xm (k:=.i16) (m:=sgn 2 (rdN 2 st).1) (n:=0) zE rfl ?_
 refine dn ?_
 refine vS (vC (t:=decide (sgn 2 (rdN 2 st).1<0)) zE ?_ ?_)
 ·intro h
  have h':sgn 2 (rdN 2 st).1<0:=by simpa using h
  have e:x6 (wM st)=(none,(rdN 2 st).2):=by unfold x6 wM;rw[if_pos h']
  rw[e]
  refine vX (rA (dn (vS (vT ?_))))
  exact ⟨by simp only[dF];exact hdf,.pointer none,rO zE,rfl,h1,h2,h3⟩
 ·intro h
  have h':¬ sgn 2 (rdN 2 st).1<0:=by simpa using h
  have e:x6 (wM st)=(some (qt (sgn 2 (rdN 2 st).1) (rdN 2 st).2).1,(qt (sgn 2 (rdN 2 st).1) (rdN 2 st).2).2):=by unfold x6 wM;rw[if_neg h']
  rw[e]
  refine vK (vN (vX (rM (rM ?_))))
  refine qY (k:=.i16) (k':=.i64) (m:=sgn 2 (rdN 2 st).1) i16 H.int zE ?_
  rw[wrap_i64 zH zH]
  refine q8 (args:=#[.pointer (some ⟨rb,0,none⟩),.int .i64 (sgn 2 (rdN 2 st).1)]) ?_ (cS rb sb (rdN 2 st).2 (sgn 2 (rdN 2 st).1) w1 h1) ?_
  ·simp only[lM]
   simp (disch:=(try simp only[sP]);omega) only[eV,e0]
  rintro v w2 ⟨h4,h5,h6,h7⟩
  have hmono:(qt (sgn 2 (rdN 2 st).1) (rdN 2 st).2).2.2=false->(rdN 2 st).2.2=false:=qZ
  generalize qt (sgn 2 (rdN 2 st).1) (rdN 2 st).2=p at *
  refine kH H.row H.u8 hS zE h4 ?_
  refine qR hzs ?_
  refine xC (b:=w2.heap.size) (o:=0) (v:=.string ⟨p.1.toArray⟩) zE zE rfl oS (qq w2 _ _ (by rw[hz1];simp)) ?_
  refine dn ?_
  have hb:Below w2.heap.size w2 ((w2.alloc (.cells zs.cells E.tStr)).setCell ⟨w2.heap.size,0,none⟩ (.string ⟨p.1.toArray⟩)):=((Below.refl w2.heap.size w2).alloc (o:=.cells _ _) (Nat.le_refl _)).setCell (p:=⟨w2.heap.size,0,none⟩) (Nat.le_refl _) _
  have hcs:=box_str (w:=w2) (T:=E.tStr) p.1 hz1
  refine vX (rA (dn (vS (vT ?_))))
  have hW2:W.heap.size<=w2.heap.size:=Nat.le_trans h2.size h6.size
  exact ⟨by simp only[dF];exact hdf,.pointer (some ⟨w2.heap.size,0,none⟩),rO zE,⟨_,rfl,hW2,hcs⟩,h5.below hb h5.rb_lt h5.lt,(h2.trans h6).trans (Eff.of_below hb),fun h=>((h7 (h3 (hmono h)) h).1).below hb h5.rb_lt⟩
theorem k_rCNStr (H:REnv P E) (iu:qu P E.tW=some .u32) (hS:strB P E.tStr=true) (oS:qW P E.tStr=true) {zs:Value} (hzs:qQ P E.tStr=some zs) (hz1:zs.cells=#[zs]) (cU:CUv P E) (cS:vb P E) (ht:Text P E.rCNStr 1 15 #[.tmp 2] (c_rCNStr E)) (hr:RdS W rb sb st):
  qa P E.rCNStr #[.pointer (some ⟨rb,0,none⟩)] W fun x w'=>PStr w' W.heap.size x (x6 (j5 st)).1/\RdS w' rb sb (x6 (j5 st)).2/\Eff (RM rb) W w'/\((x6 (j5 st)).2.2=false->NN w' rb):=by
 refine qa.enter ht zS ?_
 intro a hsz hdf harg
 have e0:=harg 0 (.pointer (some ⟨rb,0,none⟩)) zS
 have hlt:=zx st
 unfold c_rCNStr
 refine vX (rA (dn (vX (rM ?_))))
 refine q8 (args:=#[.pointer (some ⟨rb,0,none⟩)]) ?_ (cU rb sb st W hr) ?_
 ·simp only[lM]
  simp (disch:=(try simp only[sP]);omega) only[eV,e0]
 rintro v w1 ⟨rfl,h1,h2,h3⟩
 refine qY (k:=.u32) (k':=.i64) (m:=((qp st).1:Int)) iu H.int zE ?_
 rw[wrap_i64 zH zH]
 refine yX (k:=.i64) (m:=((qp st).1:Int)) (n:=1) zE rfl ?_
 rw[wrap_i64 zH zH]
 refine rA (dn (vS (vX (rM ?_))))
 refine xm (k:=.i64) (m:=((qp st).1:Int)-1) (n:=0) zE rfl ?_
 refine dn ?_
 refine vS (vC (t:=decide (((qp st).1:Int)-1<0)) zE ?_ ?_)
 ·intro h
  have h':((qp st).1:Int)-1<0:=by simpa using h
  have e:x6 (j5 st)=(none,(qp st).2):=by unfold x6 j5;rw[if_pos h']
  rw[e]
  refine vX (rA (dn (vS (vT ?_))))
  exact ⟨by simp only[dF];exact hdf,.pointer none,rO zE,rfl,h1,h2,h3⟩
 ·intro h
  have h':¬ ((qp st).1:Int)-1<0:=by simpa using h
  have e:x6 (j5 st)=(some (qt (((qp st).1:Int)-1) (qp st).2).1,(qt (((qp st).1:Int)-1) (qp st).2).2):=by unfold x6 j5;rw[if_neg h']
  rw[e]
  refine vK (vN (vX (rM (rM ?_))))
  refine q8 (args:=#[.pointer (some ⟨rb,0,none⟩),.int .i64 (((qp st).1:Int)-1)]) ?_ (cS rb sb (qp st).2 (((qp st).1:Int)-1) w1 h1) ?_
  ·simp only[lM]
   simp (disch:=(try simp only[sP]);omega) only[eV,e0]
  rintro v w2 ⟨h4,h5,h6,h7⟩
  have hmono:(qt (((qp st).1:Int)-1) (qp st).2).2.2=false->(qp st).2.2=false:=qZ
  generalize qt (((qp st).1:Int)-1) (qp st).2=p at *
  refine kH H.row H.u8 hS zE h4 ?_
  refine qR hzs ?_
  refine xC (b:=w2.heap.size) (o:=0) (v:=.string ⟨p.1.toArray⟩) zE zE rfl oS (qq w2 _ _ (by rw[hz1];simp)) ?_
  refine dn ?_
  have hb:Below w2.heap.size w2 ((w2.alloc (.cells zs.cells E.tStr)).setCell ⟨w2.heap.size,0,none⟩ (.string ⟨p.1.toArray⟩)):=((Below.refl w2.heap.size w2).alloc (o:=.cells _ _) (Nat.le_refl _)).setCell (p:=⟨w2.heap.size,0,none⟩) (Nat.le_refl _) _
  have hcs:=box_str (w:=w2) (T:=E.tStr) p.1 hz1
  refine vX (rA (dn (vS (vT ?_))))
  have hW2:W.heap.size<=w2.heap.size:=Nat.le_trans h2.size h6.size
  exact ⟨by simp only[dF];exact hdf,.pointer (some ⟨w2.heap.size,0,none⟩),rO zE,⟨_,rfl,hW2,hcs⟩,h5.below hb h5.rb_lt h5.lt,(h2.trans h6).trans (Eff.of_below hb),fun h=>((h7 (h3 (hmono h)) h).1).below hb h5.rb_lt⟩
end
theorem jY {d t ty p af g e s} (hB:xo P t e s=true) (h:rO_ P Q r (a.put (some d) (.slice (some ⟨w.heap.size,0,none⟩) 0 0)) (w.alloc (.cells #[] e))):
  rO_ P Q (⟨some d,.buildSlice t 0 #[],ty,p,af,g⟩::r) a w:=by
 refine st ?_
 obtain ⟨hu,i,z,hi,hsz,hs0,hz,hzs,_⟩:=xW hB
 have hr:(Instr.buildSlice t 0 (#[].map fun (x:Nat × Operand)=>(x.1,a.eval x.2))).run P w=.ok (.slice (some ⟨w.heap.size,0,none⟩) 0 0) (w.alloc (.cells #[] e)):=by
  simp[Instr.buildSlice,run_underlying hu,ju (rB hB),Instr.fill,run_newRow']
  rw[show (Array.map (fun _=>default) (Array.range 0):Array Value)=#[] by simp[Array.range]]
 simp only[Oper.wp,execOp,Sem.run_bind,hr,Sem.run_pure,Result.andThen_ok,Oper.upon_value]
 exact h
section
variable {st : RSt}
theorem k_rBytes (H:REnv P E) (i32:qu P E.tI32=some .i32) (c32:CI32 P E) (cS:vb P E) (ht:Text P E.rBytes 1 13 #[.tmp 2] (c_rBytes E)) (hr:RdS W rb sb st):
  qa P E.rBytes #[.pointer (some ⟨rb,0,none⟩)] W fun x w'=>(∃ o,OctV w' sb W.heap.size x o/\((xX (jR st)).2.2=false->o=(xX (jR st)).1))/\RdS w' rb sb (xX (jR st)).2/\Eff (RM rb) W w'/\((xX (jR st)).2.2=false->NN w' rb):=by
 refine qa.enter ht zS ?_
 intro a hsz hdf harg
 have e0:=harg 0 (.pointer (some ⟨rb,0,none⟩)) zS
 have hlt:=yl st
 unfold c_rBytes
 refine vX (rA (dn (vX (rM ?_))))
 refine q8 (args:=#[.pointer (some ⟨rb,0,none⟩)]) ?_ (c32 rb sb st W hr) ?_
 ·simp only[lM]
  simp (disch:=(try simp only[sP]);omega) only[eV,e0]
 rintro v w1 ⟨rfl,h1,h2,h3⟩
 refine rA (dn (vS (vX (rM ?_))))
 refine xG (k:=.i32) (m:=(sgn 4 (rdN 4 st).1)) (n:=-1) zE rfl ?_
 refine dn ?_
 refine vS (vC (t:=((sgn 4 (rdN 4 st).1) == -1)) zE ?_ ?_)
 ·intro h
  have h':(sgn 4 (rdN 4 st).1) = -1:=by simpa using h
  have e:xX (jR st)=(some [],(rdN 4 st).2):=by unfold xX jR;rw[if_pos h']
  rw[e]
  refine vX ?_
  refine jY H.row ?_
  refine rA (dn ?_)
  have hb:Below w1.heap.size w1 (w1.alloc (.cells #[] E.tU8)):=(Below.refl w1.heap.size w1).alloc (o:=.cells _ _) (Nat.le_refl _)
  refine vS (vT ?_)
  exact ⟨by simp only[dF];exact hdf,.slice (some ⟨w1.heap.size,0,none⟩) 0 0,rO zE,⟨some [],⟨w1.heap.size,0,0,rfl,.inr h2.size,qb.nil _ _ _,by simp⟩,fun _=>rfl⟩,h1.below hb h1.rb_lt h1.lt,h2.trans (Eff.of_below hb),fun h=>(h3 h).below hb h1.rb_lt⟩
 ·intro h
  have h':¬ (sgn 4 (rdN 4 st).1) = -1:=by simpa using h
  have e:xX (jR st)=(some (qt (sgn 4 (rdN 4 st).1) (rdN 4 st).2).1,(qt (sgn 4 (rdN 4 st).1) (rdN 4 st).2).2):=by unfold xX jR;rw[if_neg h']
  rw[e]
  refine vK (vN (vX (rM (rM ?_))))
  refine qY (k:=.i32) (k':=.i64) (m:=(sgn 4 (rdN 4 st).1)) i32 H.int zE ?_
  rw[wrap_i64 zH zH]
  refine q8 (args:=#[.pointer (some ⟨rb,0,none⟩),.int .i64 (sgn 4 (rdN 4 st).1)]) ?_ (cS rb sb (rdN 4 st).2 (sgn 4 (rdN 4 st).1) w1 h1) ?_
  ·simp only[lM]
   simp (disch:=(try simp only[sP]);omega) only[eV,e0]
  rintro v w2 ⟨h4,h5,h6,h7⟩
  have hmono:(qt (sgn 4 (rdN 4 st).1) (rdN 4 st).2).2.2=false->(rdN 4 st).2.2=false:=qZ
  generalize qt (sgn 4 (rdN 4 st).1) (rdN 4 st).2=p at *
  refine rA (dn (vS (vT ?_)))
  obtain ⟨oo,ho1,ho2⟩:=h4.octV (B:=W.heap.size) h5.lt
  exact ⟨by simp only[dF];exact hdf,v,rO zE,⟨oo,ho1,fun h=>ho2 (h7 (h3 (hmono h)) h).2⟩,h5,h2.trans h6,fun h=>(h7 (h3 (hmono h)) h).1⟩
theorem k_rCBytes (H:REnv P E) (iu:qu P E.tW=some .u32) (cU:CUv P E) (cS:vb P E) (ht:Text P E.rCBytes 1 14 #[.tmp 2] (c_rCBytes E)) (hr:RdS W rb sb st):
  qa P E.rCBytes #[.pointer (some ⟨rb,0,none⟩)] W fun x w'=>(∃ o,OctV w' sb W.heap.size x o/\((xX (j5 st)).2.2=false->o=(xX (j5 st)).1))/\RdS w' rb sb (xX (j5 st)).2/\Eff (RM rb) W w'/\((xX (j5 st)).2.2=false->NN w' rb):=by
 refine qa.enter ht zS ?_
 intro a hsz hdf harg
 have e0:=harg 0 (.pointer (some ⟨rb,0,none⟩)) zS
 have hlt:=zx st
 unfold c_rCBytes
 refine vX (rA (dn (vX (rM ?_))))
 refine q8 (args:=#[.pointer (some ⟨rb,0,none⟩)]) ?_ (cU rb sb st W hr) ?_
 ·simp only[lM]
  simp (disch:=(try simp only[sP]);omega) only[eV,e0]
 rintro v w1 ⟨rfl,h1,h2,h3⟩
 refine qY (k:=.u32) (k':=.i64) (m:=((qp st).1:Int)) iu H.int zE ?_
 rw[wrap_i64 zH zH]
 refine yX (k:=.i64) (m:=((qp st).1:Int)) (n:=1) zE rfl ?_
 rw[wrap_i64 zH zH]
 refine rA (dn (vS (vX (rM ?_))))
 refine xG (k:=.i64) (m:=((((qp st).1:Nat):Int)-1)) (n:=-1) zE rfl ?_
 refine dn ?_
 refine vS (vC (t:=(((((qp st).1:Nat):Int)-1) == -1)) zE ?_ ?_)
 ·intro h
  have h':((((qp st).1:Nat):Int)-1) = -1:=by simpa using h
  have e:xX (j5 st)=(some [],(qp st).2):=by unfold xX j5;rw[if_pos h']
  rw[e]
  refine vX ?_
  refine jY H.row ?_
  refine rA (dn ?_)
  have hb:Below w1.heap.size w1 (w1.alloc (.cells #[] E.tU8)):=(Below.refl w1.heap.size w1).alloc (o:=.cells _ _) (Nat.le_refl _)
  refine vS (vT ?_)
  exact ⟨by simp only[dF];exact hdf,.slice (some ⟨w1.heap.size,0,none⟩) 0 0,rO zE,⟨some [],⟨w1.heap.size,0,0,rfl,.inr h2.size,qb.nil _ _ _,by simp⟩,fun _=>rfl⟩,h1.below hb h1.rb_lt h1.lt,h2.trans (Eff.of_below hb),fun h=>(h3 h).below hb h1.rb_lt⟩
 ·intro h
  have h':¬ ((((qp st).1:Nat):Int)-1) = -1:=by simpa using h
  have e:xX (j5 st)=(some (qt ((((qp st).1:Nat):Int)-1) (qp st).2).1,(qt ((((qp st).1:Nat):Int)-1) (qp st).2).2):=by unfold xX j5;rw[if_neg h']
  rw[e]
  refine vK (vN (vX (rM (rM ?_))))
  refine q8 (args:=#[.pointer (some ⟨rb,0,none⟩),.int .i64 ((((qp st).1:Nat):Int)-1)]) ?_ (cS rb sb (qp st).2 ((((qp st).1:Nat):Int)-1) w1 h1) ?_
  ·simp only[lM]
   simp (disch:=(try simp only[sP]);omega) only[eV,e0]
  rintro v w2 ⟨h4,h5,h6,h7⟩
  have hmono:(qt ((((qp st).1:Nat):Int)-1) (qp st).2).2.2=false->(qp st).2.2=false:=qZ
  generalize qt ((((qp st).1:Nat):Int)-1) (qp st).2=p at *
  refine rA (dn (vS (vT ?_)))
  obtain ⟨oo,ho1,ho2⟩:=h4.octV (B:=W.heap.size) h5.lt
  exact ⟨by simp only[dF];exact hdf,v,rO zE,⟨oo,ho1,fun h=>ho2 (h7 (h3 (hmono h)) h).2⟩,h5,h2.trans h6,fun h=>(h7 (h3 (hmono h)) h).1⟩
theorem k_rNBytes (H:REnv P E) (i32:qu P E.tI32=some .i32) (c32:CI32 P E) (cS:vb P E) (ht:Text P E.rNBytes 1 14 #[.tmp 2] (c_rNBytes E)) (hr:RdS W rb sb st):
  qa P E.rNBytes #[.pointer (some ⟨rb,0,none⟩)] W fun x w'=>(∃ o,OctV w' sb W.heap.size x o/\((x6 (jR st)).2.2=false->o=(x6 (jR st)).1))/\RdS w' rb sb (x6 (jR st)).2/\Eff (RM rb) W w'/\((x6 (jR st)).2.2=false->NN w' rb):=by
 refine qa.enter ht zS ?_
 intro a hsz hdf harg
 have e0:=harg 0 (.pointer (some ⟨rb,0,none⟩)) zS
 have hlt:=yl st
 unfold c_rNBytes
 refine vX (rA (dn (vX (rM ?_))))
 refine q8 (args:=#[.pointer (some ⟨rb,0,none⟩)]) ?_ (c32 rb sb st W hr) ?_
 ·simp only[lM]
  simp (disch:=(try simp only[sP]);omega) only[eV,e0]
 rintro v w1 ⟨rfl,h1,h2,h3⟩
 refine rA (dn (vS (vX (rM ?_))))
 refine xm (k:=.i32) (m:=(sgn 4 (rdN 4 st).1)) (n:=0) zE rfl ?_
 refine dn ?_
 refine vS (vC (t:=decide ((sgn 4 (rdN 4 st).1)<0)) zE ?_ ?_)
 ·intro h
  have h':(sgn 4 (rdN 4 st).1)<0:=by simpa using h
  have e:x6 (jR st)=(none,(rdN 4 st).2):=by unfold x6 jR;rw[if_pos h']
  rw[e]
  refine vX (rA (dn (vS (vT ?_))))
  exact ⟨by simp only[dF];exact hdf,.slice none 0 0,rO zE,⟨none,rfl,fun _=>rfl⟩,h1,h2,h3⟩
 ·intro h
  have h':¬ (sgn 4 (rdN 4 st).1)<0:=by simpa using h
  have e:x6 (jR st)=(some (qt (sgn 4 (rdN 4 st).1) (rdN 4 st).2).1,(qt (sgn 4 (rdN 4 st).1) (rdN 4 st).2).2):=by unfold x6 jR;rw[if_neg h']
  rw[e]
  refine vK (vN (vX (rM (rM ?_))))
  refine qY (k:=.i32) (k':=.i64) (m:=(sgn 4 (rdN 4 st).1)) i32 H.int zE ?_
  rw[wrap_i64 zH zH]
  refine q8 (args:=#[.pointer (some ⟨rb,0,none⟩),.int .i64 (sgn 4 (rdN 4 st).1)]) ?_ (cS rb sb (rdN 4 st).2 (sgn 4 (rdN 4 st).1) w1 h1) ?_
  ·simp only[lM]
   simp (disch:=(try simp only[sP]);omega) only[eV,e0]
  rintro v w2 ⟨h4,h5,h6,h7⟩
  have hmono:(qt (sgn 4 (rdN 4 st).1) (rdN 4 st).2).2.2=false->(rdN 4 st).2.2=false:=qZ
  generalize qt (sgn 4 (rdN 4 st).1) (rdN 4 st).2=p at *
  refine rA (dn (vX (rM (rA (dn (vS (vT ?_)))))))
  obtain ⟨oo,ho1,ho2⟩:=h4.octV (B:=W.heap.size) h5.lt
  exact ⟨by simp only[dF];exact hdf,v,rO zE,⟨oo,ho1,fun h=>ho2 (h7 (h3 (hmono h)) h).2⟩,h5,h2.trans h6,fun h=>(h7 (h3 (hmono h)) h).1⟩
theorem k_rCNBytes (H:REnv P E) (iu:qu P E.tW=some .u32) (cU:CUv P E) (cS:vb P E) (ht:Text P E.rCNBytes 1 15 #[.tmp 2] (wZ E)) (hr:RdS W rb sb st):
  qa P E.rCNBytes #[.pointer (some ⟨rb,0,none⟩)] W fun x w'=>(∃ o,OctV w' sb W.heap.size x o/\((x6 (j5 st)).2.2=false->o=(x6 (j5 st)).1))/\RdS w' rb sb (x6 (j5 st)).2/\Eff (RM rb) W w'/\((x6 (j5 st)).2.2=false->NN w' rb):=by
 refine qa.enter ht zS ?_
 intro a hsz hdf harg
 have e0:=harg 0 (.pointer (some ⟨rb,0,none⟩)) zS
 have hlt:=zx st
 unfold wZ
 refine vX (rA (dn (vX (rM ?_))))
 refine q8 (args:=#[.pointer (some ⟨rb,0,none⟩)]) ?_ (cU rb sb st W hr) ?_
 ·simp only[lM]
  simp (disch:=(try simp only[sP]);omega) only[eV,e0]
 rintro v w1 ⟨rfl,h1,h2,h3⟩
 refine qY (k:=.u32) (k':=.i64) (m:=((qp st).1:Int)) iu H.int zE ?_
 rw[wrap_i64 zH zH]
 refine yX (k:=.i64) (m:=((qp st).1:Int)) (n:=1) zE rfl ?_
 rw[wrap_i64 zH zH]
 refine rA (dn (vS (vX (rM ?_))))
 refine xm (k:=.i64) (m:=((((qp st).1:Nat):Int)-1)) (n:=0) zE rfl ?_
 refine dn ?_
 refine vS (vC (t:=decide (((((qp st).1:Nat):Int)-1)<0)) zE ?_ ?_)
 ·intro h
  have h':((((qp st).1:Nat):Int)-1)<0:=by simpa using h
  have e:x6 (j5 st)=(none,(qp st).2):=by unfold x6 j5;rw[if_pos h']
  rw[e]
  refine vX (rA (dn (vS (vT ?_))))
  exact ⟨by simp only[dF];exact hdf,.slice none 0 0,rO zE,⟨none,rfl,fun _=>rfl⟩,h1,h2,h3⟩
 ·intro h
  have h':¬ ((((qp st).1:Nat):Int)-1)<0:=by simpa using h
  have e:x6 (j5 st)=(some (qt ((((qp st).1:Nat):Int)-1) (qp st).2).1,(qt ((((qp st).1:Nat):Int)-1) (qp st).2).2):=by unfold x6 j5;rw[if_neg h']
  rw[e]
  refine vK (vN (vX (rM (rM ?_))))
  refine q8 (args:=#[.pointer (some ⟨rb,0,none⟩),.int .i64 ((((qp st).1:Nat):Int)-1)]) ?_ (cS rb sb (qp st).2 ((((qp st).1:Nat):Int)-1) w1 h1) ?_
  ·simp only[lM]
   simp (disch:=(try simp only[sP]);omega) only[eV,e0]
  rintro v w2 ⟨h4,h5,h6,h7⟩
  have hmono:(qt ((((qp st).1:Nat):Int)-1) (qp st).2).2.2=false->(qp st).2.2=false:=qZ
  generalize qt ((((qp st).1:Nat):Int)-1) (qp st).2=p at *
  refine rA (dn (vX (rM (rA (dn (vS (vT ?_)))))))
  obtain ⟨oo,ho1,ho2⟩:=h4.octV (B:=W.heap.size) h5.lt
  exact ⟨by simp only[dF];exact hdf,v,rO zE,⟨oo,ho1,fun h=>ho2 (h7 (h3 (hmono h)) h).2⟩,h5,h2.trans h6,fun h=>(h7 (h3 (hmono h)) h).1⟩
theorem wrap_i32_rng (n:Int):-2147483648<=IntKind.i32.wrap n/\IntKind.i32.wrap n<=2147483647:=by
 have h2:(2:Int) ^ 32=4294967296:=by decide
 have h3:(2:Int) ^ (32-1)=2147483648:=by decide
 simp only[IntKind.wrap,IntKind.bits,IntKind.signed,Bool.true_and,decide_eq_true_eq,h2,h3]
 split<;>omega
theorem k_rLen (H:REnv P E) (i32:qu P E.tI32=some .i32) (c32:CI32 P E) (ht:Text P E.rLen 1 21 #[.tmp 2] (c_rLen E)) (hr:RdS W rb sb st):
  RdC P E.rLen rb sb (rdC4 st).2 (.int .i32 (rdC4 st).1) W:=by
 refine qa.enter ht zS ?_
 intro a hsz hdf harg
 have e0:=harg 0 (.pointer (some ⟨rb,0,none⟩)) zS
 unfold c_rLen
 refine vX (rA (dn (vX (rM ?_))))
 refine q8 (args:=#[.pointer (some ⟨rb,0,none⟩)]) ?_ (c32 rb sb st W hr) ?_
 ·simp only[lM]
  simp (disch:=(try simp only[sP]);omega) only[eV,e0]
 rintro v w1 ⟨rfl,h1,h2,h3⟩
 have hrng:=yl st
 refine rA (dn ?_)
 have eR:rdC4 st=if ((rdN 4 st).2.1.length:Int)<(sgn 4 (rdN 4 st).1) then (0,[],true) else ((sgn 4 (rdN 4 st).1),(rdN 4 st).2):=rfl
 refine vS (vX ?_)
 refine r_srcLen (t:=6) H (by simp only[zP];omega) (by decide) zA h1 ?_
 intro A1 a1 a2 a3 a4
 simp only[zP,dF] at a1 a2
 have b0:A1.eval (.tmp 0)=.pointer (some ⟨rb,0,none⟩):=by rw[a3 0 zH];exact zA
 have b3:A1.eval (.tmp 3)=.int .i32 (sgn 4 (rdN 4 st).1):=by rw[a3 3 zH];exact zE
 have a4':A1.eval (.tmp 10)=.int .i64 ((rdN 4 st).2.1.length:Int):=a4
 refine rM ?_
 refine qY (k:=.i32) (k':=.i64) (m:=(sgn 4 (rdN 4 st).1)) i32 H.int zA ?_
 rw[wrap_i64 zH zH]
 refine xm (k:=.i64) (m:=((rdN 4 st).2.1.length:Int)) (n:=(sgn 4 (rdN 4 st).1)) zA zE ?_
 refine dn ?_
 refine vS (vC (t:=decide (((rdN 4 st).2.1.length:Int)<(sgn 4 (rdN 4 st).1))) zE ?_ ?_)
 ·intro h
  have h':((rdN 4 st).2.1.length:Int)<(sgn 4 (rdN 4 st).1):=by simpa using h
  rw[eR,if_pos h']
  refine gB (t:=14) (X:=2) (zv:=.int .i32 0) H (by simp only[zP];omega) (by simp only[zP];omega) (by decide) (by decide) rfl zA h1 ?_
  intro A' W' p1 p2 p3 p4
  exact ⟨by rw[p1];simp only[dF];rw[a2];exact hdf,_,rO p2,rfl,p3,h2.trans p4,fun h=>by cases h⟩
 ·intro h
  have h':¬ ((rdN 4 st).2.1.length:Int)<(sgn 4 (rdN 4 st).1):=by simpa using h
  rw[eR,if_neg h']
  refine vK (vN (vX (rM (rA (dn (vS (vT ?_)))))))
  exact ⟨by simp only[dF];rw[a2];exact hdf,.int .i32 (sgn 4 (rdN 4 st).1),rO zA,rfl,h1,h2,h3⟩
theorem k_rCLen (H:REnv P E) (iu:qu P E.tW=some .u32) (i32:qu P E.tI32=some .i32) (cU:CUv P E) (ht:Text P E.rCLen 1 23 #[.tmp 2] (c_rCLen E)) (hr:RdS W rb sb st):
  RdC P E.rCLen rb sb (rdCc st).2 (.int .i32 (rdCc st).1) W:=by
 refine qa.enter ht zS ?_
 intro a hsz hdf harg
 have e0:=harg 0 (.pointer (some ⟨rb,0,none⟩)) zS
 unfold c_rCLen
 refine vX (rA (dn (vX (rM ?_))))
 refine q8 (args:=#[.pointer (some ⟨rb,0,none⟩)]) ?_ (cU rb sb st W hr) ?_
 ·simp only[lM]
  simp (disch:=(try simp only[sP]);omega) only[eV,e0]
 rintro v w1 ⟨rfl,h1,h2,h3⟩
 refine qY (k:=.u32) (k':=.i32) (m:=((qp st).1:Int)) iu i32 zE ?_
 refine yX (k:=.i32) (m:=IntKind.i32.wrap ((qp st).1:Int)) (n:=1) zE rfl ?_
 have hrng:=wrap_i32_rng (IntKind.i32.wrap ((qp st).1:Int)-1)
 refine rA (dn ?_)
 have eR:rdCc st=if ((qp st).2.1.length:Int)<(IntKind.i32.wrap (IntKind.i32.wrap ((qp st).1:Int)-1)) then (0,[],true) else ((IntKind.i32.wrap (IntKind.i32.wrap ((qp st).1:Int)-1)),(qp st).2):=rfl
 refine vS (vX ?_)
 refine r_srcLen (t:=8) H (by simp only[zP];omega) (by decide) zA h1 ?_
 intro A1 a1 a2 a3 a4
 simp only[zP,dF] at a1 a2
 have b0:A1.eval (.tmp 0)=.pointer (some ⟨rb,0,none⟩):=by rw[a3 0 zH];exact zA
 have b3:A1.eval (.tmp 3)=.int .i32 (IntKind.i32.wrap (IntKind.i32.wrap ((qp st).1:Int)-1)):=by rw[a3 3 zH];exact zE
 have a4':A1.eval (.tmp 12)=.int .i64 ((qp st).2.1.length:Int):=a4
 refine rM ?_
 refine qY (k:=.i32) (k':=.i64) (m:=(IntKind.i32.wrap (IntKind.i32.wrap ((qp st).1:Int)-1))) i32 H.int zA ?_
 rw[wrap_i64 zH zH]
 refine xm (k:=.i64) (m:=((qp st).2.1.length:Int)) (n:=(IntKind.i32.wrap (IntKind.i32.wrap ((qp st).1:Int)-1))) zA zE ?_
 refine dn ?_
 refine vS (vC (t:=decide (((qp st).2.1.length:Int)<(IntKind.i32.wrap (IntKind.i32.wrap ((qp st).1:Int)-1)))) zE ?_ ?_)
 ·intro h
  have h':((qp st).2.1.length:Int)<(IntKind.i32.wrap (IntKind.i32.wrap ((qp st).1:Int)-1)):=by simpa using h
  rw[eR,if_pos h']
  refine gB (t:=16) (X:=2) (zv:=.int .i32 0) H (by simp only[zP];omega) (by simp only[zP];omega) (by decide) (by decide) rfl zA h1 ?_
  intro A' W' p1 p2 p3 p4
  exact ⟨by rw[p1];simp only[dF];rw[a2];exact hdf,_,rO p2,rfl,p3,h2.trans p4,fun h=>by cases h⟩
 ·intro h
  have h':¬ ((qp st).2.1.length:Int)<(IntKind.i32.wrap (IntKind.i32.wrap ((qp st).1:Int)-1)):=by simpa using h
  rw[eR,if_neg h']
  refine vK (vN (vX (rM (rA (dn (vS (vT ?_)))))))
  exact ⟨by simp only[dF];rw[a2];exact hdf,.int .i32 (IntKind.i32.wrap (IntKind.i32.wrap ((qp st).1:Int)-1)),rO zA,rfl,h1,h2,h3⟩
end
end
def Trs.toL:Trs->List Tr
 | .nil=>[]
 | .cons t r=>t::r.toL
def z7 (kind:Int) (pt:Tr->List UInt8) (nl fx:Bool) (t:Tr):List UInt8 :=
 match t with
 | .mk n s _ _ _ =>
  if kind=0 then [o8 (n % 2)]
  else if kind=7 then s.take 16++List.replicate (16-s.length) 0
  else if kind=8 then (let s':=if nl then [] else s.take 32767;cnt fx nl s'.length 2++s')
  else if kind=9 then (let s':=if nl then [] else s.take 32767;cnt fx nl s'.length 4++s')
  else if kind=10 then pt t
  else be (xJ kind.toNat) n
def kA (n:Nat) (b:List UInt8):List UInt8:=Go.Km.uvar n++Go.Km.uvar b.length++b
def zL (x:Nat × List UInt8):List (Nat × List UInt8)->List (Nat × List UInt8)
 | []=>[x]
 | y::r=>if y.1<x.1 then y::zL x r else if y.1=x.1 then y::r else x::y::r
def unk (least:Nat) (u:List (Nat × List UInt8)):List (Nat × List UInt8) :=
 (u.take 32767).foldl (fun l x=>if x.1<least then l else zL x l) []
abbrev Rec:=Int × Bool × Bool × List UInt8
def known (l:List Int):Nat:=l.foldl (fun n t=>if 0<=t then max n (t.toNat+1) else n) 0
def y5 (fx:Bool) (rs:List Rec) (u:List (Nat × List UInt8)):List UInt8 :=
 let out:=(rs.map fun r=>if r.1<0&&r.2.1 then r.2.2.2 else []).flatten
 if fx then
  let kn:=known (rs.map (·.1))
  let tg:=(List.range kn).flatMap fun (k:Nat)=>rs.filterMap fun r=>if decide (r.1=((k:Nat):Int)) && !r.2.2.1 then some ((k:Nat),r.2.2.2) else none
  let un:=(unk kn u).map fun x=>(x.1,x.2.take 32767)
  out++Go.Km.uvar (tg.length+un.length)++((tg++un).map fun x=>kA x.1 x.2).flatten
 else out
def SFs.tags:SFs->List Int
 | .nil=>[]
 | .cons (.mk _ _ _ _ tag _ _ _) r=>tag::r.tags
mutual
def SF.usual:SF->Tr->Bool
 | .mk kind _ _ nul _ df _ sub,t =>
  match t with
  | .mk n s nl l u =>
   if kind=0 then n % 2==df
   else if kind=7 then (s.take 16).all (·==0)
   else if kind=8||kind=9 then (if nul ≥ 0 then nl else s.isEmpty)
   else if kind=11 then l.len==0
   else if kind=10 then sub.usual 0 (.mk n s nl l u)&&(unk (known sub.tags) u).isEmpty
   else be (xJ kind.toNat) n==be (xJ kind.toNat) df
def SFs.usual:SFs->Nat->Tr->Bool
 | .nil,_,_=>true
 | .cons f r,i,t=>f.usual (t.at i)&&r.usual (i+1) t
end
mutual
def SF.wr (v:Int) (fx:Bool):SF->Tr->List UInt8
 | .mk kind fr to nul tag df el sub,t =>
  let nl:=(SF.mk kind fr to nul tag df el sub).isNull v t
  let pt:Tr->List UInt8:=fun t=>y5 fx (sub.recs v fx 0 t) (match t with | .mk _ _ _ _ u=>u)
  if kind=11 then
   let l:=if nl then [] else (match t with | .mk _ _ _ l _=>l.toL.take 32767)
   cnt fx nl l.length 4++(l.map fun t=>z7 el pt false fx t).flatten
  else if kind=10&&nul ≥ 0 then (if nl then be 1 (-1) else be 1 1++pt t)
  else z7 kind pt nl fx t
def SFs.recs (v:Int) (fx:Bool):SFs->Nat->Tr->List Rec
 | .nil,_,_=>[]
 | .cons f r,i,t=>((match f with | .mk _ _ _ _ tag _ _ _=>tag),f.has v,f.usual (t.at i),f.wr v fx (t.at i))::r.recs v fx (i+1) t
end
def SFs.part (v:Int) (fx:Bool) (fs:SFs) (t:Tr):List UInt8:=y5 fx (fs.recs v fx 0 t) (match t with | .mk _ _ _ _ u=>u)
mutual
def SF.one:SF->Tr
 | .mk kind _ _ nul _ df _ sub=>.mk df [] (decide (nul ≥ 0)) (if kind=10 then sub.ones else .nil) []
def SFs.ones:SFs->Trs
 | .nil=>.nil
 | .cons f r=>.cons f.one r.ones
end
def SFs.dflt (fs:SFs):Tr:=.mk 0 [] false fs.ones []
mutual
def Ty.dflt:Ty->D
 | .scal _ df | .named _ _ df=>.int df
 | .uuid=>.bytes (some (List.replicate 16 0))
 | .text=>.bytes (some [])
 | .ntext | .ntextFrom _=>.bytes none
 | .bytes | .nbytes=>.bytes none
 | .list _ _ _ | .nstruct _ _ _ _ _=>.list none
 | .struct _ _ _ fs=>.obj fs.dflt []
def Flds.dflt:Flds->List D
 | .nil _=>[]
 | .cons _ t r=>t.dflt::r.dflt
end
section
attribute [local irreducible] vc rO_ qz qP qJ
theorem gh (z:Array Value) (n j u:Nat) (hj:j<n) (hu:u<z.size):(Builtin.zeroCells z n)[j*z.size+u]? = z[u]?:=by
 have h:j*z.size+u<n*z.size:=by
  have:(j+1)*z.size<=n*z.size:=Nat.mul_le_mul_right _ hj
  rw[Nat.add_mul] at this
  omega
 have hm:(j*z.size+u) % z.size=u:=by rw[Nat.mul_comm,Nat.mul_add_mod];exact Nat.mod_eq_of_lt hu
 simp[Builtin.zeroCells,h,hm,hu]
theorem run_appendMake {t tx ty e k s z base} {c:Nat} (hB:xo P t e s=true) (hi:qu P tx=some k) (hz:qQ P e=some z) (h0:0<n) (hb:n<=big) (hc:c<n):
  (Builtin.append_ #[t,tx] ty #[.slice base 0 c,.int k (n:Int)]).run P w=.ok (.slice (some ⟨w.heap.size,0,none⟩) n (grownCap w n c e))
   (w.drew.alloc (.cells (Builtin.zeroCells z.cells n++Builtin.zeroCells z.cells (grownCap w n c e-n)) e)):=by
 obtain ⟨hu,i,z',hi',hsize,hs0,hz',hzs,hby⟩:=xW hB
 have hzz:i.zero=some z:=by
  unfold qQ at hz
  simpa [hi'] using hz
 have hk:=gN hi
 have hn0:¬ n=0:=by omega
 have hnc:¬ n<=c:=by omega
 have hw:IntKind.i64.wrap (n:Int)=(n:Int):=wrap_i64 zH (by unfold big at hb;omega)
 have hbytes:n*i.bytes<=140737488355328:=by
  refine Nat.le_trans (Nat.mul_le_mul hb hby) ?_
  unfold big
  omega
 have h48:¬ (281474976710656<(n:Int)*(i.bytes:Int)):=by
  have:(n:Int)*(i.bytes:Int)=((n*i.bytes:Nat):Int):=by simp
  omega
 have hg:=growslice_fits (need:=n) (old:=c) (bytes:=i.bytes) hc hbytes
 have hg':¬ (281474976710656<Builtin.nextslicecap n c*i.bytes):=by omega
 have h63:¬ (9223372036854775807<(n:Int)):=by unfold big at hb;omega
 have hneg:¬ ((n:Int)<0):=by omega
 have hcells:(Builtin.firstCells s 0 (.slice base 0 c)).run P w.drew=.ok #[] w.drew:=by
  cases base<;>simp[Builtin.firstCells,loadCells,loadCellsFrom]
 have hsn:¬ s=0:=by omega
 simp[Builtin.append_,run_underlying hu,run_underlying hk,sizeOf,typeInfo,zeroValue,hi',hzz,hsize,asInt,asIntOf,hw,hneg,h48,hn0,hnc,hsn,hg',h63,hcells,Question.forced,newRow,grownCap]
 intro hns
 have:0<n*s:=Nat.mul_pos h0 hs0
 omega
theorem run_appendRoom {t tx ty e k s z q} {c:Nat} (hB:xo P t e s=true) (hi:qu P tx=some k) (hz:qQ P e=some z) (h0:0<n) (hb:n<=big) (hc:n<=c) (hf:∀ i,i<n*s->qr w q i) (h1:∀ v ∈ z.cells.toList,v.oneCell'=true):
  (Builtin.append_ #[t,tx] ty #[.slice (some ⟨q,0,none⟩) 0 c,.int k (n:Int)]).run P w=.ok (.slice (some ⟨q,0,none⟩) n c) (setCells w q 0 (Builtin.zeroCells z.cells n).toList):=by
 obtain ⟨hu,i,z',hi',hsize,hs0,hz',hzs,hby⟩:=xW hB
 have hzz:i.zero=some z:=by
  unfold qQ at hz
  simpa [hi'] using hz
 have hzs':z.cells.size=s:=by
  rw[hzz] at hz'
  cases hz'
  exact hzs
 have hk:=gN hi
 have hn0:¬ n=0:=by omega
 have hw:IntKind.i64.wrap (n:Int)=(n:Int):=wrap_i64 zH (by unfold big at hb;omega)
 have hbytes:n*i.bytes<=140737488355328:=by
  refine Nat.le_trans (Nat.mul_le_mul hb hby) ?_
  unfold big
  omega
 have h48:¬ (281474976710656<(n:Int)*(i.bytes:Int)):=by
  have:(n:Int)*(i.bytes:Int)=((n*i.bytes:Nat):Int):=by simp
  omega
 have hneg:¬ ((n:Int)<0):=by omega
 have hsn:¬ s=0:=by omega
 have hlen:(Builtin.zeroCells z.cells n).toList.length=n*s:=by rw[Array.length_toList,size_zeroCells,hzs']
 have hr:=jB (P:=P) q (Builtin.zeroCells z.cells n).toList w 0 0 (fun j hj=>by rw[hlen] at hj;simpa using hf j hj) (by
  intro v hv
  obtain ⟨j,hj,rfl⟩:=List.getElem_of_mem hv
  have hj':j<n*z.cells.size:=by simpa [size_zeroCells] using hj
  have hm:j % z.cells.size<z.cells.size:=Nat.mod_lt _ zH
  have:(Builtin.zeroCells z.cells n).toList[j]=z.cells[j % z.cells.size]:=by simp[Builtin.zeroCells,hm]
  rw[this]
  exact h1 _ zS)
 simp only[Nat.zero_add] at hr
 have hns:¬ n*s=0:=by
  have:0<n*s:=Nat.mul_pos h0 hs0
  omega
 simp[Builtin.append_,run_underlying hu,run_underlying hk,sizeOf,typeInfo,zeroValue,hi',hzz,hsize,asInt,asIntOf,hw,hneg,h48,hn0,hsn,hc,Addr.add_lit,hr]
 exact fun h=>absurd h hns
theorem r_appendMake {d t tx s x ty p af g e sz k z base} {c:Nat} (hB:xo P t e sz=true) (hi:qu P tx=some k) (hz:qQ P e=some z) (hs:a.eval s=.slice base 0 c) (hx:a.eval x=.int k (n:Int)) (h0:0<n) (hb:n<=big) (ho:c≠0->(∀ v ∈ z.cells.toList,v.oneCell'=true)/\∃ q,base=some ⟨q,0,none⟩/\∀ i,i<c*sz->qr w q i) (h:∀ q cap w',Eff (fun k _=>c≠0/\base=some ⟨k,0,none⟩) w w'->(q=w.heap.size\/(c≠0/\base=some ⟨q,0,none⟩))->q<w'.heap.size->n<=cap->(∀ j,j<n->qb w' q (j*sz) z.cells.toList)->(∀ i,i<cap*sz->qr w' q i)->rO_ P Q r (a.put (some d) (.slice (some ⟨q,0,none⟩) n cap)) w'):
  rO_ P Q (⟨some d,.call { callee:=.builtin .append,args:=#[s,x],argTypes:=#[t,tx] },ty,p,af,g⟩::r) a w:=by
 refine st ?_
 obtain ⟨_,i,z',hi',hsize,hs0,hz',hzs,hby⟩:=xW hB
 have hzz:z.cells.size=sz:=by
  unfold qQ at hz
  simp only[hi',Option.bind_some] at hz
  rw[hz'] at hz
  cases hz
  exact hzs
 have hlt:∀ j u,j<n->u<z.cells.size->j*z.cells.size+u<n*z.cells.size:=by
  intro j u hj hus
  have:(j+1)*z.cells.size<=n*z.cells.size:=Nat.mul_le_mul_right _ hj
  rw[Nat.add_mul] at this
  omega
 have hat:∀ (u:Nat) (v:Value),z.cells.toList[u]? = some v->u<z.cells.size:=by
  intro u v hu
  rcases Nat.lt_or_ge u z.cells.size with h | h
  ·exact h
  ·rw[List.getElem?_eq_none (by simpa using h)] at hu;cases hu
 rcases Nat.lt_or_ge c n with hcn | hcn
 ·have hr:=run_appendMake (w:=w) (ty:=ty) (base:=base) hB hi hz h0 hb hcn
  simp only[Oper.wp,execOp,resolve,invoke,builtin,Sem.run_bind,Sem.run_pure,Result.andThen_ok,List.map_toArray,List.map_cons,List.map_nil,hs,hx,hr,Oper.upon_value]
  refine h _ _ _ ?_ (.inl rfl) zS (grownCap_ge w n c e) ?_ ?_
  ·exact Eff.of_below ((show Below w.heap.size w w.drew from ⟨rfl,rfl,rfl,Nat.le_refl _,fun _ _=>rfl⟩).alloc zS _)
  ·intro j hj u v hu
   have hus:=hat u v hu
   refine qm w.drew _ _ ?_
   rw[← hzz]
   rw[Array.getElem?_append_left (by rw[size_zeroCells];exact hlt j u hj hus),gh _ _ _ _ hj hus]
   simpa using hu
  ·intro i hi
   refine qq w.drew _ _ ?_
   rw[Array.size_append,size_zeroCells,size_zeroCells,hzz,← Nat.add_mul,Nat.add_sub_cancel' (grownCap_ge w n c e)]
   exact hi
 ·have hc0:c≠0:=by omega
  obtain ⟨h1,q,rfl,hf⟩:=ho hc0
  have hfn:∀ i,i<n*sz->qr w q i:=fun i hi=>hf i (by have:=Nat.mul_le_mul_right sz hcn;omega)
  have hr:=run_appendRoom (w:=w) (ty:=ty) hB hi hz h0 hb hcn hfn h1
  have hlen:(Builtin.zeroCells z.cells n).toList.length=n*sz:=by rw[Array.length_toList,size_zeroCells,hzz]
  have hE:=qe q (Builtin.zeroCells z.cells n).toList w 0
  simp only[Oper.wp,execOp,resolve,invoke,builtin,Sem.run_bind,Sem.run_pure,Result.andThen_ok,List.map_toArray,List.map_cons,List.map_nil,hs,hx,hr,Oper.upon_value]
  refine h q c _ (hE.mono (by rintro k i _ ⟨rfl,_⟩;exact ⟨hc0,rfl⟩)) (.inr ⟨hc0,rfl⟩) (Nat.lt_of_lt_of_le (hf 0 (Nat.mul_pos zH hs0)).lt hE.size) hcn ?_ (fun i hi=>(hf i hi).eff hE)
  intro j hj u v hu
  have hus:=hat u v hu
  rw[← hzz]
  have:=qg q (Builtin.zeroCells z.cells n).toList w 0 (fun i hi=>by rw[hlen] at hi;simpa using (hfn i hi).1) (j*z.cells.size+u) v (by rw[Array.getElem?_toList,gh _ _ _ _ hj hus];simpa using hu)
  simpa using this
def Scal.rd:Scal->RSt->Int × RSt
 | .bool,st=>(if (rdN 1 st).1 != 0 then 1 else 0,(rdN 1 st).2)
 | .i8,st=>(sgn 1 (rdN 1 st).1,(rdN 1 st).2)
 | .i16,st=>(sgn 2 (rdN 2 st).1,(rdN 2 st).2)
 | .u16,st=>((rdN 2 st).1,(rdN 2 st).2)
 | .i32,st=>(sgn 4 (rdN 4 st).1,(rdN 4 st).2)
 | .i64,st=>(sgn 8 (rdN 8 st).1,(rdN 8 st).2)
 | .f64,st=>((rdN 8 st).1,(rdN 8 st).2)
def xg (f:RSt->D × RSt):Nat->RSt->List D × RSt
 | 0,st=>([],st)
 | n+1,st=>((f st).1::(xg f n (f st).2).1,(xg f n (f st).2).2)
def xB (st:RSt):(Nat × List UInt8) × RSt :=
 let p:=qp st
 let q:=qp p.2
 let s:=qt (q.1:Int) q.2
 ((p.1,s.1),s.2)
def xc:Nat->List (Nat × List UInt8)->RSt->List (Nat × List UInt8) × RSt
 | 0,l,st=>(l,st)
 | n+1,l,st=>xc n (qs (xB st).1.1 (xB st).1.2 l) (xB st).2
def xS (st:RSt):List (Nat × List UInt8) × RSt:=xc (qp st).1 [] (qp st).2
def qI (ck:Nat->List UInt8->Bool):Nat->List (Nat × List UInt8)->RSt->List (Nat × List UInt8) × RSt
 | 0,l,st=>(l,st)
 | n+1,l,st=>qI ck n (qs (xB st).1.1 (xB st).1.2 l) ((xB st).2.1,(xB st).2.2 || !ck (xB st).1.1 (xB st).1.2)
def zX (ck:Nat->List UInt8->Bool) (st:RSt):List (Nat × List UInt8) × RSt:=qI ck (qp st).1 [] (qp st).2
def noK:Nat->List UInt8->Bool:=fun _ _=>true
theorem rdTagsNK_no:∀ (n:Nat) (l:List (Nat × List UInt8)) (st:RSt),qI noK n l st=xc n l st
 | 0,_,_=>rfl
 | n+1,l,st=>by simp only[qI,xc,noK,Bool.not_true,Bool.or_false];exact rdTagsNK_no n _ _
theorem rdTagsK_no (st:RSt):zX noK st=xS st:=rdTagsNK_no _ _ _
def Ver.ckT (v:Ver) (f:List UInt8->Bool) (ck:Nat->List UInt8->Bool):Nat->List UInt8->Bool :=
 match v with
 | .tag k _=>fun j p=>if j=k then f p else ck j p
 | _=>ck
def Ver.getT (v:Ver) (d:D) (f:List UInt8->D) (tags:List (Nat × List UInt8)):D :=
 match v with
 | .tag k _=>match tags.find? (fun x=>x.1==k) with
  | some x=>f x.2
  | none=>d
 | _=>d
def Ver.dropT (v:Ver) (tags:List (Nat × List UInt8)):List (Nat × List UInt8) :=
 match v with
 | .tag k _=>tags.filter fun x=>x.1 != k
 | _=>tags
theorem Ver.ckT_no {v:Ver} (h:v.isTag=false) (f:List UInt8->Bool) (ck:Nat->List UInt8->Bool):v.ckT f ck=ck:=by cases v<;>first | rfl | cases h
theorem Ver.getT_no {v:Ver} (h:v.isTag=false) (d:D) (f:List UInt8->D) (tags:List (Nat × List UInt8)):v.getT d f tags=d:=by cases v<;>first | rfl | cases h
theorem Ver.dropT_no {v:Ver} (h:v.isTag=false) (tags:List (Nat × List UInt8)):v.dropT tags=tags:=by cases v<;>first | rfl | cases h
def rdL (fx:Bool) (st:RSt):Int × RSt:=if fx then j5 st else wM st
def zi (fx:Bool) (st:RSt):Int × RSt:=if fx then j5 st else jR st
def xy (fx:Bool) (st:RSt):Int × RSt:=if fx then rdCc st else rdC4 st
def jd (null:Option Nat) (ver:Nat) (n:Int):Bool :=
 match null with
 | none=>false
 | some N=>decide (ver<N)||n==0
mutual
def Ty.rd (fx:Bool) (ver:Nat):Ty->RSt->D × RSt
 | .scal s _,st | .named s _ _,st=>(.int (s.rd st).1,(s.rd st).2)
 | .uuid,st=>(.bytes (some (qt 16 st).1),(qt 16 st).2)
 | .text,st=>(.bytes (some (zT (rdL fx st)).1),(zT (rdL fx st)).2)
 | .ntext,st=>(.bytes (x6 (rdL fx st)).1,(x6 (rdL fx st)).2)
 | .ntextFrom N,st=>if ver<N then (.bytes (some (zT (rdL fx st)).1),(zT (rdL fx st)).2) else (.bytes (x6 (rdL fx st)).1,(x6 (rdL fx st)).2)
 | .bytes,st=>(.bytes (xX (zi fx st)).1,(xX (zi fx st)).2)
 | .nbytes,st=>(.bytes (x6 (zi fx st)).1,(x6 (zi fx st)).2)
 | .list _ null e,st =>
  if (xy fx st).2.2 then (.list none,(xy fx st).2)
  else if (xy fx st).1<=0 then (if jd null ver (xy fx st).1 then .list (some []) else .list none,(xy fx st).2)
  else (.list (some (xg (fun s=>e.rd fx ver s) (xy fx st).1.toNat (xy fx st).2).1),(xg (fun s=>e.rd fx ver s) (xy fx st).1.toNat (xy fx st).2).2)
 | .struct _ _ _ fs,st=>(.obj (fs.rd fx ver noK st).1 (fs.rd fx ver noK st).2.1,(fs.rd fx ver noK st).2.2)
 | .nstruct _ _ _ fs _,st =>
  if (Scal.i8.rd st).1 = -1\/(Scal.i8.rd st).2.2=true then (.list none,(Scal.i8.rd st).2)
  else (.list (some [.obj (fs.rd fx ver noK (Scal.i8.rd st).2).1 (fs.rd fx ver noK (Scal.i8.rd st).2).2.1]),(fs.rd fx ver noK (Scal.i8.rd st).2).2.2)
def Flds.rd (fx:Bool) (ver:Nat) (ck:Nat->List UInt8->Bool):Flds->RSt->List D × List (Nat × List UInt8) × RSt
 | .nil _,st=>if fx then ([],zX ck st) else ([],[],st)
 | .cons v t r,st =>
  if v.has ver then ((t.rd fx ver st).1::(Flds.rd fx ver ck r (t.rd fx ver st).2).1,(Flds.rd fx ver ck r (t.rd fx ver st).2).2)
  else (v.getT t.dflt (fun p=>(t.rd fx ver (p,false)).1) (Flds.rd fx ver (v.ckT (fun p=>!(t.rd fx ver (p,false)).2.2) ck) r st).2.1::(Flds.rd fx ver (v.ckT (fun p=>!(t.rd fx ver (p,false)).2.2) ck) r st).1,
   v.dropT (Flds.rd fx ver (v.ckT (fun p=>!(t.rd fx ver (p,false)).2.2) ck) r st).2.1,(Flds.rd fx ver (v.ckT (fun p=>!(t.rd fx ver (p,false)).2.2) ck) r st).2.2)
end
theorem Scal.rd_mono {k:Scal} {st:RSt} (h:(k.rd st).2.2=false):st.2=false:=by
 cases k<;>exact gz h
theorem vq {f:RSt->D × RSt} (hf:∀ st,(f st).2.2=false->st.2=false):∀ (n:Nat) (st:RSt),(xg f n st).2.2=false->st.2=false
 | 0,st,h=>h
 | n+1,st,h=>hf st (vq hf n _ h)
theorem yN {st:RSt} (h:(xB st).2.2=false):st.2=false:=zJ (zJ (qZ h))
theorem jg:∀ (n:Nat) (l:List (Nat × List UInt8)) (st:RSt),(xc n l st).2.2=false->st.2=false
 | 0,l,st,h=>h
 | n+1,l,st,h=>yN (jg n _ _ h)
theorem j3 {ck:Nat->List UInt8->Bool}:∀ (n:Nat) (l:List (Nat × List UInt8)) (st:RSt),(qI ck n l st).2.2=false->st.2=false
 | 0,l,st,h=>h
 | n+1,l,st,h=>by
  have:=j3 n _ _ h
  simp only[Bool.or_eq_false_iff] at this
  exact yN this.1
theorem rdTagsK_mono {st:RSt} (h:(zX ck st).2.2=false):st.2=false:=zJ (j3 _ _ _ h)
theorem gA {st:RSt} (h:(rdL fx st).2.2=false):st.2=false:=by
 unfold rdL at h
 split at h
 ·exact zJ h
 ·exact gz h
theorem rdLB_mono {st:RSt} (h:(zi fx st).2.2=false):st.2=false:=by
 unfold zi at h
 split at h
 ·exact zJ h
 ·exact gz h
theorem jw {p:Int × RSt} (h:(x6 p).2.2=false):p.2.2=false:=by
 unfold x6 at h
 split at h
 ·exact h
 ·exact qZ h
theorem rdOct_mono {p:Int × RSt} (h:(xX p).2.2=false):p.2.2=false:=by
 unfold xX at h
 split at h
 ·exact h
 ·exact qZ h
theorem yO {p:Int × RSt} (h:(zo p).2.2=false):p.2.2=false:=by
 unfold zo at h
 split at h
 ·cases h
 ·exact h
theorem rdCn_mono {st:RSt} (h:(xy fx st).2.2=false):st.2=false:=by
 unfold xy at h
 split at h
 ·exact zJ (yO h)
 ·exact gz (yO h)
mutual
theorem Ty.rd_mono (fx:Bool) (ver:Nat):∀ (t:Ty) (st:RSt),(t.rd fx ver st).2.2=false->st.2=false
 | .scal s _,st,h | .named s _ _,st,h=>Scal.rd_mono (k:=s) (by simpa only[Ty.rd] using h)
 | .uuid,st,h=>qZ (l:=16) (by simpa only[Ty.rd] using h)
 | .text,st,h=>gA (fx:=fx) (qZ (l:=(rdL fx st).1) (by simpa only[Ty.rd,zT] using h))
 | .ntext,st,h=>gA (fx:=fx) (jw (by simpa only[Ty.rd] using h))
 | .ntextFrom N,st,h=>by
  simp only[Ty.rd] at h
  split at h
  ·exact gA (fx:=fx) (qZ (l:=(rdL fx st).1) (by simpa only[zT] using h))
  ·exact gA (fx:=fx) (jw h)
 | .bytes,st,h=>rdLB_mono (fx:=fx) (rdOct_mono (by simpa only[Ty.rd] using h))
 | .nbytes,st,h=>rdLB_mono (fx:=fx) (jw (by simpa only[Ty.rd] using h))
 | .list _ null e,st,h=>by
  simp only[Ty.rd] at h
  split at h
  ·rename_i hh;rw[hh] at h;cases h
  ·rename_i hh
   exact rdCn_mono (by simpa using hh)
 | .struct _ _ _ fs,st,h=>Flds.rd_mono fx ver fs st (by simpa only[Ty.rd] using h)
 | .nstruct _ _ _ fs _,st,h=>by
  simp only[Ty.rd] at h
  split at h
  ·exact Scal.rd_mono (k:=.i8) h
  ·exact Scal.rd_mono (k:=.i8) (Flds.rd_mono fx ver fs _ h)
theorem Flds.rd_mono (fx:Bool) (ver:Nat):∀ (t:Flds) {ck:Nat->List UInt8->Bool} (st:RSt),(t.rd fx ver ck st).2.2.2=false->st.2=false
 | .nil _,ck,st,h=>by
  cases fx with
  | true=>exact rdTagsK_mono (by simpa [Flds.rd] using h)
  | false=>simpa [Flds.rd] using h
 | .cons v t r,ck,st,h=>by
  simp only[Flds.rd] at h
  split at h
  ·exact Ty.rd_mono fx ver t st (Flds.rd_mono fx ver r _ h)
  ·exact Flds.rd_mono fx ver r _ h
end
end
section
attribute [local irreducible] vc rO_ qz
mutual
def Ty.okD (P:Program) (E:Env):Ty->Bool
 | .scal k df=>df==0||qW P (E.tScal k)
 | .named k T df=>df==0||qW P T
 | .struct _ TU _ fs=>fs.okD P E TU 0 0
 | _=>true
def Flds.okD (P:Program) (E:Env) (TU:TypeId) (idx off:Nat):Flds->Bool
 | .nil _=>true
 | .cons _ t r=>qh P TU idx==some off&&t.okD P E&&r.okD P E TU (idx+1) (off+t.size)
end
mutual
def Ty.over:Ty->List Value->List Value
 | .scal k df,cs=>if df=0 then cs else [k.val df]
 | .named k _ df,cs=>if df=0 then cs else [k.val df]
 | .struct _ _ _ fs,cs=>fs.over cs
 | _,cs=>cs
def Flds.over:Flds->List Value->List Value
 | .nil _,cs=>cs
 | .cons _ t r,cs=>t.over (cs.take t.size)++r.over (cs.drop t.size)
end
mutual
def Ty.zc:Ty->List Value
 | .scal k _ | .named k _ _=>[k.val 0]
 | .uuid=>List.replicate 16 (.int .u8 0)
 | .text=>[.string ⟨#[]⟩]
 | .ntext | .ntextFrom _ | .nstruct _ _ _ _ _=>[.pointer none]
 | .bytes | .nbytes=>[.slice none 0 0]
 | .list _ _ _=>[.slice none 0 0]
 | .struct _ _ _ fs=>fs.zc
def Flds.zc:Flds->List Value
 | .nil t=>if t then [.map none] else []
 | .cons _ t r=>t.zc++r.zc
end
mutual
def Ty.dz:Ty->List Value
 | .scal k df | .named k _ df=>[k.val df]
 | .uuid=>List.replicate 16 (.int .u8 0)
 | .text=>[.string ⟨#[]⟩]
 | .ntext | .ntextFrom _ | .nstruct _ _ _ _ _=>[.pointer none]
 | .bytes | .nbytes=>[.slice none 0 0]
 | .list _ _ _=>[.slice none 0 0]
 | .struct _ _ _ fs=>fs.dz
def Flds.dz:Flds->List Value
 | .nil t=>if t then [.map none] else []
 | .cons _ t r=>t.dz++r.dz
end
mutual
theorem Ty.zc_len:∀ t:Ty,t.zc.length=t.size
 | .scal _ _ | .named _ _ _ | .text | .ntext | .ntextFrom _ | .bytes | .nbytes | .list _ _ _ | .nstruct _ _ _ _ _=>by simp[Ty.zc,Ty.size]
 | .uuid=>by simp[Ty.zc,Ty.size]
 | .struct _ _ _ fs=>by simp[Ty.zc,Ty.size,Flds.zc_len fs]
theorem Flds.zc_len:∀ t:Flds,t.zc.length=t.size
 | .nil t=>by cases t<;>simp[Flds.zc,Flds.size]
 | .cons _ t r=>by simp[Flds.zc,Flds.size,Ty.zc_len t,Flds.zc_len r]
end
mutual
theorem Ty.dz_len:∀ t:Ty,t.dz.length=t.size
 | .scal _ _ | .named _ _ _ | .text | .ntext | .ntextFrom _ | .bytes | .nbytes | .list _ _ _ | .nstruct _ _ _ _ _=>by simp[Ty.dz,Ty.size]
 | .uuid=>by simp[Ty.dz,Ty.size]
 | .struct _ _ _ fs=>by simp[Ty.dz,Ty.size,Flds.dz_len fs]
theorem Flds.dz_len:∀ t:Flds,t.dz.length=t.size
 | .nil t=>by cases t<;>simp[Flds.dz,Flds.size]
 | .cons _ t r=>by simp[Flds.dz,Flds.size,Ty.dz_len t,Flds.dz_len r]
end
mutual
theorem Ty.over_len:∀ (t:Ty) (cs:List Value),cs.length=t.size->(t.over cs).length=t.size
 | .scal _ _,cs,h | .named _ _ _,cs,h=>by
  simp only[Ty.over]
  split
  ·exact h
  ·simp[Ty.size]
 | .struct _ _ _ fs,cs,h=>by simp only[Ty.over,Ty.size] at *;exact Flds.over_len fs cs h
 | .uuid,cs,h | .text,cs,h | .ntext,cs,h | .ntextFrom _,cs,h | .bytes,cs,h | .nbytes,cs,h | .list _ _ _,cs,h | .nstruct _ _ _ _ _,cs,h=>h
theorem Flds.over_len:∀ (t:Flds) (cs:List Value),cs.length=t.size->(t.over cs).length=t.size
 | .nil t,cs,h=>h
 | .cons _ t r,cs,h=>by
  simp only[Flds.size] at h
  simp only[Flds.over,Flds.size,List.length_append]
  rw[Ty.over_len t _ (by simp;omega),Flds.over_len r _ (by simp;omega)]
end
mutual
theorem Ty.over_zc:∀ t:Ty,t.over t.zc=t.dz
 | .scal _ df | .named _ _ df=>by
  simp only[Ty.over,Ty.zc,Ty.dz]
  split
  ·rename_i h;rw[h]
  ·rfl
 | .struct _ _ _ fs=>by simp only[Ty.over,Ty.zc,Ty.dz,Flds.over_zc fs]
 | .uuid | .text | .ntext | .ntextFrom _ | .bytes | .nbytes | .list _ _ _ | .nstruct _ _ _ _ _=>rfl
theorem Flds.over_zc:∀ t:Flds,t.over t.zc=t.dz
 | .nil t=>rfl
 | .cons _ t r=>by
  simp only[Flds.over,Flds.zc,Flds.dz]
  rw[← Ty.zc_len t,List.take_left,List.drop_left,Ty.over_zc t,Flds.over_zc r]
end
mutual
theorem Ty.over_dz:∀ t:Ty,t.over t.dz=t.dz
 | .scal _ df | .named _ _ df=>by
  simp only[Ty.over,Ty.dz]
  split<;>rfl
 | .struct _ _ _ fs=>by simp only[Ty.over,Ty.dz,Flds.over_dz fs]
 | .uuid | .text | .ntext | .ntextFrom _ | .bytes | .nbytes | .list _ _ _ | .nstruct _ _ _ _ _=>rfl
theorem Flds.over_dz:∀ t:Flds,t.over t.dz=t.dz
 | .nil t=>rfl
 | .cons _ t r=>by
  simp only[Flds.over,Flds.dz]
  rw[← Ty.dz_len t,List.take_left,List.drop_left,Ty.over_dz t,Flds.over_dz r]
end
theorem Scal.val_one (k:Scal) (n:Int):(k.val n).oneCell'=true:=by cases k<;>rfl
theorem qb.append {ys:List Value} (h1:qb w b o xs) (h2:qb w b (o+xs.length) ys):qb w b o (xs++ys):=by
 intro i v hv
 rcases Nat.lt_or_ge i xs.length with h | h
 ·rw[List.getElem?_append_left h] at hv;exact h1 i v hv
 ·rw[List.getElem?_append_right h] at hv
  have:=h2 _ v hv
  rwa [show o+xs.length+(i-xs.length)=o+i by omega] at this
theorem qb.tk (h:qb w b o xs):qb w b o (xs.take n):=by
 intro i v hv
 rw[List.getElem?_take] at hv
 split at hv
 ·exact h i v hv
 ·cases hv
theorem qb.dp (h:qb w b o xs):qb w b (o+n) (xs.drop n):=by
 intro i v hv
 rw[List.getElem?_drop] at hv
 have:=h _ v hv
 rwa [show o+(n+i)=o+n+i by omega] at this
def DQ (P:Program) (b o n L:Nat) (cs:List Value) (A:Act) (W:World) (rest:List Code) (Q:Exit->Act->World->Prop):Prop :=
 ∀ A' W',A'.tmps.size=A.tmps.size->A'.defers=A.defers->(∀ k:Nat,k<n->A'.eval (.tmp k)=A.eval (.tmp k))->Eff (fun k i=>k=b/\o<=i/\i<o+L) W W'->qb W' b o cs->vc P (sq rest) Q A' W'
theorem d_store {TP TU T:TypeId} {idx o0:Nat} {rest:List Code} {A:Act} (hs:A.eval (.tmp s)=.pointer (some ⟨b,o0,none⟩)) (ho:qh P TU idx=some off) (hT:qW P T=true) (hv:v.oneCell'=true) (hsn:s<n) (hnt:n<=t) (hsz:t+3<=A.tmps.size) (hf:qr W b (o0+off)) (h:DQ P b (o0+off) n 1 [v] A W rest Q):vc P (sq (rg [qd t (.tmp s) TP,jn (t+1) (.tmp t),xw (t+2) TU (.tmp (t+1)) idx,zq T (.tmp (t+2)) (.const v)]::rest)) Q A W:=by
 refine vX (rM ?_)
 refine xe (ad:=⟨b,o0,none⟩) zA ?_
 refine rF (b:=b) (o:=o0) zE ho ?_
 refine xC (b:=b) (o:=o0+off) (v:=v) zE rfl hv hT hf ?_
 refine dn ?_
 refine h _ _ (by simp only[zP]) (by simp only[dF]) (fun k hk=>zE) ((Eff.refl _ W).setCell _ _ _ (fun _=>⟨rfl,Nat.le_refl _,by omega⟩)) ?_
 intro i u hu
 cases i with
 | zero =>
  simp only[List.getElem?_cons_zero,Option.some.injEq] at hu
  subst hu
  exact qo v hf.1
 | succ i=>simp at hu
mutual
theorem Ty.dc_ok:∀ (ty:Ty) {TP TU:TypeId} {s idx n t b o0 off:Nat} {cs:List Value} {rest:List Code} {Q:Exit->Act->World->Prop} {A:Act} {W:World},
  ty.okD P E=true->qh P TU idx=some off->A.eval (.tmp s)=.pointer (some ⟨b,o0,none⟩)->s<n->n+ty.dn<=t->t+ty.dt<=A.tmps.size->cs.length=ty.size->qb W b (o0+off) cs->(∀ i,i<ty.size->qr W b (o0+off+i)) →
  DQ P b (o0+off) n ty.size (ty.over cs) A W rest Q->vc P (sq (ty.dc E TP TU s idx n t++rest)) Q A W
 | .scal k df,TP,TU,s,idx,n,t,b,o0,off,cs,rest,Q,A,W,hok,ho,hs,hsn,hnt,hsz,hl,hc,hf,h=>by
  simp only[Ty.dc,Ty.over,Ty.dt,Ty.dn,Ty.okD] at *
  split at h
  ·rename_i h0
   rw[if_pos h0]
   exact h A W rfl rfl (fun _ _=>rfl) (Eff.refl _ W) hc
  ·rename_i h0
   rw[if_neg h0] at hsz ⊢
   simp only[Bool.or_eq_true,beq_iff_eq,h0,false_or] at hok
   exact d_store hs ho hok (k.val_one df) hsn zH hsz (hf 0 (by simp[Ty.size])) h
 | .named k T df,TP,TU,s,idx,n,t,b,o0,off,cs,rest,Q,A,W,hok,ho,hs,hsn,hnt,hsz,hl,hc,hf,h=>by
  simp only[Ty.dc,Ty.over,Ty.dt,Ty.dn,Ty.okD] at *
  split at h
  ·rename_i h0
   rw[if_pos h0]
   exact h A W rfl rfl (fun _ _=>rfl) (Eff.refl _ W) hc
  ·rename_i h0
   rw[if_neg h0] at hsz ⊢
   simp only[Bool.or_eq_true,beq_iff_eq,h0,false_or] at hok
   exact d_store hs ho hok (k.val_one df) hsn zH hsz (hf 0 (by simp[Ty.size])) h
 | .struct TP' TU' FD fs,TP,TU,s,idx,n,t,b,o0,off,cs,rest,Q,A,W,hok,ho,hs,hsn,hnt,hsz,hl,hc,hf,h=>by
  simp only[Ty.dc,Ty.over,Ty.dt,Ty.dn,Ty.okD,Ty.size] at *
  refine vc_sq_flat ?_
  simp only[List.cons_append,List.nil_append]
  refine vX (rM ?_)
  refine xe (ad:=⟨b,o0,none⟩) zA ?_
  refine rF (b:=b) (o:=o0) zE ho ?_
  refine rA (dn (vX (rM (dn ?_))))
  refine Flds.dc_ok fs (b:=b) (o0:=o0+off) (off:=0) (cs:=cs) hok zE zH zH (by simp only[zP];omega) hl (by rw[Nat.add_zero];exact hc) (by rw[Nat.add_zero];exact hf) ?_
  rw[Nat.add_zero]
  intro A' W' a1 a2 a3 a4 a5
  refine h A' W' (by rw[a1];simp only[zP]) (by rw[a2];simp only[dF]) (fun k hk=>?_) a4 a5
  rw[a3 k zH]
  exact zE
 | .nstruct _ _ _ _ PP,TP,TU,s,idx,n,t,b,o0,off,cs,rest,Q,A,W,hok,ho,hs,hsn,hnt,hsz,hl,hc,hf,h=>by
  simp only[Ty.dc,Ty.over,Ty.dt,Ty.dn,Ty.okD,Ty.size] at *
  refine vc_sq_flat ?_
  simp only[List.cons_append,List.nil_append]
  refine vX (rM ?_)
  refine xe (ad:=⟨b,o0,none⟩) zA ?_
  refine rF (b:=b) (o:=o0) zE ho ?_
  refine rA (dn (vX (rM (dn ?_))))
  exact h _ W (by simp only[zP]) (by simp only[dF]) (fun k hk=>zE) (Eff.refl _ W) hc
 | .uuid,TP,TU,s,idx,n,t,b,o0,off,cs,rest,Q,A,W,hok,ho,hs,hsn,hnt,hsz,hl,hc,hf,h
 | .text,TP,TU,s,idx,n,t,b,o0,off,cs,rest,Q,A,W,hok,ho,hs,hsn,hnt,hsz,hl,hc,hf,h
 | .ntext,TP,TU,s,idx,n,t,b,o0,off,cs,rest,Q,A,W,hok,ho,hs,hsn,hnt,hsz,hl,hc,hf,h
 | .ntextFrom _,TP,TU,s,idx,n,t,b,o0,off,cs,rest,Q,A,W,hok,ho,hs,hsn,hnt,hsz,hl,hc,hf,h
 | .bytes,TP,TU,s,idx,n,t,b,o0,off,cs,rest,Q,A,W,hok,ho,hs,hsn,hnt,hsz,hl,hc,hf,h
 | .nbytes,TP,TU,s,idx,n,t,b,o0,off,cs,rest,Q,A,W,hok,ho,hs,hsn,hnt,hsz,hl,hc,hf,h
 | .list _ _ _,TP,TU,s,idx,n,t,b,o0,off,cs,rest,Q,A,W,hok,ho,hs,hsn,hnt,hsz,hl,hc,hf,h=>h A W rfl rfl (fun _ _=>rfl) (Eff.refl _ W) hc
theorem Flds.dc_ok:∀ (fs:Flds) {TP TU:TypeId} {s idx n t b o0 off:Nat} {cs:List Value} {rest:List Code} {Q:Exit->Act->World->Prop} {A:Act} {W:World},
  fs.okD P E TU idx off=true->A.eval (.tmp s)=.pointer (some ⟨b,o0,none⟩)->s<n->n+fs.dn<=t->t+fs.dt<=A.tmps.size->cs.length=fs.size->qb W b (o0+off) cs->(∀ i,i<fs.size->qr W b (o0+off+i)) →
  DQ P b (o0+off) n fs.size (fs.over cs) A W rest Q->vc P (sq (fs.dc E TP TU s idx n t++rest)) Q A W
 | .nil tg,TP,TU,s,idx,n,t,b,o0,off,cs,rest,Q,A,W,hok,hs,hsn,hnt,hsz,hl,hc,hf,h=>h A W rfl rfl (fun _ _=>rfl) (Eff.refl _ W) hc
 | .cons v ty r,TP,TU,s,idx,n,t,b,o0,off,cs,rest,Q,A,W,hok,hs,hsn,hnt,hsz,hl,hc,hf,h=>by
  simp only[Flds.okD,Bool.and_eq_true,beq_iff_eq] at hok
  simp only[Flds.dc,Flds.size,Flds.dn,Flds.dt,Flds.over,List.append_assoc] at *
  obtain ⟨⟨h1,h2⟩,h3⟩:=hok
  refine Ty.dc_ok ty (cs:=cs.take ty.size) h2 h1 hs hsn zH zH (by simp;omega) hc.tk (fun i hi=>hf i zH) ?_
  intro A' W' a1 a2 a3 a4 a5
  have hc2:qb W' b (o0+(off+ty.size)) (cs.drop ty.size):=by
   rw[show o0+(off+ty.size)=o0+off+ty.size by omega]
   exact hc.dp.eff a4 (by rintro i hi ⟨_,_,h⟩;omega)
  refine Flds.dc_ok r (cs:=cs.drop ty.size) h3 (by rw[a3 s hsn];exact hs) zH zH (by rw[a1];omega) (by simp;omega) hc2 (fun i hi=>?_) ?_
  ·have:=(hf (ty.size+i) zH).eff a4
   rwa [show o0+off+(ty.size+i)=o0+(off+ty.size)+i by omega] at this
  intro A2 W2 b1 b2 b3 b4 b5
  refine h A2 W2 (by rw[b1,a1]) (by rw[b2,a2]) (fun k hk=>by rw[b3 k zH,a3 k hk]) (a4.mono (fun k i _ ⟨x,y,z⟩=>⟨x,y,by omega⟩) |>.trans' b4 (fun k i _ ⟨x,y,z⟩=>⟨x,by omega,by omega⟩)) ?_
  have hol:=Ty.over_len ty (cs.take ty.size) (by simp;omega)
  refine (a5.eff b4 (by rintro i hi ⟨_,h,_⟩;omega)).append ?_
  rw[hol]
  rwa [show o0+(off+ty.size)=o0+off+ty.size by omega] at b5
end
def Scal.okB:Scal->Int->Bool
 | .bool,n=>n==0||n==1
 | .i8,n=>decide (-128<=n)&&decide (n<=127)
 | .i16,n=>decide (-32768<=n)&&decide (n<=32767)
 | .u16,n=>decide (0<=n)&&decide (n<=65535)
 | .i32,n=>decide (-2147483648<=n)&&decide (n<=2147483647)
 | .i64,n=>decide (-9223372036854775808<=n)&&decide (n<=9223372036854775807)
 | .f64,n=>decide (0<=n)&&decide (n<18446744073709551616)
theorem Scal.okB_ok {k:Scal} {n:Int} (h:k.okB n=true):k.ok n:=by
 cases k<;>simpa [Scal.okB,Scal.ok] using h
mutual
def Ty.okZ:Ty->Bool
 | .scal k df | .named k _ df=>k.okB df
 | .struct _ _ _ fs=>fs.okZ && !fs.tagged
 | _=>true
def Flds.okZ:Flds->Bool
 | .nil _=>true
 | .cons _ t r=>t.okZ&&r.okZ
def Flds.tagged:Flds->Bool
 | .nil _=>false
 | .cons _ _ r=>r.tagged
end
mutual
theorem Ty.dz_rep {w:World} {sb:Sb} (hT:sb.T []):∀ (t:Ty) (B:Nat),t.okZ=true->t.Rep w sb B t.dz t.dflt
 | .scal k df,B,h=>⟨rfl,k.okB_ok h⟩
 | .named k _ df,B,h=>⟨rfl,k.okB_ok h⟩
 | .uuid,B,_=>⟨by simp,by simp[Ty.dz,bv]⟩
 | .text,B,_=>rfl
 | .ntext,B,_=>rfl
 | .ntextFrom _,B,_=>rfl
 | .bytes,B,_=>rfl
 | .nbytes,B,_=>rfl
 | .list _ _ _,B,_=>.inl rfl
 | .nstruct _ _ _ _ _,B,_=>rfl
 | .struct _ _ _ fs,B,h=>by
  simp only[Ty.okZ,Bool.and_eq_true] at h
  exact Flds.dz_rep hT fs B h.1
theorem Flds.dz_rep {w:World} {sb:Sb} (hT:sb.T []):∀ (fs:Flds) (B:Nat),fs.okZ=true->fs.Rep w sb B fs.dz fs.dflt []
 | .nil t,B,_=>by
  cases t with
  | false=>exact ⟨rfl,rfl⟩
  | true=>exact ⟨.map none,rfl,⟨List.Pairwise.nil,by simp⟩,hT,.inl ⟨rfl,rfl⟩⟩
 | .cons v t r,B,h=>by
  simp only[Flds.okZ,Bool.and_eq_true] at h
  refine ⟨?_,?_,?_⟩
  ·simp only[Flds.dz]
   rw[← Ty.dz_len t,List.take_left]
   exact Ty.dz_rep hT t B h.1
  ·simp only[Flds.dz]
   rw[← Ty.dz_len t,List.drop_left]
   exact Flds.dz_rep hT r B h.2
  ·cases v<;>simp[Ver.tagOk]
end
theorem c_dflt {TP TU:TypeId} {idx:Nat} {fs:Flds} {FD:FuncId} {np nt:Nat} (ht:Text P FD np nt #[] (dcode E TP TU idx fs)) (hnt:2+fs.dn+fs.dt<=nt) (hok:fs.okD P E TU idx off=true) (hl:cs.length=fs.size) (hc:qb W b (o+off) cs) (hf:∀ i,i<fs.size->qr W b (o+off+i)):
  qa P FD #[.pointer (some ⟨b,o,none⟩)] W fun v w'=>Eff (fun k i=>k=b/\o+off<=i/\i<o+off+fs.size) W w'/\qb w' b (o+off) (fs.over cs):=by
 refine qa.enter ht (by simp;omega) ?_
 intro a hsz hdf harg
 have e0:=harg 0 (.pointer (some ⟨b,o,none⟩)) zS
 unfold dcode
 have:=Flds.dc_ok fs (E:=E) (P:=P) (TP:=TP) (TU:=TU) (s:=0) (idx:=idx) (n:=2) (t:=2+fs.dn) (b:=b) (o0:=o) (off:=off) (cs:=cs) (rest:=[]) (Q:=Out P #[] fun v w'=>Eff (fun k i=>k=b/\o+off<=i/\i<o+off+fs.size) W w'/\qb w' b (o+off) (fs.over cs)) (A:=a) (W:=W) hok e0 zH (Nat.le_refl _) zH hl hc hf
 rw[List.append_nil] at this
 refine this ?_
 intro A' W' a1 a2 a3 a4 a5
 refine vN ?_
 exact ⟨by rw[a2];exact hdf,.tuple #[],by simp[results],a4,a5⟩
def gZ (m:Msg):Code :=
 sq [rg [qc 0 (.const (.pointer none)) m.TP],rg [yg 1 m.TU],rg [xj (some 2) m.FD #[.tmp 1] #[m.TU] 0],rg [qc 0 (.tmp 1) m.TP],.ret]
def c_maxV (E:Env) (mx:Nat):Code:=sq [rg [qc 2 (.const (.int .i16 0)) E.tI16],rg [qc 2 (.const (.int .i16 mx)) E.tI16],.ret]
def c_setV (E:Env) (m:Msg):Code :=
 rg [qd 4 (.tmp 0) m.TP,qd 5 (.tmp 1) E.tI16,jn 6 (.tmp 4),xw 7 m.TU (.tmp 6) 0,zq E.tI16 (.tmp 7) (.tmp 5)]
def NewC (P:Program) (f:FuncId) (m:Msg):Prop:=∀ w,qa P f #[] w fun v w'=>v=.pointer (some ⟨w.heap.size,0,none⟩)/\Below w.heap.size w w'/\w.heap.size<w'.heap.size ∧
 qb w' w.heap.size 0 (.int .i16 0::m.fs.dz)/\∀ i,i<m.fs.size+1->qr w' w.heap.size i
theorem c_newPtr_ok {m:Msg} {f:FuncId} {np nt npd ntd:Nat} (ht:Text P f np nt #[.tmp 0] (gZ m)) (hn:3<=nt) (hd:Text P m.FD npd ntd #[] (dcode E m.TP m.TU 1 m.fs)) (hnd:2+m.fs.dn+m.fs.dt<=ntd) (hok:m.fs.okD P E m.TU 1 1=true) (hz:(qQ P m.TU).map (·.cells.toList)=some (.int .i16 0::m.fs.zc)):NewC P f m:=by
 intro w
 obtain ⟨z,hz0,hzc⟩:∃ z,qQ P m.TU=some z/\z.cells.toList=.int .i16 0::m.fs.zc:=by
  cases h:qQ P m.TU with
  | none=>rw[h] at hz;cases hz
  | some z=>rw[h] at hz;exact ⟨z,rfl,by simpa using hz⟩
 have hzl:z.cells.size=m.fs.size+1:=by
  have:=congrArg List.length hzc
  simpa [Flds.zc_len] using this
 refine qa.enter ht zS ?_
 intro a hsz hdf harg
 unfold gZ
 refine vX (rA (dn (vX ?_)))
 refine qR hz0 ?_
 refine dn ?_
 have hb0:Below w.heap.size w (w.alloc (.cells z.cells m.TU)):=(Below.refl w.heap.size w).alloc (o:=.cells _ _) (Nat.le_refl _)
 have hfr:∀ i,i<m.fs.size+1->qr (w.alloc (.cells z.cells m.TU)) w.heap.size i:=fun i hi=>qq w _ m.TU zH
 have hcz:qb (w.alloc (.cells z.cells m.TU)) w.heap.size 0 (.int .i16 0::m.fs.zc):=by
  intro i v hv
  rw[Nat.zero_add]
  refine qm w _ m.TU ?_
  rw[← hzc] at hv
  simpa using hv
 have hz1:w.heap.size<(w.alloc (.cells z.cells m.TU)).heap.size:=by simp
 generalize w.alloc (.cells z.cells m.TU)=W at *
 generalize w.heap.size=b at *
 refine vX ?_
 refine q8 (args:=#[.pointer (some ⟨b,0,none⟩)]) ?_ (c_dflt (b:=b) (o:=0) (cs:=m.fs.zc) hd hnd hok (Flds.zc_len _) (hcz.dp (n:=1)) (fun i hi=>by have:=hfr (i+1) zH;rwa [show 0+1+i=i+1 by omega])) ?_
 ·simp only[lM]
  exact zE
 rintro v W1 ⟨h1,h2⟩
 refine dn (vX (rA (dn (vS (vT ?_)))))
 refine ⟨by simp only[dF];exact hdf,.pointer (some ⟨b,0,none⟩),rO ?_,rfl,hb0.trans (h1.below zH (by rintro k i hk ⟨h,_⟩;omega)),Nat.lt_of_lt_of_le hz1 h1.size,?_,fun i hi=>(hfr i hi).eff h1⟩
 ·exact zE
 ·rw[Flds.over_zc] at h2
  have h0:qb W1 b 0 [.int .i16 0]:=(hcz.tk (n:=1)).eff h1 (by intro i hi ⟨_,h,_⟩;simp at hi;omega)
  exact h0.append h2
theorem c_maxV_ok {f:FuncId} {np nt mx:Nat} (ht:Text P f np nt #[.tmp 2] (c_maxV E mx)) (hn:3<=nt) (x:Value) (w:World):qa P f #[x] w fun v w'=>v=.int .i16 mx/\w'=w:=by
 refine qa.enter ht (by simp;omega) ?_
 intro a hsz hdf harg
 unfold c_maxV
 refine vX (rA (dn (vX (rA (dn (vS (vT ?_)))))))
 exact ⟨by simp only[dF];exact hdf,.int .i16 mx,rO zE,rfl,rfl⟩
theorem c_setV_ok {m:Msg} {f:FuncId} {np nt:Nat} (ht:Text P f np nt #[] (c_setV E m)) (hn:8<=nt) (ho:qh P m.TU 0=some 0) (hT:qW P E.tI16=true) {ver:Int} (hf:qr w b o):
  qa P f #[.pointer (some ⟨b,o,none⟩),.int .i16 ver] w fun v w'=>w'=w.setCell ⟨b,o,none⟩ (.int .i16 ver):=by
 refine qa.enter ht (by simp;omega) ?_
 intro a hsz hdf harg
 have e0:=harg 0 (.pointer (some ⟨b,o,none⟩)) zS
 have e1:=harg 1 (.int .i16 ver) zS
 unfold c_setV
 refine vR zS ?_
 refine rM (rM ?_)
 refine xe (ad:=⟨b,o,none⟩) zA ?_
 refine rF (b:=b) (o:=o) zE ho ?_
 refine xC (b:=b) (o:=o+0) (v:=.int .i16 ver) zE zA rfl hT (by simpa using hf) ?_
 refine dn ?_
 exact ⟨by simp only[dF];exact hdf,.tuple #[],by simp[results],by simp⟩
attribute [local irreducible] qP qJ
structure Blk (sb:Sb) (B:Nat) (w w':World):Prop where
 size:w.heap.size<=w'.heap.size
 sb:sb.b<w.heap.size->w'.heap[sb.b]? = w.heap[sb.b]?
 up:∀ k,B<=k->k<w.heap.size->w'.heap[k]? = w.heap[k]?
theorem Blk.mono {sb:Sb} {B':Nat} (h:Blk sb B w w') (hB:B<=B'):Blk sb B' w w':=⟨h.size,h.sb,fun k hk=>h.up k zH⟩
theorem yB (h:qb w b o cs) (he:b<w.heap.size->w'.heap[b]? = w.heap[b]?):qb w' b o cs:=fun i v hv=>by
 have hc:=h i v hv
 have:=he (qi hc)
 unfold World.cell? at hc ⊢
 rw[this]
 exact hc
theorem gg.blk {sb:Sb} {B':Nat} (he:Blk sb B w w') (hB:B'<=B) (h:gg w sb B v l):gg w' sb B' v l:=by
 rcases h with h | ⟨c,o,cap,hv,hc,hs,h⟩
 ·exact .inl h
 ·refine .inr ⟨c,o,cap,hv,hc.imp id (fun h=>by omega),Nat.lt_of_lt_of_le hs he.size,yB h (fun _=>?_)⟩
  rcases hc with rfl | hc
  ·exact he.sb hs
  ·exact he.up _ hc hs
theorem xx.blk {w w':World} {sb:Sb} {B B':Nat} {v:Value} {l:List (Nat × List UInt8)} (he:Blk sb B w w') (hB:B'<=B) (h:xx w sb B v l):xx w' sb B' v l:=by
 obtain ⟨h1,h2,h3⟩:=h
 refine ⟨h1,h2,?_⟩
 rcases h3 with h3 | ⟨q,es,clock,hv,hq,hs,hm,hb,hn,l',hl,hsz,hel⟩
 ·exact .inl h3
 ·refine .inr ⟨q,es,clock,hv,by omega,Nat.lt_of_lt_of_le hs he.size,?_,hb,hn,l',hl,hsz,fun i x hx=>?_⟩
  ·rw[he.up _ hq hs];exact hm
  ·obtain ⟨e,h1,h2,h3⟩:=hel i x hx
   exact ⟨e,h1,h2,h3.blk he hB⟩
mutual
theorem Ty.Rep.blk {w w':World} {sb:Sb}:∀ (t:Ty) (B B':Nat) (cs:List Value) (d:D),Blk sb B w w'->B'<=B->t.Rep w sb B cs d->t.Rep w' sb B' cs d
 | .scal _ _,B,B',cs,d,hM,hB,h | .named _ _ _,B,B',cs,d,hM,hB,h=>by
  cases d with
  | int n=>simpa only[Ty.Rep] using h
  | _=>exact absurd h (by simp[Ty.Rep])
 | .uuid,B,B',cs,d,hM,hB,h=>by
  cases d with
  | bytes o =>
   cases o with
   | some l=>simpa only[Ty.Rep] using h
   | none=>exact absurd h (by simp[Ty.Rep])
  | _=>exact absurd h (by simp[Ty.Rep])
 | .text,B,B',cs,d,hM,hB,h=>by
  cases d with
  | bytes o =>
   cases o with
   | some l=>simpa only[Ty.Rep] using h
   | none=>exact absurd h (by simp[Ty.Rep])
  | _=>exact absurd h (by simp[Ty.Rep])
 | .ntext,B,B',cs,d,hM,hB,h | .ntextFrom _,B,B',cs,d,hM,hB,h=>by
  cases d with
  | bytes o =>
   cases o with
   | some l =>
    simp only[Ty.Rep] at h ⊢
    obtain ⟨q,h1,h2,h3⟩:=h
    exact ⟨q,h1,by omega,(by have:=hM.up _ h2 (qi h3);unfold World.cell? at h3 ⊢;rw[this];exact h3)⟩
   | none=>simpa only[Ty.Rep] using h
  | _=>exact absurd h (by simp[Ty.Rep])
 | .bytes,B,B',cs,d,hM,hB,h | .nbytes,B,B',cs,d,hM,hB,h=>by
  cases d with
  | bytes o =>
   cases o with
   | some l =>
    simp only[Ty.Rep] at h ⊢
    obtain ⟨q,o,cap,h1,h2,h3,h4⟩:=h
    refine ⟨q,o,cap,h1,h2.imp id (fun h=>by omega),yB h3 (fun _=>?_),Nat.lt_of_lt_of_le h4 hM.size⟩
    rcases h2 with rfl | h2
    ·exact hM.sb h4
    ·exact hM.up _ h2 h4
   | none=>simpa only[Ty.Rep] using h
  | _=>exact absurd h (by simp[Ty.Rep])
 | .list _ _ e,B,B',cs,d,hM,hB,h=>by
  cases d with
  | list o =>
   cases o with
   | some l =>
    simp only[Ty.Rep] at h ⊢
    obtain ⟨q,cap,h1,h2,h3,h4,h5⟩:=h
    refine ⟨q,cap,h1,by omega,Nat.lt_of_lt_of_le h3 hM.size,h4,fun i d hd=>?_⟩
    obtain ⟨c,h6,h7,h8⟩:=h5 i d hd
    exact ⟨c,h6,yB h7 (fun _=>hM.up _ h2 h3),Ty.Rep.blk e (q+1) (q+1) c d (hM.mono zH) (Nat.le_refl _) h8⟩
   | none =>
    simp only[Ty.Rep] at h ⊢
    exact h.imp id (fun ⟨h0,q,cap,h1,h2,h3⟩=>⟨h0,q,cap,h1,by omega,Nat.lt_of_lt_of_le h3 hM.size⟩)
  | _=>exact absurd h (by simp[Ty.Rep])
 | .struct _ _ _ fs,B,B',cs,d,hM,hB,h=>by
  cases d with
  | obj l tags=>simp only[Ty.Rep] at h ⊢;exact Flds.Rep.blk fs B B' cs l tags hM hB h
  | _=>exact absurd h (by simp[Ty.Rep])
 | .nstruct _ _ _ fs _,B,B',cs,d,hM,hB,h=>by
  cases d with
  | list o =>
   rcases o with _ | ⟨_ | ⟨d0,_ | ⟨d1,r⟩⟩⟩
   ·simpa only[Ty.Rep] using h
   ·exact absurd h (by simp[Ty.Rep])
   ·cases d0 with
    | obj l tags =>
     simp only[Ty.Rep] at h ⊢
     obtain ⟨q,c,h1,h2,h3,h4,h5,h6⟩:=h
     exact ⟨q,c,h1,by omega,Nat.lt_of_lt_of_le h3 hM.size,h4,yB h5 (fun _=>hM.up _ h2 h3),Flds.Rep.blk fs (q+1) (q+1) c l tags (hM.mono zH) (Nat.le_refl _) h6⟩
    | _=>exact absurd h (by simp[Ty.Rep])
   ·exact absurd h (by cases d0<;>simp[Ty.Rep])
  | _=>exact absurd h (by simp[Ty.Rep])
theorem Flds.Rep.blk {w w':World} {sb:Sb}:∀ (t:Flds) (B B':Nat) (cs:List Value) (l:List D) (tags:List (Nat × List UInt8)),Blk sb B w w'->B'<=B->t.Rep w sb B cs l tags->t.Rep w' sb B' cs l tags
 | .nil b,B,B',cs,l,tags,hM,hB,h=>by
  cases l with
  | cons _ _=>exact absurd h (by simp[Flds.Rep])
  | nil =>
   simp only[Flds.Rep] at h ⊢
   cases b with
   | false=>simpa using h
   | true =>
    simp only[if_true] at h ⊢
    obtain ⟨v,h1,h2⟩:=h
    exact ⟨v,h1,h2.blk hM hB⟩
 | .cons _ t r,B,B',cs,l,tags,hM,hB,h=>by
  cases l with
  | nil=>exact absurd h (by simp[Flds.Rep])
  | cons d l =>
   simp only[Flds.Rep] at h ⊢
   exact ⟨Ty.Rep.blk t B B' _ d hM hB h.1,Flds.Rep.blk r B B' _ l tags hM hB h.2.1,h.2.2⟩
end
theorem Blk.of_eff {sb:Sb} (he:Eff M w w') (hsb:∀ i,¬ M sb.b i) (hM:∀ k i,B<=k->k<w.heap.size->¬ M k i):Blk sb B w w' :=
 ⟨he.size,fun h=>he.blockEq h hsb,fun k h1 h2=>he.blockEq h2 (fun i=>hM k i h1 h2)⟩
theorem xx.eff {sb:Sb} {B':Nat} {l:List (Nat × List UInt8)} (he:Eff M w w') (hsb:∀ i,¬ M sb.b i) (hM:∀ k i,B<=k->k<w.heap.size->¬ M k i) (hB:B'<=B) (h:xx w sb B v l):xx w' sb B' v l:=h.blk (.of_eff he hsb hM) hB
theorem Ty.Rep.eff {sb:Sb} (he:Eff M w w') (hsb:∀ i,¬ M sb.b i) (t:Ty) (B B':Nat) (cs:List Value) (d:D) (hM:∀ k i,B<=k->k<w.heap.size->¬ M k i) (hB:B'<=B) (h:t.Rep w sb B cs d):t.Rep w' sb B' cs d:=Ty.Rep.blk t B B' cs d (.of_eff he hsb hM) hB h
theorem Flds.Rep.eff {sb:Sb} (he:Eff M w w') (hsb:∀ i,¬ M sb.b i) (t:Flds) (B B':Nat) (cs:List Value) (l:List D) (tags:List (Nat × List UInt8)) (hM:∀ k i,B<=k->k<w.heap.size->¬ M k i) (hB:B'<=B) (h:t.Rep w sb B cs l tags):t.Rep w' sb B' cs l tags:=Flds.Rep.blk t B B' cs l tags (.of_eff he hsb hM) hB h
abbrev RdV (P:Program) (F:FuncId) (rb sb:Nat) (W:World) (st':RSt) (S:Value->World->Prop):Prop :=
 qa P F #[.pointer (some ⟨rb,0,none⟩)] W fun x w'=>S x w'/\RdS w' rb sb st'/\Eff (RM rb) W w'
structure EnvR (P:Program) (E:Env) (T:List (Nat × List UInt8)->Prop):Prop where
 i32:qu P E.tI32=some .i32
 scal:∀ s,E.rScal s≠0->∀ rb sb st W,RdS W rb sb st->RdV P (E.rScal s) rb sb W (s.rd st).2 fun x _=>x=s.val (s.rd st).1/\s.ok (s.rd st).1
 uuid:E.rUuid≠0->∀ rb sb st W,RdS W rb sb st->RdV P E.rUuid rb sb W (qt 16 st).2 fun x _=>∃ l:List UInt8,l.length=16/\x=.agg (l.map bv).toArray/\((qt 16 st).2.2=false->l=(qt 16 st).1)
 str:∀ fx,(if fx then E.rCStr else E.rStr)≠0->∀ rb sb st W,RdS W rb sb st->RdV P (if fx then E.rCStr else E.rStr) rb sb W (zT (rdL fx st)).2 fun x _=>x=.string ⟨(zT (rdL fx st)).1.toArray⟩
 nstr:∀ fx,(if fx then E.rCNStr else E.rNStr)≠0->∀ rb sb st W,RdS W rb sb st->RdV P (if fx then E.rCNStr else E.rNStr) rb sb W (x6 (rdL fx st)).2 fun x w'=>PStr w' W.heap.size x (x6 (rdL fx st)).1
 octs:∀ fx,(if fx then E.rCBytes else E.rBytes)≠0->∀ rb sb st W,RdS W rb sb st->RdV P (if fx then E.rCBytes else E.rBytes) rb sb W (xX (zi fx st)).2 fun x w'=>∃ o,OctV w' sb W.heap.size x o/\((xX (zi fx st)).2.2=false->o=(xX (zi fx st)).1)
 nocts:∀ fx,(if fx then E.rCNBytes else E.rNBytes)≠0->∀ rb sb st W,RdS W rb sb st->RdV P (if fx then E.rCNBytes else E.rNBytes) rb sb W (x6 (zi fx st)).2 fun x w'=>∃ o,OctV w' sb W.heap.size x o/\((x6 (zi fx st)).2.2=false->o=(x6 (zi fx st)).1)
 len:∀ fx,(if fx then E.rCLen else E.rLen)≠0->∀ rb sb st W,RdS W rb sb st->RdV P (if fx then E.rCLen else E.rLen) rb sb W (xy fx st).2 fun x _=>x=.int .i32 (xy fx st).1
 ok:∀ rb sb st W,RdS W rb sb st->qa P E.rOk #[.pointer (some ⟨rb,0,none⟩)] W fun x w'=>x=.bool (!st.2)/\w'=W
 complete:∀ rb sb st W ev,RdS W rb sb st->W.cell? ⟨E.vErr,0,none⟩=some ev->qa P E.rComplete #[.pointer (some ⟨rb,0,none⟩)] W fun x w'=>x=(if st.2 then ev else .nilIface)/\w'=W
 tags:E.rTags≠0->∀ rb sb st W,RdS W rb sb st->RdV P E.rTags rb sb W (xS st).2 fun x w'=>∃ v tags,x=.agg #[v]/\v.oneCell'=true/\xx w' ⟨sb,T⟩ W.heap.size v tags/\((xS st).2.2=false->tags=(xS st).1)
def Ty.isList:Ty->Bool
 | .list _ _ _=>true
 | _=>false
def zero1 (P:Program) (t:TypeId):Bool :=
 match qQ P t with
 | some z=>z.cells.size==1
 | none=>false
theorem zero1_inv {t} (h:zero1 P t=true):∃ z,qQ P t=some z/\z.cells.size=1:=by
 unfold zero1 at h
 split at h
 ·rename_i z hz
  exact ⟨z,hz,by simpa using h⟩
 ·cases h
def Ty.isScal:Ty->Bool
 | .scal _ _ | .list _ none _=>true
 | t=>t.two
def Ver.okT (E:Env) (m:Nat) (t:Ty):Ver->Bool
 | .tag k _=>k==m&&decide (k<4294967296)&&t.isScal&&E.rTags != 0
 | _=>true
def Ver.nextT (m:Nat):Ver->Nat
 | .tag _ _=>m+1
 | _=>m
theorem Ver.nextT_no {v:Ver} (h:v.isTag=false) (m:Nat):v.nextT m=m:=by cases v<;>first | rfl | cases h
mutual
def Ty.okR (P:Program) (E:Env) (x:Cx):Ty->Bool
 | .scal s _=>E.rScal s != 0&&qW P (E.tScal s)
 | .named s T _=>E.rScal s != 0&&qW P T
 | .uuid=>E.rUuid != 0&&zd P E.tUuid==some 16&&yC P E.tUuid 16
 | .text=>x.ok E.rCStr E.rStr&&qW P E.tStr
 | .ntext=>x.ok E.rCNStr E.rNStr&&qW P E.tPStr
 | .ntextFrom _=>x.ok E.rCStr E.rStr&&x.ok E.rCNStr E.rNStr&&qW P E.tPStr&&qW P E.tStr&&zero1 P E.tStr
 | .bytes=>x.ok E.rCBytes E.rBytes&&qW P E.tB
 | .nbytes=>x.ok E.rCNBytes E.rNBytes&&qW P E.tB
 | .list TS null e=>x.ok E.rCLen E.rLen&&qW P TS && !e.isList && !e.np&&e.okR P E x
 | .struct _ TU _ fs=>fs.okR P E x TU 0 0&&fs.okD P E TU 0 0
 | .nstruct TP TU _ fs PP=>E.rI8 != 0&&qW P TP&&fs.okR P E x TU 0 0&&fs.okD P E TU 0 0
def Flds.okR (P:Program) (E:Env) (x:Cx) (TU:TypeId) (idx off:Nat) (m:Nat:=0):Flds->Bool
 | .nil tags=>x.fl.isNone||(tags&&qh P TU idx==some off&&E.rTags != 0&&zd P E.tTags==some 1)
 | .cons v t r=>v.okT E m t&&qh P TU idx==some off&&t.okR P E x&&t.okZ&&Flds.okR P E x TU (idx+1) (off+t.size) (v.nextT m) r
end
mutual
def Ty.txR (P:Program) (E:Env):Ty->Prop
 | .list TS _ e=>(∃ te,xo P TS te e.size=true/\(qQ P te).map (·.cells.toList)=some e.zc)/\e.txR P E
 | .struct TP TU FD fs=>(∃ np nt,Text P FD np nt #[] (dcode E TP TU 0 fs)/\2+fs.dn+fs.dt<=nt)/\fs.txR P E
 | .nstruct TP TU FD fs PP=>(∃ np nt,Text P FD np nt #[] (dcode E TP TU 0 fs)/\2+fs.dn+fs.dt<=nt)/\(qQ P TU).map (·.cells.toList)=some fs.zc/\fs.txR P E
 | _=>True
def Flds.txR (P:Program) (E:Env):Flds->Prop
 | .nil _=>True
 | .cons _ t r=>t.txR P E/\r.txR P E
end
structure RSta (E:Env) (x:Cx) (ver:Nat) (fx:Bool) (rb sb:Nat) (ev:Value) (a:Act) (w:World) (st:RSt):Prop where
 rd:RdS w rb sb st
 p7:a.eval (.tmp x.rd)=.pointer (some ⟨rb,0,none⟩)
 us:a.eval (.tmp 2)=.bool false
 ver:a.eval (.tmp x.vs)=.int .i16 (ver:Int)
 fl:∀ f,x.fl=some f->a.eval (.tmp f)=.bool fx
 err:w.cell? ⟨E.vErr,0,none⟩=some ev
 evr:E.vErr≠rb
 evi:∃ u z,ev=.iface u z
def KR (L n t:Nat) (k:Nat):Prop:=k<n\/(L<=k/\k<t)
theorem KR.mono {n' t':Nat} (hn:n<=n') (ht:t<=t'):∀ k,KR L n t k->KR L n' t' k:=fun k h=>h.elim (fun h=>.inl zH) (fun h=>.inr ⟨h.1,by omega⟩)
structure RSl (x:Cx) (L n t:Nat) (fx:Bool):Prop where
 seven:7<n
 rd:x.rd<n
 vs:x.vs<n
 fl:∀ f,x.fl=some f->f<n
 no:x.fl=none->fx=false
 nL:n<=L
 Lt:L<=t
theorem RSl.kt (h:RSl x L n t fx):∀ d,t<=d->¬ KR L n t d:=by
 rintro d hd h2
 have:=h.nL;have:=h.Lt
 unfold KR at h2
 omega
theorem RSl.kn (h:RSl x L n t fx):∀ d,n<=d->d<L->¬ KR L n t d:=by
 rintro d hd hl h2
 unfold KR at h2
 omega
theorem RSl.up {n' t':Nat} (h:RSl x L n t fx) (hn:n<=n') (hL:n'<=L) (ht:t<=t'):RSl x L n' t' fx :=
 ⟨by have:=h.seven;omega,by have:=h.rd;omega,by have:=h.vs;omega,fun f hf=>by have:=h.fl f hf;omega,h.no,hL,by have:=h.Lt;omega⟩
section
variable {a':Act} {st st' : RSt}
theorem RSta.fr (h:RSta E x ver fx rb sb ev a w st) (hs:RSl x L n t fx) (hf:Fr (KR L n t) a a'):RSta E x ver fx rb sb ev a' w st :=
 ⟨h.rd,by rw[hf.slot _ (.inl hs.rd)];exact h.p7,by rw[hf.slot 2 (.inl (by have:=hs.seven;omega))];exact h.us,by rw[hf.slot _ (.inl hs.vs)];exact h.ver,fun f hh=>by rw[hf.slot _ (.inl (hs.fl f hh))];exact h.fl f hh,h.err,h.evr,h.evi⟩
theorem RSta.step (h:RSta E x ver fx rb sb ev a w st) (hs:RSl x L n t fx) (hf:Fr (KR L n t) a a') (hr:RdS w' rb sb st') (he:Eff (RM rb) w w'):RSta E x ver fx rb sb ev a' w' st' :=
 ⟨hr,(h.fr hs hf).p7,(h.fr hs hf).us,(h.fr hs hf).ver,(h.fr hs hf).fl,he.cellSome h.err (fun hh=>h.evr hh.1),h.evr,h.evi⟩
theorem jk {T:TypeId} {y:Nat} {p:Value} {K:Nat->Prop} (hp:a.eval (.tmp x.rd)=p) (hc:qa P F #[p] w S) (ht:∀ d,t<=d->¬ K d) (hy:¬ K y) (hyt:y<t) (hsz:t+1<=a.tmps.size) (k:∀ a' v w',Fr K a a'->a'.eval (.tmp y)=v->S v w'->Q .normal a' w'):vc P (xb E x F T y t) Q a w:=by
 refine vR zS ?_
 refine q8 (args:=#[p]) ?_ hc ?_
 ·simp only[lM]
  simp (disch:=(try simp only[sP]);omega) only[eV,hp]
 intro v w' hs
 refine rA (dn ?_)
 refine k _ v w' ?_ zE hs
 exact ((Fr.refl K a).put _ (ht _ zH)).put _ hy
theorem vz {c:Nat} {b:Bool} {A B:Code} {K:Nat->Prop} (hc:a.eval (.tmp c)=.bool b) (ht:¬ K t) (hct:c≠t) (hsz:t+1<=a.tmps.size) (hA:b=true->∀ a',Fr K a a'->(∀ k:Nat,k≠t->a'.eval (.tmp k)=a.eval (.tmp k))->vc P A Q a' w) (hB:b=false->∀ a',Fr K a a'->(∀ k:Nat,k≠t->a'.eval (.tmp k)=a.eval (.tmp k))->vc P B Q a' w):vc P (rIf E t c A B) Q a w:=by
 unfold rIf
 refine vX (rM (dn ?_))
 have hf:Fr K a (a.put (some t) (a.eval (.tmp c))):=(Fr.refl K a).put _ ht
 have he:∀ k:Nat,k≠t->(a.put (some t) (a.eval (.tmp c))).eval (.tmp k)=a.eval (.tmp k):=fun k hk=>qj _ _ _ _ zH
 refine vS (vC (t:=b) zA ?_ ?_)
 ·exact fun h=>xi _ (hA h _ hf he) (fun e a w h=>by cases e<;>first | exact vN h | exact h)
 ·exact fun h=>xi _ (hB h _ hf he) (fun e a w h=>by cases e<;>first | exact vN h | exact h)
theorem m_rflex {FC:FuncId} {T:TypeId} {y t1 t2 fl:Nat} {p:Value} {K:Nat->Prop} (hp:a.eval (.tmp x.rd)=p) (hfl:a.eval (.tmp fl)=.bool fx) (hc:qa P (if fx then FC else F) #[p] w S) (ht:∀ d,t<=d->¬ K d) (hy:¬ K y) (hyt:y<t) (h7:x.rd<t) (hf:fl<t) (ht1:t<t1) (ht2:t<t2) (hsz1:t1+1<=a.tmps.size) (hsz2:t2+1<=a.tmps.size) (k:∀ a' v w',Fr K a a'->a'.eval (.tmp y)=v->S v w'->Q .normal a' w'):vc P (rIf E t fl (xb E x FC T y t1) (xb E x F T y t2)) Q a w:=by
 refine vz (K:=K) hfl (ht _ (Nat.le_refl _)) zH zH ?_ ?_
 ·intro h a' hf' he
  subst h
  exact jk (K:=K) (by rw[he x.rd zH];exact hp) hc (fun d hd=>ht d zH) hy zH (by rw[hf'.size];omega) (fun a2 v w' hf2=>k a2 v w' (hf'.trans hf2))
 ·intro h a' hf' he
  subst h
  exact jk (K:=K) (by rw[he x.rd zH];exact hp) hc (fun d hd=>ht d zH) hy zH (by rw[hf'.size];omega) (fun a2 v w' hf2=>k a2 v w' (hf'.trans hf2))
end
end
structure RTexts (P:Program) (E:Env):Prop where
 mixed:P.follows .mixedOrders=true
 row:xo P E.tB E.tU8 1=true
 u8:qu P E.tU8=some .u8
 int:qu P E.tI=some .i64
 oBytes:qW P E.tB=true
 oBool:qW P E.tO=true
 oU8:qW P E.tU8=true
 f0:qh P E.tRd 0=some 0
 f1:qh P E.tRd 1=some 1
 i32:qu P E.tI32=some .i32
 oE:qW P E.tErr=true
 rOk:Text P E.rOk 1 8 #[.tmp 2] (c_rOk E)
 rComplete:Text P E.rComplete 1 8 #[.tmp 2] (vE E)
 rI8:E.rI8≠0->qu P E.tI8=some .i8/\Text P E.rI8 1 32 #[.tmp 2] (c_rI8 E)
 rBool:E.rBool≠0->Text P E.rBool 1 32 #[.tmp 2] (c_rBool E)
 rI16:E.rI16≠0->zd P E.tBE=some 0/\qu P E.tU16=some .u16/\qu P E.tI16=some .i16/\Text P E.bU16 2 18 #[.tmp 4] (c_bU16 E)/\Text P E.rI16 1 32 #[.tmp 2] (c_rI16 E)
 rU16:E.rU16≠0->zd P E.tBE=some 0/\qu P E.tU16=some .u16/\Text P E.bU16 2 18 #[.tmp 4] (c_bU16 E)/\Text P E.rU16 1 31 #[.tmp 2] (c_rU16 E)
 rI32:E.rI32≠0->zd P E.tBE=some 0/\qu P E.tW=some .u32/\Text P E.bU32 2 30 #[.tmp 4] (c_bU32 E)/\Text P E.rI32 1 32 #[.tmp 2] (c_rI32 E)
 rI64:E.rI64≠0->zd P E.tBE=some 0/\qu P E.tU64=some .u64/\qu P E.tI64=some .i64/\Text P E.bU64 2 54 #[.tmp 4] (c_bU64 E)/\Text P E.rU64 1 31 #[.tmp 2] (c_rU64 E)/\Text P E.rI64 1 6 #[.tmp 2] (c_rI64 E)
 rUvar:E.rUvar≠0->qu P E.tW=some .u32/\Text P E.kUv 1 87 #[.tmp 2,.tmp 3] (c_kUv E)/\Text P E.rUvar 1 31 #[.tmp 2] (c_rUvar E)
 rSpan:E.rSpan≠0->Text P E.rSpan 2 40 #[.tmp 4] (c_rSpan E)
 rStr:E.rStr≠0->strB P E.tStr=true/\E.rI16≠0/\E.rSpan≠0/\Text P E.rStr 1 11 #[.tmp 2] (c_rStr E)
 rCStr:E.rCStr≠0->strB P E.tStr=true/\E.rUvar≠0/\E.rSpan≠0/\Text P E.rCStr 1 12 #[.tmp 2] (c_rCStr E)
 rNStr:E.rNStr≠0->strB P E.tStr=true/\qW P E.tStr=true/\qQ P E.tStr=some (.string ⟨#[]⟩)/\E.rI16≠0/\E.rSpan≠0/\Text P E.rNStr 1 14 #[.tmp 2] (c_rNStr E)
 rCNStr:E.rCNStr≠0->strB P E.tStr=true/\qW P E.tStr=true/\qQ P E.tStr=some (.string ⟨#[]⟩)/\E.rUvar≠0/\E.rSpan≠0/\Text P E.rCNStr 1 15 #[.tmp 2] (c_rCNStr E)
 rBytes:E.rBytes≠0->E.rI32≠0/\E.rSpan≠0/\Text P E.rBytes 1 13 #[.tmp 2] (c_rBytes E)
 rCBytes:E.rCBytes≠0->E.rUvar≠0/\E.rSpan≠0/\Text P E.rCBytes 1 14 #[.tmp 2] (c_rCBytes E)
 rNBytes:E.rNBytes≠0->E.rI32≠0/\E.rSpan≠0/\Text P E.rNBytes 1 14 #[.tmp 2] (c_rNBytes E)
 rCNBytes:E.rCNBytes≠0->E.rUvar≠0/\E.rSpan≠0/\Text P E.rCNBytes 1 15 #[.tmp 2] (wZ E)
 rLen:E.rLen≠0->E.rI32≠0/\Text P E.rLen 1 21 #[.tmp 2] (c_rLen E)
 rCLen:E.rCLen≠0->E.rUvar≠0/\Text P E.rCLen 1 23 #[.tmp 2] (c_rCLen E)
theorem RTexts.env (K:RTexts P E):REnv P E:=⟨K.row,K.u8,K.int,K.oBytes,K.oBool,K.oU8,K.f0,K.f1⟩
theorem RTexts.c16 (K:RTexts P E) (h:E.rI16≠0):CI16 P E:=fun rb sb st W hr=>by
 obtain ⟨h1,h2,h3,h4,h5⟩:=K.rI16 h
 exact k_rI16 K.env K.mixed h1 h2 h3 h4 h5 hr
theorem RTexts.c32 (K:RTexts P E) (h:E.rI32≠0):CI32 P E:=fun rb sb st W hr=>by
 obtain ⟨h1,h2,h4,h5⟩:=K.rI32 h
 exact k_rI32 K.env K.mixed h1 h2 K.i32 h4 h5 hr
theorem RTexts.cU (K:RTexts P E) (h:E.rUvar≠0):CUv P E:=fun rb sb st W hr=>by
 obtain ⟨h1,h2,h3⟩:=K.rUvar h
 exact k_rUvar K.env h1 h2 h3 hr
theorem RTexts.cS (K:RTexts P E) (h:E.rSpan≠0):vb P E:=fun rb sb st l W hr=>k_rSpan K.env (K.rSpan h) hr
theorem RdC.rdv {st':RSt} (h:RdC P F rb sb st' v W) (hS:∀ w',S v w'):RdV P F rb sb W st' S :=
 h.mono fun x w' ⟨h1,h2,h3,_⟩=>⟨by rw[h1];exact hS w',h2,h3⟩
def UuidR (P:Program) (E:Env):Prop:=E.rUuid≠0->∀ rb sb st W,RdS W rb sb st->RdV P E.rUuid rb sb W (qt 16 st).2 fun x _=>∃ l:List UInt8,l.length=16/\x=.agg (l.map bv).toArray/\((qt 16 st).2.2=false->l=(qt 16 st).1)
def TagsR (P:Program) (E:Env) (T:List (Nat × List UInt8)->Prop):Prop:=E.rTags≠0->∀ rb sb st W,RdS W rb sb st->RdV P E.rTags rb sb W (xS st).2 fun x w'=>∃ v tags,x=.agg #[v]/\v.oneCell'=true/\xx w' ⟨sb,T⟩ W.heap.size v tags/\((xS st).2.2=false->tags=(xS st).1)
theorem envR (K:RTexts P E) (hF:E.rF64=0) {T:List (Nat × List UInt8)->Prop} (hU:UuidR P E) (hT:TagsR P E T):EnvR P E T where
 i32:=K.i32
 scal:=by
  intro k hk rb sb st W hr
  cases k with
  | bool=>exact (k_rBool K.env (K.rBool hk) hr).rdv fun _=>⟨by simp only[Scal.rd,Scal.val];cases (rdN 1 st).1 != 0<;>rfl,by simp only[Scal.rd,Scal.ok];split<;>simp⟩
  | i8 =>
   obtain ⟨h1,h2⟩:=K.rI8 hk
   have hrg:=j4 1 st
   exact (k_rI8 K.env h1 h2 hr).rdv fun _=>⟨rfl,by simp only[Scal.rd,Scal.ok,sgn];split<;>omega⟩
  | i16=>exact (K.c16 hk rb sb st W hr).rdv fun _=>⟨rfl,vk st⟩
  | u16 =>
   obtain ⟨h1,h2,h3,h4⟩:=K.rU16 hk
   have hrg:=j4 2 st
   exact (k_rU16 K.env K.mixed h1 h2 h3 h4 hr).rdv fun _=>⟨rfl,by simp only[Scal.rd,Scal.ok];omega⟩
  | i32=>exact (K.c32 hk rb sb st W hr).rdv fun _=>⟨rfl,yl st⟩
  | i64 =>
   obtain ⟨h1,h2,h3,h4,h5,h6⟩:=K.rI64 hk
   have hrg:=j4 8 st
   refine (k_rI64 h2 h3 (fun rb sb st W hr=>k_rU64 K.env K.mixed h1 h2 h4 h5 hr) h6 hr).rdv fun _=>⟨rfl,?_⟩
   simp only[Scal.rd,Scal.ok,sgn]
   split<;>omega
  | f64=>exact absurd hF hk
 uuid:=hU
 str:=by
  intro fx hk rb sb st W hr
  cases fx with
  | false =>
   obtain ⟨h1,h2,h3,h4⟩:=K.rStr hk
   exact (k_rStr K.env (K.rI16 h2).2.2.1 h1 (K.c16 h2) (K.cS h3) h4 hr).rdv fun _=>rfl
  | true =>
   obtain ⟨h1,h2,h3,h4⟩:=K.rCStr hk
   exact (k_rCStr K.env (K.rUvar h2).1 h1 (K.cU h2) (K.cS h3) h4 zx hr).rdv fun _=>rfl
 nstr:=by
  intro fx hk rb sb st W hr
  cases fx with
  | false =>
   obtain ⟨h1,h2,h3,h4,h5,h6⟩:=K.rNStr hk
   exact (k_rNStr K.env (K.rI16 h4).2.2.1 h1 h2 h3 rfl (K.c16 h4) (K.cS h5) h6 hr).mono fun x w' ⟨g1,g2,g3,_⟩=>⟨g1,g2,g3⟩
  | true =>
   obtain ⟨h1,h2,h3,h4,h5,h6⟩:=K.rCNStr hk
   exact (k_rCNStr K.env (K.rUvar h4).1 h1 h2 h3 rfl (K.cU h4) (K.cS h5) h6 hr).mono fun x w' ⟨g1,g2,g3,_⟩=>⟨g1,g2,g3⟩
 octs:=by
  intro fx hk rb sb st W hr
  cases fx with
  | false =>
   obtain ⟨h1,h2,h3⟩:=K.rBytes hk
   exact (k_rBytes K.env K.i32 (K.c32 h1) (K.cS h2) h3 hr).mono fun x w' ⟨g1,g2,g3,_⟩=>⟨g1,g2,g3⟩
  | true =>
   obtain ⟨h1,h2,h3⟩:=K.rCBytes hk
   exact (k_rCBytes K.env (K.rUvar h1).1 (K.cU h1) (K.cS h2) h3 hr).mono fun x w' ⟨g1,g2,g3,_⟩=>⟨g1,g2,g3⟩
 nocts:=by
  intro fx hk rb sb st W hr
  cases fx with
  | false =>
   obtain ⟨h1,h2,h3⟩:=K.rNBytes hk
   exact (k_rNBytes K.env K.i32 (K.c32 h1) (K.cS h2) h3 hr).mono fun x w' ⟨g1,g2,g3,_⟩=>⟨g1,g2,g3⟩
  | true =>
   obtain ⟨h1,h2,h3⟩:=K.rCNBytes hk
   exact (k_rCNBytes K.env (K.rUvar h1).1 (K.cU h1) (K.cS h2) h3 hr).mono fun x w' ⟨g1,g2,g3,_⟩=>⟨g1,g2,g3⟩
 len:=by
  intro fx hk rb sb st W hr
  cases fx with
  | false =>
   obtain ⟨h1,h2⟩:=K.rLen hk
   exact (k_rLen K.env K.i32 (K.c32 h1) h2 hr).rdv fun _=>rfl
  | true =>
   obtain ⟨h1,h2⟩:=K.rCLen hk
   exact (k_rCLen K.env (K.rUvar h1).1 K.i32 (K.cU h1) h2 hr).rdv fun _=>rfl
 ok:=fun rb sb st W hr=>k_rOk K.env K.rOk hr
 complete:=fun rb sb st W ev hr he=>k_rComplete K.env K.oE K.rComplete he hr
 tags:=hT
section
attribute [local irreducible] vc rO_ qz qP qJ
def Ty.Val (w:World) (a:Act) (s:Nat) (ty:Ty) (cs:List Value):Prop:=if ty.arr then ∃ q,a.eval (.tmp s)=.pointer (some ⟨q,0,none⟩)/\qb w q 0 cs else cs=[a.eval (.tmp s)]
def Ty.RVal (P:Program) (E:Env) (T:List (Nat × List UInt8)->Prop) (ty:Ty):Prop :=
 ∀ (x:Cx) (ver:Nat) (fx:Bool) (L TP TU s f n t b rb sb:Nat) (ev:Value) (a:Act) (w:World) (st:RSt) (Q:Exit->Act->World->Prop),
  ty.okR P E x=true->ty.txR P E->RSl x L n t fx->n+1+ty.rn<=L->t+ty.rt x<=a.tmps.size->RSta E x ver fx rb sb ev a w st →
  (ty.isList=true->∃ pb po off,a.eval (.tmp s)=.pointer (some ⟨pb,po,none⟩)/\s<n/\qh P TU f=some off/\w.cell? ⟨pb,po+off,none⟩=some (.slice none 0 0)) →
  (∀ a' w' cs d,Fr (KR L n t) a a'->RSta E x ver fx rb sb ev a' w' (ty.rd fx ver st).2->ty.Val w' a' (n+ty.rslot) cs->ty.Rep w' ⟨sb,T⟩ w.heap.size cs d->Eff (RM rb) w w'->((ty.rd fx ver st).2.2=false->d=(ty.rd fx ver st).1)->Q .normal a' w') →
  (∀ a' w',a'.defers=a.defers->a'.tmps.size=a.tmps.size->a'.eval (.tmp 6)=ev->Eff (RM rb) w w'->(ty.rd fx ver st).2.2=true->Q .ret a' w') →
  vc P (sq (ty.rc E x TP TU s f n t b)) Q a w
theorem Cx.ok_fx {FC:FuncId} (h:x.ok FC F=true) (hno:x.fl=none->fx=false):(if fx then FC else F)≠0:=by
 unfold Cx.ok at h
 simp only[Bool.and_eq_true,bne_iff_ne,Bool.or_eq_true] at h
 cases fx with
 | false=>simpa using h.1
 | true =>
  simp only[if_true]
  rcases h.2 with h | h
  ·cases hf:x.fl with
   | none=>exact absurd (hno hf) zS
   | some f=>rw[hf] at h;cases h
  ·exact h
theorem rv_scal (H:EnvR P E T) (k:Scal) (df:Int):(Ty.scal k df).RVal P E T:=by
 intro x ver fx L TP TU s f n t b rb sb ev a w st Q hok htx hs hn ht hst hl kn kr
 have h2:=hs.nL;have h3:=hs.Lt;have h7:=hs.seven;have hrd:=hs.rd
 simp only[Ty.okR,Bool.and_eq_true,bne_iff_ne] at hok
 simp only[Ty.rt] at ht
 simp only[Ty.rn] at hn
 simp only[Ty.rc]
 refine vS (jk (K:=KR L n t) hst.p7 (H.scal k hok.1 rb sb st w hst.rd) hs.kt (hs.kn n (Nat.le_refl _) zH) zH ht ?_)
 rintro a1 v w1 hf he ⟨⟨hv,hvo⟩,hr,hE⟩
 refine vN (kn a1 w1 [v] (.int (k.rd st).1) hf (hst.step hs hf hr hE) ?_ ?_ hE (fun _=>rfl))
 ·simp only[Ty.Val,Ty.arr,Ty.rslot,Bool.false_eq_true,if_false,Nat.add_zero,he]
 ·rw[hv];exact ⟨rfl,hvo⟩
theorem rv_uuid (H:EnvR P E T):Ty.uuid.RVal P E T:=by
 intro x ver fx L TP TU s f n t b rb sb ev a w st Q hok htx hs hn ht hst hl kn kr
 have h2:=hs.nL;have h3:=hs.Lt;have h7:=hs.seven;have hrd:=hs.rd
 simp only[Ty.okR,Bool.and_eq_true,bne_iff_ne,beq_iff_eq] at hok
 obtain ⟨⟨hok,hagg⟩,hz⟩:=hok
 obtain ⟨z,hz,hzl⟩:=vf hz
 simp only[Ty.rt] at ht
 simp only[Ty.rn] at hn
 simp only[Ty.rc]
 refine vX ?_
 refine q8 (args:=#[.pointer (some ⟨rb,0,none⟩)]) ?_ (H.uuid hok rb sb st w hst.rd) ?_
 ·simp only[lM]
  simp (disch:=(try simp only[sP]);omega) only[eV,hst.p7]
 rintro v w1 ⟨⟨l,hl16,rfl,hlv⟩,hr,hE⟩
 refine qR hz ?_
 have hfree:∀ i,i<(l.map bv).length->qr (w1.alloc (.cells (Value.agg z.toArray).cells E.tUuid)) w1.heap.size (0+i):=by
  exact fun i hi=>qq w1 _ E.tUuid (by simp[Value.cells];simp at hi;omega)
 refine qy (b:=w1.heap.size) (o:=0) (cs:=l.map bv) zE zE (xH l) (by rw[List.length_map,hl16];exact hagg) hfree ?_
 refine dn ?_
 have hg:Eff (RM rb) w1 (setCells (w1.alloc (.cells (Value.agg z.toArray).cells E.tUuid)) w1.heap.size 0 (l.map bv)):=by
  refine ((Eff.refl _ w1).alloc _).trans' (qe _ _ _ _) ?_
  rintro k i hk ⟨rfl,_⟩
  omega
 have hb:Below w1.heap.size w1 (setCells (w1.alloc (.cells (Value.agg z.toArray).cells E.tUuid)) w1.heap.size 0 (l.map bv)):=by
  refine Eff.below (M:=fun k i=>k=w1.heap.size) ?_ (Nat.le_refl _) (by rintro k i hk rfl;omega)
  refine ((Eff.refl _ w1).alloc _).trans' (qe _ _ _ _) ?_
  rintro k i hk ⟨rfl,_⟩
  rfl
 have hfr:Fr (KR L n t) a ((a.put (some t) (.agg (l.map bv).toArray)).put (some n) (.pointer (some ⟨w1.heap.size,0,none⟩))):=((Fr.refl _ a).put _ (hs.kt _ zH)).put _ (hs.kn n (Nat.le_refl _) zH)
 refine vN (kn _ _ (l.map bv) (.bytes (some l)) hfr (hst.step hs hfr (hr.below hb hr.rb_lt hr.lt) (hE.trans hg)) ?_ ?_ (hE.trans hg) ?_)
 ·simp only[Ty.Val,Ty.arr,if_true,Ty.rslot,Nat.add_zero]
  refine ⟨w1.heap.size,zE,?_⟩
  intro i v hv
  exact qg _ _ _ _ (fun j hj=>(hfree j hj).1) i v hv
 ·exact ⟨hl16,rfl⟩
 ·intro h
  rw[hlv (by simpa only[Ty.rd] using h)]
  rfl
theorem rv_named (H:EnvR P E T) (k:Scal) (N:TypeId) (df:Int):(Ty.named k N df).RVal P E T:=by
 intro x ver fx L TP TU s f n t b rb sb ev a w st Q hok htx hs hn ht hst hl kn kr
 have h2:=hs.nL;have h3:=hs.Lt;have h7:=hs.seven;have hrd:=hs.rd
 simp only[Ty.okR,Bool.and_eq_true,bne_iff_ne] at hok
 simp only[Ty.rt] at ht
 simp only[Ty.rn] at hn
 simp only[Ty.rc]
 refine vX (rA (dn ?_))
 have hf0:∀ v,Fr (KR L n t) a (a.put (some n) v):=fun v=>(Fr.refl _ a).put _ (hs.kn n (Nat.le_refl _) zH)
 refine vS (vS (jk (K:=KR L n t) ((hst.fr hs (hf0 _)).p7) (H.scal k hok.1 rb sb st w hst.rd) hs.kt (hs.kn (n+1) zH zH) zH (by rw[zP];omega) ?_))
 rintro a1 v w1 hf he ⟨⟨hv,hvo⟩,hr,hE⟩
 have hf1:=(hf0 _).trans hf
 have hz1:=hf1.size
 refine vX (rM (rA (dn (vN (vX (rM (rA (dn ?_))))))))
 have hf2:∀ u1 u2 u3 u4,Fr (KR L n t) a ((((a1.put (some (t+1)) u1).put (some n) u2).put (some (t+2)) u3).put (some (n+2)) u4):=fun _ _ _ _ =>
  (((hf1.put _ (hs.kt _ zH)).put _ (hs.kn n (Nat.le_refl _) zH)).put _ (hs.kt _ zH)).put _ (hs.kn (n+2) zH zH)
 refine vN (kn _ w1 [v] (.int (k.rd st).1) (hf2 _ _ _ _) (hst.step hs (hf2 _ _ _ _) hr hE) ?_ ?_ hE (fun _=>rfl))
 ·simp only[Ty.Val,Ty.arr,Ty.rslot,Bool.false_eq_true,if_false]
  rw[← he]
  exact zE
 ·rw[hv];exact ⟨rfl,hvo⟩
theorem m_way1 {st:RSt} {FC:FuncId} {T0:TypeId} (hs:RSl x L n t fx) (hn:n+1<=L) (hst:RSta E x ver fx rb sb ev a w st) (ht:t+(match x.fl with | none=>1 | some _=>3)<=a.tmps.size) (hc:qa P (if fx then FC else F) #[.pointer (some ⟨rb,0,none⟩)] w S) (k:∀ a' v w',Fr (KR L n t) a a'->a'.eval (.tmp n)=v->S v w'->Q .normal a' w'):
  vc P (match x.fl with | none=>xb E x F T0 n t | some fl=>rIf E t fl (xb E x FC T0 n (t+1)) (xb E x F T0 n (t+2))) Q a w:=by
 have h2:=hs.nL;have h3:=hs.Lt;have h7:=hs.seven;have hrd:=hs.rd
 cases hx:x.fl with
 | none =>
  simp only[hx] at ht ⊢
  have hfx:=hs.no hx
  subst hfx
  exact jk (K:=KR L n t) hst.p7 hc hs.kt (hs.kn n (Nat.le_refl _) zH) zH ht k
 | some fl =>
  simp only[hx] at ht ⊢
  have hfl:=hs.fl fl hx
  exact m_rflex (K:=KR L n t) hst.p7 (hst.fl fl hx) hc hs.kt (hs.kn n (Nat.le_refl _) zH) zH zH zH zH zH zH zH k
theorem m_way2 {st:RSt} {FC U1 U2 U3:FuncId} {T0:TypeId} (hs:RSl x L n t fx) (hn:n+1<=L) (hst:RSta E x ver fx rb sb ev a w st) (ht:t+(match x.fl with | none=>3 | some _=>7)<=a.tmps.size) (hc:qa P (if fx then FC else F) #[.pointer (some ⟨rb,0,none⟩)] w S) (k:∀ a' v w',Fr (KR L n t) a a'->a'.eval (.tmp n)=v->S v w'->Q .normal a' w'):
  vc P (match x.fl with
   | none=>rIf E t 2 (xb E x U1 T0 n (t+1)) (xb E x F T0 n (t+2))
   | some fl=>rIf E t 2 (rIf E (t+1) fl (xb E x U2 T0 n (t+2)) (xb E x U3 T0 n (t+3))) (rIf E (t+4) fl (xb E x FC T0 n (t+5)) (xb E x F T0 n (t+6)))) Q a w:=by
 have h2:=hs.nL;have h3:=hs.Lt;have h7:=hs.seven;have hrd:=hs.rd
 have hkn:=hs.kn n (Nat.le_refl _) zH
 cases hx:x.fl with
 | none =>
  simp only[hx] at ht ⊢
  have hfx:=hs.no hx
  subst hfx
  refine vz (K:=KR L n t) hst.us (hs.kt _ (Nat.le_refl _)) zH zH (fun h=>by cases h) (fun _ a' hf he=>?_)
  exact jk (K:=KR L n t) (by rw[he x.rd zH];exact hst.p7) hc (fun d hd=>hs.kt d zH) hkn zH (by rw[hf.size];omega) (fun a2 v w' hf2=>k a2 v w' (hf.trans hf2))
 | some fl =>
  simp only[hx] at ht ⊢
  have hfl:=hs.fl fl hx
  refine vz (K:=KR L n t) hst.us (hs.kt _ (Nat.le_refl _)) zH zH (fun h=>by cases h) (fun _ a' hf he=>?_)
  exact m_rflex (K:=KR L n t) (by rw[he x.rd zH];exact hst.p7) (by rw[he fl zH];exact hst.fl fl hx) hc (fun d hd=>hs.kt d zH) hkn zH zH zH zH zH (by rw[hf.size];omega) (by rw[hf.size];omega) (fun a2 v w' hf2=>k a2 v w' (hf.trans hf2))
theorem m_way3 {st:RSt} {FC U1 U2 U3:FuncId} {T0:TypeId} (hs:RSl x L n t fx) (hn:n+1<=L) (hst:RSta E x ver fx rb sb ev a w st) (ht:t+(match x.fl with | none=>3 | some _=>7)<=a.tmps.size) (hc:qa P (if fx then FC else F) #[.pointer (some ⟨rb,0,none⟩)] w S) (k:∀ a' v w',Fr (KR L n t) a a'->a'.eval (.tmp n)=v->S v w'->Q .normal a' w'):
  vc P (match x.fl with
   | none=>rIf E t 2 (xb E x U1 T0 n (t+1)) (xb E x F T0 n (t+2))
   | some fl=>rIf E t fl (rIf E (t+1) 2 (xb E x U2 T0 n (t+2)) (xb E x FC T0 n (t+3))) (rIf E (t+4) 2 (xb E x U3 T0 n (t+5)) (xb E x F T0 n (t+6)))) Q a w:=by
 have h2:=hs.nL;have h3:=hs.Lt;have h7:=hs.seven;have hrd:=hs.rd
 have hkn:=hs.kn n (Nat.le_refl _) zH
 cases hx:x.fl with
 | none =>
  simp only[hx] at ht ⊢
  have hfx:=hs.no hx
  subst hfx
  refine vz (K:=KR L n t) hst.us (hs.kt _ (Nat.le_refl _)) zH zH (fun h=>by cases h) (fun _ a' hf he=>?_)
  exact jk (K:=KR L n t) (by rw[he x.rd zH];exact hst.p7) hc (fun d hd=>hs.kt d zH) hkn zH (by rw[hf.size];omega) (fun a2 v w' hf2=>k a2 v w' (hf.trans hf2))
 | some fl =>
  simp only[hx] at ht ⊢
  have hfl:=hs.fl fl hx
  refine vz (K:=KR L n t) (hst.fl fl hx) (hs.kt _ (Nat.le_refl _)) zH zH ?_ ?_
  ·intro h a' hf he
   subst h
   refine vz (K:=KR L n t) (b:=false) (by rw[he 2 zH];exact hst.us) (hs.kt _ zH) zH (by rw[hf.size];omega) (fun h=>by cases h) (fun _ a2 hf2 he2=>?_)
   exact jk (K:=KR L n t) (by rw[he2 x.rd zH,he x.rd zH];exact hst.p7) hc (fun d hd=>hs.kt d zH) hkn zH (by rw[hf2.size,hf.size];omega) (fun a3 v w' hf3=>k a3 v w' ((hf.trans hf2).trans hf3))
  ·intro h a' hf he
   subst h
   refine vz (K:=KR L n t) (b:=false) (by rw[he 2 zH];exact hst.us) (hs.kt _ zH) zH (by rw[hf.size];omega) (fun h=>by cases h) (fun _ a2 hf2 he2=>?_)
   exact jk (K:=KR L n t) (by rw[he2 x.rd zH,he x.rd zH];exact hst.p7) hc (fun d hd=>hs.kt d zH) hkn zH (by rw[hf2.size,hf.size];omega) (fun a3 v w' hf3=>k a3 v w' ((hf.trans hf2).trans hf3))
theorem rv_text (H:EnvR P E T):Ty.text.RVal P E T:=by
 intro x ver fx L TP TU s f n t b rb sb ev a w st Q hok htx hs hn ht hst hl kn kr
 have h2:=hs.nL;have h3:=hs.Lt;have h7:=hs.seven;have hrd:=hs.rd
 simp only[Ty.okR,Bool.and_eq_true] at hok
 have hF:=Cx.ok_fx hok.1 hs.no
 simp only[Ty.rn] at hn
 simp only[Ty.rt] at ht
 have hf0:∀ v,Fr (KR L n t) a (a.put (some n) v):=fun v=>(Fr.refl _ a).put _ (hs.kn n (Nat.le_refl _) zH)
 have fin:∀ a1 v w1,Fr (KR L n t) a a1->a1.eval (.tmp n)=v->((v=.string ⟨(zT (rdL fx st)).1.toArray⟩)/\RdS w1 rb sb (zT (rdL fx st)).2/\Eff (RM rb) w w1)->Q .normal a1 w1:=by
  rintro a1 v w1 hf he ⟨hv,hr,hE⟩
  refine kn a1 w1 [v] (.bytes (some (zT (rdL fx st)).1)) hf (hst.step hs hf hr hE) ?_ ?_ hE (fun _=>rfl)
  ·simp only[Ty.Val,Ty.arr,Ty.rslot,Bool.false_eq_true,if_false,Nat.add_zero,he]
  ·rw[hv];rfl
 simp only[Ty.rc]
 refine vX (rA (dn ?_))
 exact vS (m_way2 hs zH (hst.fr hs (hf0 _)) (by rw[zP];exact ht) (H.str fx hF rb sb st w hst.rd) (fun a1 v w1 hf he hS=>vN (fin a1 v w1 ((hf0 _).trans hf) he hS)))
theorem rv_ntext (H:EnvR P E T):Ty.ntext.RVal P E T:=by
 intro x ver fx L TP TU s f n t b rb sb ev a w st Q hok htx hs hn ht hst hl kn kr
 have h2:=hs.nL;have h3:=hs.Lt;have h7:=hs.seven;have hrd:=hs.rd
 simp only[Ty.okR,Bool.and_eq_true] at hok
 have hF:=Cx.ok_fx hok.1 hs.no
 simp only[Ty.rn] at hn
 simp only[Ty.rt] at ht
 have hf0:∀ v,Fr (KR L n t) a (a.put (some n) v):=fun v=>(Fr.refl _ a).put _ (hs.kn n (Nat.le_refl _) zH)
 have fin:∀ a1 v w1,Fr (KR L n t) a a1->a1.eval (.tmp n)=v->((PStr w1 w.heap.size v (x6 (rdL fx st)).1)/\RdS w1 rb sb (x6 (rdL fx st)).2/\Eff (RM rb) w w1)->Q .normal a1 w1:=by
  rintro a1 v w1 hf he ⟨hv,hr,hE⟩
  refine kn a1 w1 [v] (.bytes (x6 (rdL fx st)).1) hf (hst.step hs hf hr hE) ?_ ?_ hE (fun _=>rfl)
  ·simp only[Ty.Val,Ty.arr,Ty.rslot,Bool.false_eq_true,if_false,Nat.add_zero,he]
  ·revert hv
   generalize (x6 (rdL fx st)).1=o
   intro hv
   cases o with
   | none=>simp only[PStr] at hv;rw[hv];rfl
   | some l =>
    obtain ⟨q,h1,h2,h3⟩:=hv
    exact ⟨q,by rw[h1],h2,h3⟩
 simp only[Ty.rc]
 refine vX (rA (dn ?_))
 exact vS (m_way3 hs zH (hst.fr hs (hf0 _)) (by rw[zP];exact ht) (H.nstr fx hF rb sb st w hst.rd) (fun a1 v w1 hf he hS=>vN (fin a1 v w1 ((hf0 _).trans hf) he hS)))
theorem rv_bytes (H:EnvR P E T):Ty.bytes.RVal P E T:=by
 intro x ver fx L TP TU s f n t b rb sb ev a w st Q hok htx hs hn ht hst hl kn kr
 have h2:=hs.nL;have h3:=hs.Lt;have h7:=hs.seven;have hrd:=hs.rd
 simp only[Ty.okR,Bool.and_eq_true] at hok
 have hF:=Cx.ok_fx hok.1 hs.no
 simp only[Ty.rn] at hn
 simp only[Ty.rt] at ht
 have hf0:∀ v,Fr (KR L n t) a (a.put (some n) v):=fun v=>(Fr.refl _ a).put _ (hs.kn n (Nat.le_refl _) zH)
 have fin:∀ a1 v w1,Fr (KR L n t) a a1->a1.eval (.tmp n)=v->((∃ o,OctV w1 sb w.heap.size v o/\((xX (zi fx st)).2.2=false->o=(xX (zi fx st)).1))/\RdS w1 rb sb (xX (zi fx st)).2/\Eff (RM rb) w w1)->Q .normal a1 w1:=by
  rintro a1 v w1 hf he ⟨⟨o,hv,ho⟩,hr,hE⟩
  refine kn a1 w1 [v] (.bytes o) hf (hst.step hs hf hr hE) ?_ ?_ hE (fun h=>by rw[ho (by simpa only[Ty.rd] using h)];rfl)
  ·simp only[Ty.Val,Ty.arr,Ty.rslot,Bool.false_eq_true,if_false,Nat.add_zero,he]
  ·cases o with
   | none=>simp only[OctV] at hv;rw[hv];rfl
   | some l =>
    obtain ⟨q,o,cap,h1,h2,h3,h4⟩:=hv
    exact ⟨q,o,cap,by rw[h1],h2,h3,h4⟩
 have hgo:=m_way1 (P:=P) (Q:=Exit.then (vc P (sq []) Q) Q) (T0:=E.tB) hs zH (hst.fr hs (hf0 (.slice none 0 0))) (by rw[zP];exact ht) (H.octs fx hF rb sb st w hst.rd) (fun a1 v w1 hf he hS=>vN (fin a1 v w1 ((hf0 _).trans hf) he hS))
 simp only[Ty.rc]
 cases hx:x.fl with
 | none =>
  simp only[hx] at hgo ⊢
  refine vX (rA (dn ?_))
  exact vS hgo
 | some fl =>
  simp only[hx] at hgo ⊢
  refine vX (rA (dn ?_))
  exact vS hgo
theorem rv_nbytes (H:EnvR P E T):Ty.nbytes.RVal P E T:=by
 intro x ver fx L TP TU s f n t b rb sb ev a w st Q hok htx hs hn ht hst hl kn kr
 have h2:=hs.nL;have h3:=hs.Lt;have h7:=hs.seven;have hrd:=hs.rd
 simp only[Ty.okR,Bool.and_eq_true] at hok
 have hF:=Cx.ok_fx hok.1 hs.no
 simp only[Ty.rn] at hn
 simp only[Ty.rt] at ht
 have hf0:∀ v,Fr (KR L n t) a (a.put (some n) v):=fun v=>(Fr.refl _ a).put _ (hs.kn n (Nat.le_refl _) zH)
 have fin:∀ a1 v w1,Fr (KR L n t) a a1->a1.eval (.tmp n)=v->((∃ o,OctV w1 sb w.heap.size v o/\((x6 (zi fx st)).2.2=false->o=(x6 (zi fx st)).1))/\RdS w1 rb sb (x6 (zi fx st)).2/\Eff (RM rb) w w1)->Q .normal a1 w1:=by
  rintro a1 v w1 hf he ⟨⟨o,hv,ho⟩,hr,hE⟩
  refine kn a1 w1 [v] (.bytes o) hf (hst.step hs hf hr hE) ?_ ?_ hE (fun h=>by rw[ho (by simpa only[Ty.rd] using h)];rfl)
  ·simp only[Ty.Val,Ty.arr,Ty.rslot,Bool.false_eq_true,if_false,Nat.add_zero,he]
  ·cases o with
   | none=>simp only[OctV] at hv;rw[hv];rfl
   | some l =>
    obtain ⟨q,o,cap,h1,h2,h3,h4⟩:=hv
    exact ⟨q,o,cap,by rw[h1],h2,h3,h4⟩
 have hgo:=m_way1 (P:=P) (Q:=Exit.then (vc P (sq []) Q) Q) (T0:=E.tB) hs zH (hst.fr hs (hf0 (.slice none 0 0))) (by rw[zP];exact ht) (H.nocts fx hF rb sb st w hst.rd) (fun a1 v w1 hf he hS=>vN (fin a1 v w1 ((hf0 _).trans hf) he hS))
 simp only[Ty.rc]
 cases hx:x.fl with
 | none =>
  simp only[hx] at hgo ⊢
  refine vX (rA (dn ?_))
  exact vS hgo
 | some fl =>
  simp only[hx] at hgo ⊢
  refine vX (rA (dn ?_))
  exact vS hgo
end
end Go.Km
