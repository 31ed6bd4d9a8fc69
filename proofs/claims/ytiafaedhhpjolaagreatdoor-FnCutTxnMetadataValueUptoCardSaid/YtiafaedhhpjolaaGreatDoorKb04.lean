/- The reader's walk: lists. The reader's walk: a list as a whole. Tags: the map of tags; Set. Tags: Set; the reading of tags. Tags: the reading of tags. Known tags: Set, wherever the map lies; the reader's code for a tag that is not known. Known tags: what is asked of the code of each; scalars. Known tags: the reading of the tags of a struct that has known ones. Known tags: the loop over the tags. Known tags: the reading of the tags as a whole. The reader's walk: the fields of a struct. readFrom, ReadFrom. ReadFrom; a message is read and written again. The plain law, first part: numbers are read as they were written; what is read stays so if more follows. The plain law, second part: what is written is read. -/
import Derived.Test.YtiafaedhhpjolaaGreatDoorKb03
import Derived.Maps.RangeRun
set_option maxHeartbeats 4000000
set_option linter.unusedSimpArgs false
set_option linter.unusedVariables false
namespace Go.Km
open Go Go.RowKit
attribute [local irreducible] vc rO_ qz qJ qF
def rElem (E : Env) (x : Cx) (TS : TypeId) (n t2 b : Nat) (e : Ty) : Code :=
  match e.tp with
  | some TPe => sq ([rg [qd (t2 + 5) (.tmp (n + 1)) TS, qd (t2 + 6) (.tmp (n + 3)) E.tI32, zY (t2 + 7) TS (.tmp (t2 + 5)) (.tmp (t2 + 6)), qc (n + 4) (.tmp (t2 + 7)) TPe]] ++
          Ty.rc E x 0 0 0 0 (n + 4) (t2 + 8) (b + 2) e)
  | none => sq (Ty.rc E x 0 0 0 0 (n + 4) (t2 + 5) (b + 2) e ++
          [rg [qd (t2 + 5 + e.rt x) (.tmp (n + 1)) TS, qd (t2 + 6 + e.rt x) (.tmp (n + 3)) E.tI32,
            if e.arr then kZ (t2 + 7 + e.rt x) (e.T E) (.tmp (n + 4 + e.rslot)) else qd (t2 + 7 + e.rt x) (.tmp (n + 4 + e.rslot)) (e.T E),
            zY (t2 + 8 + e.rt x) TS (.tmp (t2 + 5 + e.rt x)) (.tmp (t2 + 6 + e.rt x)), zf (e.T E) (.tmp (t2 + 8 + e.rt x)) (.tmp (t2 + 7 + e.rt x))]])
theorem rc_list (E:Env) (x:Cx) (TP TU:TypeId) (s f n t b:Nat) (TS:TypeId) (null:Option Nat) (e:Ty) :
  Ty.rc E x TP TU s f n t b (.list TS null e)=vp E x TP TU TS null n s f t ++
   [rLoop E n (t+5+(match x.fl with | none=>1 | some _=>3)+(if null.isSome then 7 else 0)+3+2+5) b (rElem E x TS n (t+5+(match x.fl with | none=>1 | some _=>3)+(if null.isSome then 7 else 0)+3+2+5) b e),
    rg [qd (t+5+(match x.fl with | none=>1 | some _=>3)+(if null.isSome then 7 else 0)+3+2+5+5+e.h+e.rt x) (.tmp (n+1)) TS,qc n (.tmp (t+5+(match x.fl with | none=>1 | some _=>3)+(if null.isSome then 7 else 0)+3+2+5+5+e.h+e.rt x)) TS]]:=by
 rw[Ty.rc]
 rfl
section
variable {P : Program} {E : Env} {T : List (Nat × List UInt8) → Prop}
theorem m_elem {e:Ty} (hlf:e.tp=none->e.RVal P E T) (hfs:∀ TP TU FD fs,e=.struct TP TU FD fs->fs.RVal P E T) {x:Cx} {ver:Nat} {fx:Bool} {L n t b rb sb q cap len i:Nat} {TS te:TypeId} {ev:Value} {a:Act} {w:World} {st:RSt} {Q:Exit->Act->World->Prop}
  (hok:e.okR P E x=true) (hnl:e.isList=false) (htx:e.txR P E) (hB:xe P TS te e.size=true) (hs:RSl x L n t fx) (hn:n+4+(match e.tp with | some _=>2 | none=>1)+e.rn<=L) (ht:t+5+e.h+e.rt x<=a.tmps.size) (hst:RSta E x ver fx rb sb ev a w st)
  (hy:a.eval (.tmp (n+1))=.slice (some ⟨q,0,none⟩) len cap) (hi:a.eval (.tmp (n+3))=.int .i32 (i:Int)) (hil:i<len) (hc:qb w q (i*e.size) e.zc) (hf:∀ j,j<e.size->qt w q (i*e.size+j)) (h1:q≠rb) (h2:q≠sb) (h3:q≠E.vErr) (hrb:rb<q+1) (hq:q<w.heap.size)
  (kn:∀ a' w' c d,Fr (KR L (n+4) (t+5)) a a'->RSta E x ver fx rb sb ev a' w' (e.rd fx ver st).2->c.length=e.size->qb w' q (i*e.size) c->e.Rep w' ⟨sb,T⟩ (q+1) c d->Eff (FM rb q (i*e.size) e.size) w w'->((e.rd fx ver st).2.2=false->d=(e.rd fx ver st).1)->Q .normal a' w')
  (kr:∀ a' w',a'.defers=a.defers->a'.tmps.size=a.tmps.size->a'.eval (.tmp 6)=ev->Eff (FM rb q (i*e.size) e.size) w w'->(e.rd fx ver st).2.2=true->Q .ret a' w') :
  vc P (rElem E x TS n t b e) Q a w:=by
 have hnL:=hs.nL;have hLt:=hs.Lt;have h7:=hs.seven;have hrd:=hs.rd
 cases htp:e.tp with
 | some TPe =>
  cases e with
  | struct TP TU FD fs =>
   simp only[Ty.tp,Option.some.injEq] at htp
   subst htp
   simp only[Ty.tp,Ty.h,Ty.rn,Ty.rt,Ty.size,Ty.zc] at hn ht hc hf hB kn kr
   have hs4:RSl x L (n+4) (t+5) fx:=hs.up zH zH zH
   simp only[rElem,Ty.tp,List.cons_append,List.nil_append]
   refine vX (rM (rM ?_))
   refine qA (b:=q) (o:=0) (len:=len) (cap:=cap) (k:=.i32) (j:=i) (rB hB) zA zA hil ?_
   refine rA (dn ?_)
   rw[Nat.zero_add]
   generalize ha1:Act.put (Act.put (Act.put (Act.put a _ _) _ _) _ _) _ _=a1
   have hfr:Fr (KR L (n+4) (t+5)) a a1:=by
    subst ha1
    exact ((((Fr.refl _ a).put _ (hs4.kt _ zH)).put _ (hs4.kt _ zH)).put _ (hs4.kt _ zH)).put _ (hs4.kn (n+4) zH zH)
   have hp1:a1.eval (.tmp (n+4))=.pointer (some ⟨q,i*fs.size,none⟩):=by
    subst ha1
    exact zE
   have hsz:=hfr.size
   refine m_struct (hfs _ _ _ _ rfl) (ver:=ver) (B:=q+1) hok htx (hs4.up (n':=n+4) (t':=t+8) zH zH zH) zH (by rw[hsz];omega) (hst.fr hs4 hfr) hp1 (Flds.zc_len fs) (Flds.over_zc fs) hc hf h1 h2 h3 zH hrb zH ?_ ?_
   ·intro a2 w2 cs ds tags b1 b2 b3 b4 b5 b6 b7
    exact kn a2 w2 cs (.obj ds tags) (hfr.trans (b1.mono (KR.mono (Nat.le_refl _) zH))) b2 b3 b4 b5 b6 (fun h=>by obtain ⟨rfl,rfl⟩:=b7 h;rfl)
   ·intro a2 w2 b1 b2 b3 b4 b5
    exact kr a2 w2 (by rw[b1,hfr.defers]) (by rw[b2,hsz]) b3 b4 b5
  | _=>cases htp
 | none =>
  simp only[htp,Ty.h] at hn ht
  have hs4:RSl x L (n+4) (t+5) fx:=hs.up zH zH zH
  simp only[rElem,htp]
  refine j1 ?_
  refine hlf htp x ver fx L 0 0 0 0 (n+4) (t+5) (b+2) rb sb ev a w st _ hok htx hs4 zH zH hst (by rw[hnl];intro h;cases h) ?_ ?_
  ·intro a1 w1 cs d hf1 hst1 hv hrep hE hd
   obtain ⟨hcl,hc1⟩:=Ty.Rep.leaf e htp hrep
   have hS:=Ty.okR_okS e hok htp
   have hsz:=hf1.size
   show vc P (sq [rg _]) Q a1 w1
   refine vS (vR (by cases e.arr<;>simp) ?_)
   refine rM (rM ?_)
   have hrs:e.rslot<=2:=by cases e<;>simp[Ty.rslot]
   have hrn:e.rslot<=e.rn:=by cases e<;>simp[Ty.rslot,Ty.rn]
   refine r_leafLoad (cs:=cs) hS hcl ?_ ?_
   ·unfold Ty.Val at hv ⊢
    cases ha:e.arr with
    | true =>
     simp only[ha,if_true] at hv ⊢
     obtain ⟨q1,g1,g2⟩:=hv
     exact ⟨q1,zA,g2⟩
    | false =>
     simp only[ha,Bool.false_eq_true,if_false] at hv ⊢
     rw[hv]
     exact zE
   refine qA (b:=q) (o:=0) (len:=len) (cap:=cap) (k:=.i32) (j:=i) (rB hB) (by rw[← hf1.slot (n+1) (.inl zH)] at hy;exact zA) (by rw[← hf1.slot (n+3) (.inl zH)] at hi;exact zA) hil ?_
   rw[Nat.zero_add]
   have hfree:∀ j,j<e.size->qt w1 q (i*e.size+j):=fun j hj=>(hf j hj).eff hE
   refine r_leafStore (b:=q) (o:=i*e.size) (cs:=cs) hS hcl hc1 zE zE hfree ?_
   refine dn (vN ?_)
   have hE2:=qe q cs w1 (i*e.size)
   rw[hcl] at hE2
   have hE2':Eff (FM rb q (i*e.size) e.size) w1 (setCells w1 q (i*e.size) cs):=hE2.mono (fun k i _ h=>.inr h)
   have hE1':Eff (FM rb q (i*e.size) e.size) w w1:=hE.mono (fun k i _ h=>.inl h)
   generalize ha2:Act.put (Act.put (Act.put (Act.put a1 _ _) _ _) _ _) _ _=a2
   have hf2:Fr (KR L (n+4) (t+5)) a1 a2:=by
    subst ha2
    exact ((((Fr.refl _ a1).put _ (hs4.kt _ zH)).put _ (hs4.kt _ zH)).put _ (hs4.kt _ zH)).put _ (hs4.kt _ zH)
   refine kn a2 _ cs d (hf1.trans hf2) (hst1.keep hs4 hf2 hE2 (by rintro j ⟨h,_⟩;exact h1 h.symm) (by rintro j ⟨h,_⟩;exact h2 h.symm) (by rintro j ⟨h,_⟩;exact h3 h.symm)) hcl ?_ ?_ (hE1'.trans hE2') hd
   ·intro j v hv
    exact qg _ _ _ _ (fun j hj=>(hfree j zH).1) j v hv
   ·have hws:=hE.size
    refine Ty.Rep.eff hE2 ?_ e w.heap.size (q+1) cs d ?_ zH hrep
    ·rintro j ⟨h,_⟩;exact h2 h.symm
    ·rintro k j hk _ ⟨h,_⟩;omega
  ·intro a1 w1 b1 b2 b3 b4 b5
   exact kr a1 w1 b1 b2 b3 (b4.mono (fun k i _ h=>.inl h)) b5
end
end Go.Km
namespace Go.Km
open Go Go.RowKit
attribute [local irreducible] vc rO_ qz qJ qF
section
variable {P : Program} {E : Env} {T : List (Nat × List UInt8) → Prop}
theorem mul_lt {i j n:Nat} (h:i<j):i*n+n<=j*n:=by
 have:=Nat.mul_le_mul_right n h
 rwa [Nat.succ_mul] at this
theorem rv_list (H:EnvR P E T) {TS:TypeId} {null:Option Nat} {e:Ty} (hlf:e.tp=none->e.np=false->e.RVal P E T) (hfs:∀ TP TU FD fs,e=.struct TP TU FD fs->fs.RVal P E T):(Ty.list TS null e).RVal P E T:=by
 intro x ver fx L TP TU s f n t b rb sb ev a w st Q hok htx hs hn ht hst hl kn kr
 have hnL:=hs.nL;have hLt:=hs.Lt;have h7:=hs.seven;have hrd:=hs.rd
 obtain ⟨pb,po,off,hp,hsn,hfo,hcf⟩:=hl rfl
 simp only[Ty.okR,Bool.and_eq_true,Bool.not_eq_true'] at hok
 obtain ⟨⟨⟨⟨hlen,hTS⟩,hnl⟩,hnp⟩,hoke⟩:=hok
 have hnp:e.np=false:=by simpa using hnp
 simp only[Ty.txR] at htx
 obtain ⟨⟨te,hB,hz⟩,htxe⟩:=htx
 obtain ⟨zv,hzt,hzc⟩:∃ z,qK P te=some z/\z.cells.toList=e.zc:=by
  cases h:qK P te with
  | none=>rw[h] at hz;cases hz
  | some z=>rw[h] at hz;exact ⟨z,rfl,by simpa using hz⟩
 have hn':n+4+(match e.tp with | some _=>2 | none=>1)+e.rn<=L:=by
  simp only[Ty.rn] at hn
  cases htp:e.tp<;>simp only[htp] at hn ⊢<;>omega
 have hn3:n+5<=L:=by
  cases htp:e.tp<;>simp only[htp] at hn'<;>omega
 have ht1:t+5+(match x.fl with | none=>1 | some _=>3)+(if null.isSome then 7 else 0)+3+2+5+5+e.h+e.rt x+1<=a.tmps.size:=by
  simp only[Ty.rt] at ht
  cases hx:x.fl<;>simp only[hx] at ht ⊢<;>omega
 have hkt:=hs.kt
 have hbadr:(xp fx st).2.2=true->((Ty.list TS null e).rd fx ver st).2.2=true:=fun h=>by simp only[Ty.rd,h,if_true]
 rw[rc_list]
 have htt:t<=t+5+(match x.fl with | none=>1 | some _=>3)+(if null.isSome then 7 else 0)+3+2+5:=by omega
 have ht0:t+5+(match x.fl with | none=>1 | some _=>3)+(if null.isSome then 7 else 0)+3+2+5<=a.tmps.size:=by omega
 refine m_listHead H hlen hTS hB hzt hs zH (by cases hx:x.fl<;>simp only[hx] at ht0 ⊢<;>omega) hst hp hsn hfo hcf ?_ (fun a' w' h1 h2 h3 h4 h5=>kr a' w' h1 h2 h3 h4 (hbadr h5))
 intro a1 w1 v hf1 hst1 hnb hy hz1 hE1 hL
 have hs1:=hf1.size
 generalize t+5+(match x.fl with | none=>1 | some _=>3)+(if null.isSome then 7 else 0)+3+2+5=t2 at *
 have hs2:RSl x L n t2 fx:=hs.up (Nat.le_refl _) zH htt
 have hlb:(xp fx st).1<=big:=by
  have g1:=rdCn_le hnb
  have g2:=hst1.rd.len
  omega
 -- the end
 have fin:∀ a2 w2 d,Fr (KR L n t) a a2->RSta E x ver fx rb sb ev a2 w2 ((Ty.list TS null e).rd fx ver st).2->a2.eval (.tmp (n+1))=v->(Ty.list TS null e).Rep w2 ⟨sb,T⟩ w.heap.size [v] d->Eff (RM rb) w w2->(((Ty.list TS null e).rd fx ver st).2.2=false->d=((Ty.list TS null e).rd fx ver st).1) →
   vc P (sq [rg [qd (t2+5+e.h+e.rt x) (.tmp (n+1)) TS,qc n (.tmp (t2+5+e.h+e.rt x)) TS]]) Q a2 w2:=by
  intro a2 w2 d hf hst2 hv hrep hE hd
  have hsz:=hf.size
  refine vX (rM (rA (dn (vN ?_))))
  have hf3:∀ u1 u2,Fr (KR L n t) a2 ((a2.put (some (t2+5+e.h+e.rt x)) u1).put (some n) u2):=fun u1 u2=>((Fr.refl _ a2).put _ (hkt _ zH)).put _ (hs.kn n (Nat.le_refl _) zH)
  refine kn _ w2 [v] d (hf.trans (hf3 _ _)) (hst2.fr hs (hf3 _ _)) ?_ hrep hE hd
  simp only[Ty.Val,Ty.arr,Ty.rslot,Bool.false_eq_true,if_false,Nat.add_zero]
  rw[← hv]
  exact zE
 rcases hL with ⟨hl0,base,rfl,hbase⟩ | ⟨hl0,q,cap,rfl,hq1,hq2,hcz,hfz⟩
 ·
  have hrd:(Ty.list TS null e).rd fx ver st=(if jB null ver (xp fx st).1 then .list (some []) else .list none,(xp fx st).2):=by
   simp only[Ty.rd,hnb,Bool.false_eq_true,if_false]
   rw[if_pos hl0]
  refine vS (m_rloop (len:=0) (S:=fun _=>(xp fx st).2) (J:=fun _ w'=>w'=w1) (R:=fun _=>False) hs2 zH zH hz1 zH hlb hst1 rfl (fun i _ _ hi=>absurd hi (Nat.not_lt_zero i)) ?_ (fun _ _ _ _ _ h=>h.elim))
  rintro a2 w2 hf2 hst2 rfl
  refine fin a2 w2 ((Ty.list TS null e).rd fx ver st).1 (hf1.trans (hf2.mono (KR.mono zH htt))) (by rw[hrd];exact hst2) (by rw[hf2.slot _ (.inl zH)];exact hy) ?_ hE1 (fun _=>rfl)
  rw[hrd]
  split at hbase
  ·rename_i hh
   obtain ⟨q,rfl,g1,g2⟩:=hbase
   simp only[hh,if_true]
   exact ⟨q,0,rfl,g1,g2,Nat.zero_le _,fun i d h=>by simp at h⟩
  ·rename_i hh
   subst hbase
   rw[if_neg hh]
   rfl
 ·
  have hrd:(Ty.list TS null e).rd fx ver st=(.list (some (xf (fun s=>e.rd fx ver s) (xp fx st).1.toNat (xp fx st).2).1),(xf (fun s=>e.rd fx ver s) (xp fx st).1.toNat (xp fx st).2).2):=by
   simp only[Ty.rd,hnb,Bool.false_eq_true,if_false]
   rw[if_neg zH]
  have hmono:∀ s:RSt,(e.rd fx ver s).2.2=false->s.2=false:=fun s=>Ty.rd_mono fx ver e s
  generalize hlenN:(xp fx st).1.toNat=len at *
  have hqrb:q≠rb:=by have:=hst.rd.rb_lt;omega
  have hqsb:q≠sb:=by have:=hst.rd.lt;omega
  have hqev:q≠E.vErr:=by have:=qo hst.err;omega
  have hrbq:rb<q+1:=by have:=hst.rd.rb_lt;omega
  rw[hzc] at hcz
  refine vS (m_rloop (len:=len) (S:=fun i=>(xf (fun s=>e.rd fx ver s) i (xp fx st).2).2)
   (J:=fun i w'=>Eff (fun k j=>RM rb k j\/k=q) w1 w'/\(∃ ds:List D,ds.length=i/\(∀ (j:Nat) (d:D),ds[j]? = some d->∃ c:List Value,c.length=e.size/\qb w' q (j*e.size) c/\e.Rep w' ⟨sb,T⟩ (q+1) c d) ∧
    ((xf (fun s=>e.rd fx ver s) i (xp fx st).2).2.2=false->ds=(xf (fun s=>e.rd fx ver s) i (xp fx st).2).1))/\(∀ j,i<=j->j<len->qb w' q (j*e.size) e.zc))
   (R:=fun w'=>Eff (RM rb) w w'/\((Ty.list TS null e).rd fx ver st).2.2=true) hs2 zH zH hz1 hlenN.symm hlb hst1 ?_ ?_ ?_ ?_)
  ·exact ⟨Eff.refl _ _,⟨[],rfl,fun j d h=>by simp at h,fun _=>rfl⟩,fun j _ hj=>hcz j hj⟩
  ·rintro i a2 w2 hi hf2 hst2 h3 ⟨hE2,⟨ds,hdl,hds,hdeq⟩,hrest⟩ Q1 kn1 kr1
   have hw2:=hE2.size
   have hs22:=hf2.size
   have hEw:∀ w3,Eff (FM rb q (i*e.size) e.size) w2 w3->Eff (fun k j=>RM rb k j\/k=q) w1 w3:=fun w3 h=>hE2.trans (h.mono (fun k j _ h=>h.imp id (fun h=>h.1)))
   refine m_elem (fun h=>hlf h hnp) hfs (q:=q) (len:=len) (cap:=cap) (i:=i) hoke hnl htxe hB hs2 hn' zH hst2 (by rw[hf2.slot _ (.inl zH)];exact hy) h3 hi (hrest i (Nat.le_refl _) hi)
    (fun j hj=>(hfz (i*e.size+j) (by have:=mul_lt (n:=e.size) hi;omega)).eff hE2) hqrb hqsb hqev hrbq zH ?_ ?_
   ·intro a3 w3 c d g1 g2 g3 g4 g5 g6 g7
    refine kn1 a3 w3 g1 ?_ ⟨hEw w3 g6,⟨ds++[d],by simp[hdl],?_,?_⟩,?_⟩
    ·simp only[jK]
     exact g2
    ·intro j d' hj
     rcases Nat.lt_or_ge j ds.length with h | h
     ·rw[List.getElem?_append_left h] at hj
      obtain ⟨c',m1,m2,m3⟩:=hds j d' hj
      have hlt:=mul_lt (n:=e.size) (show j<i by omega)
      refine ⟨c',m1,m2.eff g6 ?_,Ty.Rep.eff g6 ?_ e (q+1) (q+1) c' d' ?_ (Nat.le_refl _) m3⟩
      ·rintro u hu (⟨h,_⟩ | ⟨_,h,_⟩)
       ·exact hqrb h
       ·omega
      ·rintro u (⟨h,_⟩ | ⟨h,_⟩)
       ·exact hst.rd.ne h.symm
       ·exact hqsb h.symm
      ·rintro k u hk _ (⟨h,_⟩ | ⟨h,_⟩)<;>omega
     ·rw[List.getElem?_append_right h] at hj
      have hj0:j-ds.length=0:=by
       rcases Nat.eq_zero_or_pos (j-ds.length) with h | h
       ·exact h
       ·rw[List.getElem?_eq_none (by simp;omega)] at hj;cases hj
      rw[hj0] at hj
      simp only[List.getElem?_cons_zero,Option.some.injEq] at hj
      subst hj
      have:j=i:=by omega
      subst this
      exact ⟨c,g3,g4,g5⟩
    ·intro h
     simp only[jK] at h ⊢
     rw[hdeq (hmono _ h),g7 h]
    ·intro j hj1 hj2
     have hlt:=mul_lt (n:=e.size) (show i<j by omega)
     refine (hrest j zH hj2).eff g6 ?_
     rintro u hu (⟨h,_⟩ | ⟨_,_,h⟩)
     ·exact hqrb h
     ·omega
   ·intro a3 w3 g1 g2 g3 g4 g5
    refine kr1 a3 w3 g1 g2 g3 ⟨hE1.trans' (hEw w3 g4) ?_,?_⟩
    ·rintro k j hk (h | h)
     ·exact h
     ·omega
    ·rw[hrd]
     have:=rdMany_bad (f:=fun s=>e.rd fx ver s) hmono (i+1) (xp fx st).2 (len-(i+1)) (by rw[jK];exact g5)
     rwa [show i+1+(len-(i+1))=len by omega] at this
  ·rintro a2 w2 hf2 hst2 ⟨hE2,⟨ds,hdl,hds,hdeq⟩,_⟩
   have hw2:=hE2.size
   have hE:Eff (RM rb) w w2:=by
    refine hE1.trans' hE2 ?_
    rintro k j hk (h | h)
    ·exact h
    ·omega
   refine fin a2 w2 (.list (some ds)) (hf1.trans (hf2.mono (KR.mono zH htt))) (by rw[hrd];exact hst2) (by rw[hf2.slot _ (.inl zH)];exact hy) ?_ hE ?_
   ·exact ⟨q,cap,by rw[hdl],hq1,by omega,by omega,hds⟩
   ·intro h
    rw[hrd] at h ⊢
    rw[hdeq h]
  ·rintro a2 w2 g1 g2 g3 ⟨g4,g5⟩
   exact kr a2 w2 (by rw[g1,hf1.defers]) (by rw[g2,hs1]) g3 g4 g5
end
end Go.Km
namespace Go.Km
open Go Go.RowKit Go.ChangeMaps
attribute [local irreducible] vc rO_ qz qJ qF
theorem setTag_new (k:Nat) (v:List UInt8):∀ l:List (Nat × List UInt8),(∀ x ∈ l,x.1≠k)->(qv k v l).Perm ((k,v)::l)
 | [],_=>List.Perm.refl _
 | x::l,h=>by
  simp only[qv]
  split
  ·exact List.Perm.refl _
  ·rw[if_neg (fun e=>h x zS e.symm)]
   exact ((setTag_new k v l (fun y hy=>h y (by simp[hy]))).cons x).trans (List.Perm.swap _ _ _)
theorem setTag_old (k:Nat) (v u:List UInt8):∀ l:List (Nat × List UInt8),l.Pairwise (fun x y=>x.1<y.1)->(k,u) ∈ l->∃ rest,l.Perm ((k,u)::rest)/\(qv k v l).Perm ((k,v)::rest)
 | [],_,h=>by simp at h
 | x::l,hs,h=>by
  have h2:=List.pairwise_cons.1 hs
  rcases List.mem_cons.1 h with rfl | h
  ·refine ⟨l,List.Perm.refl _,?_⟩
   simp only[qv]
   rw[if_neg (Nat.lt_irrefl k),if_true]
  ·have hlt:x.1<k:=h2.1 _ h
   obtain ⟨rest,h3,h4⟩:=setTag_old k v u l h2.2 h
   refine ⟨x::rest,(h3.cons x).trans (List.Perm.swap _ _ _),?_⟩
   simp only[qv]
   rw[if_neg zH,if_neg zH]
   exact (h4.cons x).trans (List.Perm.swap _ _ _)
theorem kG (k:Nat) (v:List UInt8):∀ l x,x ∈ qv k v l->x=(k,v)\/x ∈ l
 | [],x,h=>by simpa [qv] using h
 | y::l,x,h=>by
  simp only[qv] at h
  split at h
  ·simpa using h
  ·split at h
   ·rcases List.mem_cons.1 h with h | h
    ·exact .inl h
    ·exact .inr (by simp[h])
   ·rcases List.mem_cons.1 h with h | h
    ·exact .inr (by simp[h])
    ·rcases kG k v l x h with h | h
     ·exact .inl h
     ·exact .inr (by simp[h])
theorem setTag_ok {k:Nat} {v:List UInt8} (hk:k<4294967296):∀ l:List (Nat × List UInt8),TagsOk l->TagsOk (qv k v l):=by
 have key:∀ l:List (Nat × List UInt8),l.Pairwise (fun x y=>x.1<y.1)->(qv k v l).Pairwise (fun x y=>x.1<y.1):=by
  intro l
  induction l with
  | nil=>intro _;simp[qv]
  | cons y l ih =>
   intro h
   have h2:=List.pairwise_cons.1 h
   simp only[qv]
   split
   ·rename_i hk
    refine List.pairwise_cons.2 ⟨fun x hx=>?_,h⟩
    rcases List.mem_cons.1 hx with rfl | hx
    ·exact hk
    ·have:=h2.1 x hx
     show k<x.1
     omega
   ·split
    ·rename_i h1 h3
     exact List.pairwise_cons.2 ⟨fun x hx=>by have:=h2.1 x hx;show k<x.1;omega,h2.2⟩
    ·rename_i h1 h3
     refine List.pairwise_cons.2 ⟨fun x hx=>?_,ih h2.2⟩
     rcases kG k v l x hx with rfl | hx
     ·show y.1<k;omega
     ·exact h2.1 x hx
 rintro l ⟨h1,h2⟩
 refine ⟨key l h1,fun x hx=>?_⟩
 rcases kG k v l x hx with rfl | hx
 ·exact hk
 ·exact h2 x hx
theorem vZ {α:Type}:∀ (l:List α) (i:Nat) (h:i<l.length) (a:α),(l[i]::l.eraseIdx i).Perm l/\(l.set i a).Perm (a::l.eraseIdx i)
 | [],i,h,a=>by simp at h
 | x::l,0,h,a=>by simp
 | x::l,i+1,h,a=>by
  have ih:=vZ l i (by simpa using h) a
  simp only[List.getElem_cons_succ,List.eraseIdx_cons_succ,List.set_cons_succ]
  exact ⟨(List.Perm.swap _ _ _).trans (ih.1.cons x),(ih.2.cons x).trans (List.Perm.swap _ _ _)⟩
def updL (k:Nat) (v:List UInt8) (l:List (Nat × List UInt8)):List (Nat × List UInt8):=match l.findIdx? (·.1==k) with | none=>l++[(k,v)] | some i=>l.set i (k,v)
theorem updL_perm {k:Nat} {v:List UInt8} {l tags:List (Nat × List UInt8)} (h:l.Perm tags) (hs:tags.Pairwise (fun x y=>x.1<y.1)):(updL k v l).Perm (qv k v tags):=by
 unfold updL
 cases hf:l.findIdx? (·.1==k) with
 | none =>
  have hn:=List.findIdx?_eq_none_iff.1 hf
  refine (List.perm_append_singleton _ _).trans (((h.cons (k,v))).trans (setTag_new k v tags (fun x hx e=>?_)).symm)
  have:=hn x (h.mem_iff.2 hx)
  simp[e] at this
 | some i =>
  obtain ⟨hi,hk,_⟩:=List.findIdx?_eq_some_iff_getElem.1 hf
  have hk:(l[i]).1=k:=by simpa using hk
  obtain ⟨u,hu⟩:∃ u,l[i]=(k,u):=⟨(l[i]).2,by rw[← hk]⟩
  have hm:(k,u) ∈ tags:=h.mem_iff.1 (by rw[← hu];exact List.getElem_mem hi)
  obtain ⟨rest,h3,h4⟩:=setTag_old k v u tags hs hm
  have h5:((k,u)::l.eraseIdx i).Perm l:=by rw[← hu];exact (vZ l i hi (k,v)).1
  have h6:(l.eraseIdx i).Perm rest:=(h5.trans (h.trans h3)).cons_inv
  exact (vZ l i hi (k,v)).2.trans ((h6.cons (k,v)).trans h4.symm)
def MapIs (w:World) (sb q:Nat) (l:List (Nat × List UInt8)):Prop :=
 ∃ es clock,w.heap[q]? = some (.map es clock)/\(∀ e ∈ es.toList,e.born<clock)/\(es.toList.map (·.born)).Nodup/\l.length=es.size ∧
  ∀ (i:Nat) (x:Nat × List UInt8),l[i]? = some x->∃ e:MapEntry,es[i]? = some e/\e.key=.int .u32 x.1/\j0 w sb e.val x.2
def zZ (w:World) (sb B:Nat) (v:Value) (tags:List (Nat × List UInt8)):Prop :=
 TagsOk tags/\((v=.map none/\tags=[])\/∃ q l,v=.map (some q)/\B<=q/\q<w.heap.size/\MapIs w sb q l/\l.Perm tags)
theorem zZ.rep {w:World} {sb B:Nat} {v:Value} {tags:List (Nat × List UInt8)} (h:zZ w sb B v tags) (hs:sb<w.heap.size):xR w ⟨sb,fun _=>True⟩ B v tags:=by
 obtain ⟨h1,h2⟩:=h
 refine ⟨h1,trivial,?_⟩
 rcases h2 with h2 | ⟨q,l,hv,hq,hqs,⟨es,clock,hm,hb,hn,hl,he⟩,hp⟩
 ·exact .inl h2
 ·refine .inr ⟨q,es,clock,hv,hq,hqs,hm,hb,hn,l,hp,hl,fun i x hx=>?_⟩
  obtain ⟨e,e1,e2,e3⟩:=he i x hx
  refine ⟨e,e1,e2,?_⟩
  rcases e3 with ⟨e3,e4⟩ | ⟨o,cap,e3,_,e4⟩
  ·exact .inl ⟨e3,e4⟩
  ·exact .inr ⟨sb,o,cap,e3,.inl rfl,hs,e4⟩
theorem zZ.heap {w w':World} {sb B:Nat} {v:Value} {tags:List (Nat × List UInt8)} (h:zZ w sb B v tags) (hs:w'.heap[sb]? = w.heap[sb]?) (hz:w.heap.size<=w'.heap.size) (hk:∀ q,v=.map (some q)->w'.heap[q]? = w.heap[q]?):zZ w' sb B v tags:=by
 obtain ⟨h1,h2⟩:=h
 refine ⟨h1,?_⟩
 rcases h2 with h2 | ⟨q,l,hv,hq,hqs,⟨es,clock,hm,hb,hn,hl,he⟩,hp⟩
 ·exact .inl h2
 ·refine .inr ⟨q,l,hv,hq,by omega,⟨es,clock,by rw[hk q hv];exact hm,hb,hn,hl,fun i x hx=>?_⟩,hp⟩
  obtain ⟨e,e1,e2,e3⟩:=he i x hx
  exact ⟨e,e1,e2,e3.heap hs⟩
section
variable {P : Program}
theorem gg:∀ (es:List MapEntry) (l:List (Nat × List UInt8)) (j k:Nat),l.length=es.length->(∀ (i:Nat) x,l[i]? = some x->∃ e:MapEntry,es[i]? = some e/\e.key=.int .u32 (x.1:Int)) →
  Instr.findNow (.int .u32) (.int .u32 (k:Int)) es j=some ((l.findIdx? (·.1==k)).bind fun i=>(es[i]?).map fun e=>(i+j,e.val))
 | [],[],j,k,_,_=>rfl
 | [],_::_,j,k,h,_=>by simp at h
 | _::_,[],j,k,h,_=>by simp at h
 | e::es,x::l,j,k,hl,h=>by
  obtain ⟨e',he,hk⟩:=h 0 x rfl
  simp only[List.getElem?_cons_zero,Option.some.injEq] at he
  subst he
  unfold Instr.findNow
  rw[hk]
  simp only[Instr.sameNow,if_true]
  rw[List.findIdx?_cons]
  by_cases hx:x.1=k
  ·have h1:((k:Int)==(x.1:Int))=true:=by simp[hx]
   have h2:(x.1==k)=true:=by simp[hx]
   rw[h1,h2]
   simp
  ·have h1:((k:Int)==(x.1:Int))=false:=by simp;omega
   have h2:(x.1==k)=false:=by simp[hx]
   rw[h1,h2]
   simp only[Bool.false_eq_true,if_false]
   rw[gg es l (j+1) k (by simpa using hl) (fun i y hy=>h (i+1) y (by simpa using hy))]
   cases l.findIdx? (·.1==k) with
   | none=>rfl
   | some i =>
    simp only[Option.map_some,Option.bind_some,List.getElem?_cons_succ]
    cases es[i]? with
    | none=>rfl
    | some e=>simp only[Option.map_some,Option.some.injEq,Prod.mk.injEq,and_true];omega
theorem yd {kt:TypeId} {k:Nat} {w:World} {b:Bool} (hk:P.underlying kt=some (.int .u32)):(Instr.checkKey b 10000 kt (.int .u32 (k:Int))).run P w=.ok () w:=by
 have h:∀ n:Nat,(Instr.checkKey b (n+1) kt (.int .u32 (k:Int))).run P w=.ok () w:=fun n=>by simp[Instr.checkKey,run_underlying hk]
 exact h 9999
theorem run_findKey {kt:TypeId} {k:Nat} {w:World} {es:List MapEntry} {l:List (Nat × List UInt8)} (hk:P.underlying kt=some (.int .u32)) (hl:l.length=es.length) (h:∀ (i:Nat) x,l[i]? = some x->∃ e:MapEntry,es[i]? = some e/\e.key=.int .u32 (x.1:Int)) :
  (Instr.findKey kt (.int .u32 (k:Int)) es).run P w=.ok ((l.findIdx? (·.1==k)).bind fun i=>(es[i]?).map fun e=>(i,e.val)) w:=by
 simp only[Instr.findKey,Sem.run_bind,run_underlying hk,Result.andThen_ok,gg es l 0 k hl h,Sem.run_pure,Nat.add_zero]
theorem yK {w:World} {q:Nat} {es:Array MapEntry} {clock:Nat} (hq:w.heap[q]? = some (.map es clock)) (o:Obj):(setObj q o).run P w=.ok () (setBlock w q o):=by
 simp[setObj,Sem.run,hq,setBlock]
theorem run_mapSet {t kt et:TypeId} {w:World} {sb q k:Nat} {l:List (Nat × List UInt8)} {val:Value} {v:List UInt8} (ht:P.underlying t=some (.map kt et)) (hk:P.underlying kt=some (.int .u32)) (hm:MapIs w sb q l) (hs:sb≠q) (hv:j0 w sb val v) :
  ∃ o,(Instr.mapUpdate t (.map (some q)) (.int .u32 (k:Int)) val).run P w=.ok () (setBlock w q o)/\MapIs (setBlock w q o) sb q (updL k v l):=by
 obtain ⟨es,clock,hq,hb,hn,hl,he⟩:=hm
 have hqs:q<w.heap.size:=(Array.getElem?_eq_some_iff.1 hq).1
 have hsb:∀ o,(setBlock w q o).heap[sb]? = w.heap[sb]?:=fun o=>by
  simp only[setBlock]
  rw[Array.getElem?_setIfInBounds_ne (Ne.symm hs)]
 have hqq:∀ o,(setBlock w q o).heap[q]? = some o:=fun o=>by
  simp only[setBlock]
  rw[Array.getElem?_setIfInBounds_self_of_lt hqs]
 have hg:(getObj q).run P w=.ok (.map es clock) w:=by simp[getObj,Sem.run,hq]
 have hfk:=run_findKey (P:=P) (k:=k) (w:=w) (es:=es.toList) (l:=l) hk (by simpa using hl) (fun i x hx=>by obtain ⟨e,e1,e2,_⟩:=he i x hx;exact ⟨e,by simpa using e1,e2⟩)
 cases hf:l.findIdx? (·.1==k) with
 | none =>
  rw[hf] at hfk
  refine ⟨.map (es.push { key:=.int .u32 (k:Int),val:=val,born:=clock }) (clock+1),?_,?_⟩
  ·simp only[Instr.mapUpdate,Sem.run_bind,run_underlying ht,Result.andThen_ok,hg,yd hk,hfk,Option.bind_none,yK hq]
  ·refine ⟨_,_,hqq _,?_,?_,?_,?_⟩
   ·intro e h
    simp only[Array.toList_push,List.mem_append,List.mem_cons,List.not_mem_nil,or_false] at h
    rcases h with h | rfl
    ·have:=hb e h;omega
    ·show clock<clock+1;omega
   ·simp only[Array.toList_push,List.map_append,List.map_cons,List.map_nil]
    refine List.nodup_append.2 ⟨hn,by simp,?_⟩
    intro a ha b hb2 hab
    simp only[List.mem_cons,List.not_mem_nil,or_false] at hb2
    obtain ⟨e,h1,rfl⟩:=List.mem_map.1 ha
    have:=hb e h1
    omega
   ·simp[updL,hf,hl]
   ·intro i x hx
    simp only[updL,hf] at hx
    rcases Nat.lt_or_ge i l.length with h | h
    ·rw[List.getElem?_append_left h] at hx
     obtain ⟨e,e1,e2,e3⟩:=he i x hx
     exact ⟨e,by rw[Array.getElem?_push_lt zH,← e1,Array.getElem?_eq_getElem zH],e2,e3.heap (hsb _)⟩
    ·rw[List.getElem?_append_right h] at hx
     have h0:i-l.length=0:=by
      rcases Nat.eq_zero_or_pos (i-l.length) with h | h
      ·exact h
      ·rw[List.getElem?_eq_none (by simp;omega)] at hx;cases hx
     rw[h0] at hx
     simp only[List.getElem?_cons_zero,Option.some.injEq] at hx
     subst hx
     have:i=es.size:=by omega
     subst this
     exact ⟨{ key:=.int .u32 (k:Int),val:=val,born:=clock },by simp,rfl,hv.heap (hsb _)⟩
 | some i =>
  obtain ⟨hi,hik,_⟩:=List.findIdx?_eq_some_iff_getElem.1 hf
  have hik:(l[i]).1=k:=by simpa using hik
  obtain ⟨e0,f1,f2,f3⟩:=he i l[i] (List.getElem?_eq_getElem hi)
  have hie:i<es.size:=by omega
  rw[hf] at hfk
  have hkey:e0.key=.int .u32 (k:Int):=by rw[f2,hik]
  have hst:(Instr.keyThatStays (.int .u32 (k:Int)) (.int .u32 (k:Int))).run P w=.ok (.int .u32 (k:Int)) w:=by
   have:Instr.sameBits 10000 (.int .u32 (k:Int)) (.int .u32 (k:Int))=true:=by simp[Instr.sameBits]
   simp only[Instr.keyThatStays,this,if_true,Sem.run_pure]
  refine ⟨.map (es.modify i fun e=>{ e with key:=.int .u32 (k:Int),val:=val }) clock,?_,?_⟩
  ·simp only[Instr.mapUpdate,Sem.run_bind,run_underlying ht,Result.andThen_ok,hg,yd hk,hfk,Option.bind_some,Array.getElem?_toList,f1,Option.map_some,Option.getD_some,hkey,hst,yK hq]
  ·have hborn:(es.modify i fun e=>{ e with key:=.int .u32 (k:Int),val:=val }).toList.map (·.born)=es.toList.map (·.born):=by
    apply List.ext_getElem?
    intro j
    simp only[List.getElem?_map,Array.getElem?_toList,Array.getElem?_modify]
    split
    ·cases es[j]?<;>rfl
    ·rfl
   refine ⟨_,_,hqq _,?_,by rw[hborn];exact hn,?_,?_⟩
   ·intro e h
    have:e.born ∈ es.toList.map (·.born):=by rw[← hborn];exact List.mem_map.2 ⟨e,h,rfl⟩
    obtain ⟨e',h1,h2⟩:=List.mem_map.1 this
    rw[← h2]
    exact hb e' h1
   ·simp[updL,hf,hl]
   ·intro j x hx
    simp only[updL,hf] at hx
    by_cases hj:i=j
    ·subst hj
     rw[List.getElem?_set_self zH] at hx
     simp only[Option.some.injEq] at hx
     subst hx
     refine ⟨{ e0 with key:=.int .u32 (k:Int),val:=val },by rw[Array.getElem?_modify,if_pos rfl,f1];rfl,rfl,hv.heap (hsb _)⟩
    ·rw[List.getElem?_set_ne hj] at hx
     obtain ⟨e,e1,e2,e3⟩:=he j x hx
     exact ⟨e,by rw[Array.getElem?_modify,if_neg hj];exact e1,e2,e3.heap (hsb _)⟩
end
end Go.Km
namespace Go.Km
open Go Go.RowKit Go.ChangeMaps
attribute [local irreducible] vc rO_ qz qJ qF
theorem yJ {w:World} {B q:Nat} (o:Obj) (h:B<=q):Below B w (setBlock w q o):=by
 refine ⟨rfl,rfl,rfl,?_,fun k hk=>?_⟩
 ·simp[setBlock]
 ·simp only[setBlock]
  rw[Array.getElem?_setIfInBounds_ne zH]
theorem jh {w:World} {q k:Nat} (o:Obj) (h:k≠q):(setBlock w q o).heap[k]? = w.heap[k]?:=by
 simp only[setBlock]
 rw[Array.getElem?_setIfInBounds_ne (Ne.symm h)]
theorem jD (w:World) (q:Nat) (o:Obj):(setBlock w q o).heap.size=w.heap.size:=by simp[setBlock]
theorem kJ {w w':World} {b o:Nat} (h:w'.heap[b]? = w.heap[b]?):w'.cell? ⟨b,o,none⟩=w.cell? ⟨b,o,none⟩:=by
 simp only[World.cell?]
 rw[h]
theorem zy {w w':World} {b o:Nat} (h:w'.heap[b]? = w.heap[b]?) (hf:qt w b o):qt w' b o:=by
 refine ⟨by rw[kJ h];exact hf.1,?_⟩
 have:=hf.2
 simp only[World.frozen?] at this ⊢
 rw[h]
 exact this
theorem ne_map {w:World} {b o q:Nat} {v:Value} {es:Array MapEntry} {clock:Nat} (hc:w.cell? ⟨b,o,none⟩=some v) (hq:w.heap[q]? = some (.map es clock)):b≠q:=by
 rintro rfl
 simp[World.cell?,hq] at hc
structure TagT (P:Program) (E:Env):Prop where
 map:P.underlying E.tTagMap=some (.map E.tW E.tB)
 u32:P.underlying E.tW=some (.int .u32)
 oMap:qQ P E.tTagMap=true
 f0:qk P E.tTags 0=some 0
 aTags:z7 P E.tTags=some 1
 zTags:qK P E.tTags=some (.agg #[.map none])
section
variable {P : Program} {a : Act} {w : World} {r : List Oper} {Q : Exit → Act → World → Prop}
theorem yl {d t x yt ty p af g m kt et} (ht:P.underlying t=some (.map kt et)) (hx:a.eval x=.map m) (h:rO_ P Q r (a.put (some d) (.bool m.isNone)) w):rO_ P Q (⟨some d,.binOp .eql t x (.const (.map none)) yt,ty,p,af,g⟩::r) a w:=by
 refine st ?_
 have hb:(binOp .eql t (.map m) (.map none)).run P w=.ok (.bool m.isNone) w:=by
  have h0:∀ k:Nat,(Op.equalIn (k+1) t (.map m) (.map none)).run P w=.ok m.isNone w:=fun k=>by
   cases m<;>simp[Op.equalIn,run_underlying ht]
  simp only[binOp]
  simp[Op.equal,Op.maxDepth,h0 9999]
 simp only[Oper.wp,execOp,hx,xg,eqGuard_at_map,hb,Sem.run_bind,Sem.run_pure,Result.andThen_ok,Oper.upon_value]
 exact h
theorem r_makeMap {d t ty p af g} (h:rO_ P Q r (a.put (some d) (.map (some w.heap.size))) (w.alloc (.map #[] 0))):rO_ P Q (⟨some d,.makeMap t none,ty,p,af,g⟩::r) a w:=by
 refine st ?_
 have hr:(Instr.makeMap t none).run P w=.ok (.map (some w.heap.size)) (w.alloc (.map #[] 0)):=rfl
 simp only[Oper.wp,execOp,Option.map_none,Sem.run_bind,hr,Result.andThen_ok,Sem.run_pure,Oper.upon_value]
 exact h
theorem r_mapUpdate {t m k x ty p af g mv kv xv w'} (hm:a.eval m=mv) (hk:a.eval k=kv) (hx:a.eval x=xv) (hr:(Instr.mapUpdate t mv kv xv).run P w=.ok () w') (h:rO_ P Q r a w'):rO_ P Q (⟨none,.mapUpdate t m k x,ty,p,af,g⟩::r) a w:=by
 refine st ?_
 simp only[Oper.wp,execOp,hm,hk,hx,Sem.run_bind,hr,Result.andThen_ok,Sem.run_pure,Oper.upon_skip]
 exact h
end
section
variable {P : Program} {E : Env}
theorem k_gSet (H:TagT P E) (ht:Text P E.gSet 3 21 #[] (c_gSet E)) {w:World} {b sb B k:Nat} {v val:Value} {tags:List (Nat × List UInt8)} {l:List UInt8} (hc:w.cell? ⟨b,0,none⟩=some v) (hf:qt w b 0) (hm:zZ w sb B v tags) (hv:j0 w sb val l) (hk:k<4294967296) (hB:B<=b) (hBz:B<=w.heap.size) (hsb:sb<B) :
  qa P E.gSet #[.pointer (some ⟨b,0,none⟩),.int .u32 (k:Int),val] w fun _ w'=>Below B w w'/\∃ v',w'.cell? ⟨b,0,none⟩=some v'/\v'.oneCell'=true/\qt w' b 0/\zZ w' sb B v' (qv k l tags):=by
 refine qa.enter ht zS ?_
 intro a hsz hdf harg
 have e0:=harg 0 (.pointer (some ⟨b,0,none⟩)) zS
 have e1:=harg 1 (.int .u32 (k:Int)) zS
 have e2:=harg 2 val zS
 have hblt:b<w.heap.size:=qo hc
 have tail:∀ (A:Act) (w1:World) (q:Nat) (ls:List (Nat × List UInt8)),A.tmps.size=21->A.defers=[]->(∀ i:Nat,i<3->A.eval (.tmp i)=a.eval (.tmp i))->w1.cell? ⟨b,0,none⟩=some (.map (some q))->qt w1 b 0->MapIs w1 sb q ls->ls.Perm tags->B<=q->Below B w w1 →
   vc P (rg [(oQ 15 (.move (.tmp 0)) E.tPTags),
   (oQ 16 (.nilCheck (.tmp 15)) 0),
   (oQ 17 (.fieldAddr E.tTags (.tmp 16) 0) 0),
   (oQ 18 (.load E.tTagMap (.tmp 17)) E.tTagMap),
   (oQ 19 (.move (.tmp 1)) E.tW),
   (oQ 20 (.move (.tmp 2)) E.tB),
   ⟨none,.mapUpdate E.tTagMap (.tmp 18) (.tmp 19) (.tmp 20),0,"",#[],none⟩])
   (Out P #[] fun _ w'=>Below B w w'/\∃ v',w'.cell? ⟨b,0,none⟩=some v'/\v'.oneCell'=true/\qt w' b 0/\zZ w' sb B v' (qv k l tags)) A w1:=by
  intro A w1 q ls hs hd hA hcq hfq hmi hperm hBq hb1
  have g0:=(hA 0 zH).trans e0
  have g1:=(hA 1 zH).trans e1
  have g2:=(hA 2 zH).trans e2
  have hv1:j0 w1 sb val l:=hv.heap (hb1.block sb hsb)
  have hne:b≠q:=by
   obtain ⟨es,clock,hq,_⟩:=hmi
   exact ne_map hcq hq
  have hqs:q<w1.heap.size:=by
   obtain ⟨es,clock,hq,_⟩:=hmi
   exact (Array.getElem?_eq_some_iff.1 hq).1
  obtain ⟨o,hr,hmi'⟩:=run_mapSet (P:=P) (k:=k) H.map H.u32 hmi zH hv1
  refine vR zS ?_
  refine rM ?_
  refine qY (ad:=⟨b,0,none⟩) zA ?_
  refine rF (b:=b) (o:=0) zE H.f0 ?_
  refine rL (b:=b) (o:=0+0) (v:=.map (some q)) zE H.oMap (by simpa using hcq) ?_
  refine rM (rM ?_)
  refine r_mapUpdate (mv:=.map (some q)) (kv:=.int .u32 (k:Int)) (xv:=val) (w':=setBlock w1 q o) zE zA zA hr ?_
  refine dn ?_
  refine ⟨by simp only[dF];exact hd,.tuple #[],by simp[results],hb1.trans (yJ o hBq),.map (some q),by rw[kJ (jh o hne)];exact hcq,rfl,zy (jh o hne) hfq,setTag_ok hk _ hm.1,.inr ⟨q,updL k l ls,rfl,hBq,by rw[jD];exact hqs,hmi',updL_perm hperm hm.1.1⟩⟩
 unfold c_gSet
 refine vS (vX (rM ?_))
 refine qY (ad:=⟨b,0,none⟩) zA ?_
 refine rF (b:=b) (o:=0) zE H.f0 ?_
 refine rL (b:=b) (o:=0+0) (v:=v) zE H.oMap (by simpa using hc) ?_
 rcases hm.2 with ⟨rfl,rfl⟩ | ⟨q,ls,rfl,hBq,hqs,hmi,hperm⟩
 ·refine yl (m:=none) H.map zE ?_
  refine dn ?_
  refine vS (vC (t:=true) (by simp (disch:=(try simp only[sP]);omega) only[eV];rfl) ?_ (fun h=>by cases h))
  intro _
  refine vR zS ?_
  refine rM ?_
  refine r_makeMap ?_
  refine qY (ad:=⟨b,0,none⟩) zA ?_
  refine rF (b:=b) (o:=0) zE H.f0 ?_
  have hb1:Below w.heap.size w (w.alloc (.map #[] 0)):=(Below.refl w.heap.size w).alloc (o:=.map _ _) (Nat.le_refl _)
  have hf1:qt (w.alloc (.map #[] 0)) b 0:=zy (hb1.block b hblt) hf
  refine xq (b:=b) (o:=0+0) (v:=.map (some w.heap.size)) zE zE rfl H.oMap (by simpa using hf1) ?_
  refine dn (vN ?_)
  have hnew:(w.alloc (.map #[] 0)).heap[w.heap.size]? = some (.map #[] 0):=heap_alloc_new w _
  have hnew2:((w.alloc (.map #[] 0)).setCell ⟨b,0+0,none⟩ (.map (some w.heap.size))).heap[w.heap.size]? = some (.map #[] 0):=by
   rw[← hnew]
   exact Below.heap_setCell _ _ _ _ (by show w.heap.size≠b;omega)
  have hb2:Below B w ((w.alloc (.map #[] 0)).setCell ⟨b,0+0,none⟩ (.map (some w.heap.size))):=(hb1.mono hBz).setCell (p:=⟨b,0+0,none⟩) hB _
  refine tail _ _ w.heap.size [] (by simp only[zP];exact hsz) (by simp only[dF];exact hdf) (fun i hi=>by exact zE) (qp _ (by simpa using hf1.1)) ?_ ?_ (List.Perm.refl _) hBz hb2
  ·exact (show qt (w.alloc (.map #[] 0)) b 0 from hf1).eff ((Eff.refl (fun k _=>k=b) _).setCell _ _ _ (fun _=>rfl))
  ·exact ⟨#[],0,hnew2,by simp,by simp,rfl,fun i x hx=>by simp at hx⟩
 ·refine yl (m:=some q) H.map zE ?_
  refine dn ?_
  refine vS (vC (t:=false) (by simp (disch:=(try simp only[sP]);omega) only[eV];rfl) (fun h=>by cases h) ?_)
  intro _
  refine vK (vN ?_)
  exact tail _ _ q ls (by simp only[zP];exact hsz) (by simp only[dF];exact hdf) (fun i hi=>by exact zE) hc hf hmi hperm hBq (Below.refl _ _)
end
end Go.Km
namespace Go.Km
open Go Go.RowKit Go.ChangeMaps
attribute [local irreducible] vc rO_ qz qJ qF
theorem effBelow {M:Nat->Nat->Prop} {W w w':World} (h:Eff M W w) (hb:Below W.heap.size w w'):Eff M W w' :=
 ⟨hb.os.trans h.os,hb.tape.trans h.tape,hb.output.trans h.output,Nat.le_trans h.size hb.size,fun k hk=>(h.block k hk).trans (qM.of_eq (hb.block k hk))⟩
theorem ye:∀ (n:Nat) (acc:List (Nat × List UInt8)) (st:RSt),qR (n+1) acc st=(qv (xn (qR n acc st).2).1.1 (xn (qR n acc st).2).1.2 (qR n acc st).1,(xn (qR n acc st).2).2)
 | 0,acc,st=>rfl
 | n+1,acc,st=>by
  rw[qR,ye n _ _]
  rfl
theorem wrapu32 {n:Int} (h0:0<=n) (h1:n<4294967296):IntKind.u32.wrap n=n:=by
 have h2:(2:Int) ^ 32=4294967296:=by decide
 simp only[IntKind.wrap,IntKind.bits,IntKind.signed,Bool.false_and,Bool.false_eq_true,if_false,h2]
 omega
section
variable {P : Program} {E : Env}
theorem zZ.eff {rb sb B:Nat} {w w':World} {v:Value} {tags:List (Nat × List UInt8)} (h:zZ w sb B v tags) (he:Eff (RM rb) w w') (hrb:rb<B) (hne:rb≠sb) (hsb:sb<w.heap.size):zZ w' sb B v tags:=by
 refine h.heap (he.blockEq hsb (by rintro i ⟨e,_⟩;exact hne e.symm)) he.size ?_
 rintro q rfl
 obtain ⟨_,h2⟩:=h
 rcases h2 with ⟨h2,_⟩ | ⟨q',l,hv,hq,hqs,_⟩
 ·cases h2
 ·cases hv
  exact he.blockEq hqs (by rintro i ⟨e,_⟩;omega)
set_option maxHeartbeats 1000000 in
theorem tagsR (H:TagT P E) (iu:qr P E.tW=some .u32) (ii:qr P E.tI=some .i64) (cU:E.rTags≠0->CUv P E) (cS:E.rTags≠0->yz P E) (hset:E.rTags≠0->Text P E.gSet 3 21 #[] (c_gSet E)) (ht:E.rTags≠0->Text P E.rTags 1 24 #[.cell 2 E.tTags] (c_rTags E)):TagsR P E (fun _=>True):=by
 intro hne rb sb st W hr
 have cU:=cU hne
 have cS:=cS hne
 have hset:=hset hne
 have ht:=ht hne
 have hrlt:=hr.rb_lt
 have hslt:=hr.lt
 refine qa.enter ht zS ?_
 intro a hsz hdf harg
 have e0:=harg 0 (.pointer (some ⟨rb,0,none⟩)) zS
 unfold c_rTags
 refine vX ?_
 refine qI H.zTags ?_
 refine dn (vX ?_)
 refine qI H.zTags ?_
 refine dn ?_
 have hb0:Below W.heap.size W ((W.alloc (.cells (Value.agg #[.map none]).cells E.tTags)).alloc (.cells (Value.agg #[.map none]).cells E.tTags)) :=
  ((Below.refl W.heap.size W).alloc (o:=.cells _ _) (Nat.le_refl _)).alloc (o:=.cells _ _) zS
 have hf2:qt ((W.alloc (.cells (Value.agg #[.map none]).cells E.tTags)).alloc (.cells (Value.agg #[.map none]).cells E.tTags)) W.heap.size 0 :=
  (qm W _ E.tTags (by simp[Value.cells])).eff ((Eff.refl (fun _ _=>False) _).alloc _)
 have hf3:qt ((W.alloc (.cells (Value.agg #[.map none]).cells E.tTags)).alloc (.cells (Value.agg #[.map none]).cells E.tTags)) (W.heap.size+1) 0:=by
  have:=qm (W.alloc (.cells (Value.agg #[.map none]).cells E.tTags)) (Value.agg #[.map none]).cells E.tTags (i:=0) (by simp[Value.cells])
  simpa using this
 have hc3:((W.alloc (.cells (Value.agg #[.map none]).cells E.tTags)).alloc (.cells (Value.agg #[.map none]).cells E.tTags)).cell? ⟨W.heap.size+1,0,none⟩=some (.map none):=by
  have:=qs (W.alloc (.cells (Value.agg #[.map none]).cells E.tTags)) (Value.agg #[.map none]).cells E.tTags (i:=0) (v:=.map none) (by simp[Value.cells])
  simpa using this
 have hz0:((W.alloc (.cells (Value.agg #[.map none]).cells E.tTags)).alloc (.cells (Value.agg #[.map none]).cells E.tTags)).heap.size=W.heap.size+2:=by simp
 have hsz1:(W.alloc (.cells (Value.agg #[.map none]).cells E.tTags)).heap.size=W.heap.size+1:=by simp
 generalize ha1:Act.put (Act.put a _ _) _ _=a1
 have hfr1:Fr (fun k=>k<2) a a1:=by
  subst ha1
  exact ((Fr.refl _ a).put _ zH).put _ zH
 have h12:a1.eval (.tmp 2)=.pointer (some ⟨W.heap.size,0,none⟩):=by subst ha1;exact zE
 have h13:a1.eval (.tmp 3)=.pointer (some ⟨W.heap.size+1,0,none⟩):=by subst ha1;rw[← hsz1];exact zE
 have hs1:=hfr1.size
 clear ha1
 generalize hW0:(W.alloc (.cells (Value.agg #[.map none]).cells E.tTags)).alloc (.cells (Value.agg #[.map none]).cells E.tTags)=w0 at *
 generalize hB:W.heap.size=B0 at *
 have hr0:RdS w0 rb sb st:=hr.below hb0 zH zH
 refine vS (vX (rM ?_))
 refine q8 (args:=#[.pointer (some ⟨rb,0,none⟩)]) ?_ (cU rb sb st w0 hr0) ?_
 ·simp only[lM]
  simp (disch:=(try simp only[sP]);omega) only[eV,hfr1.slot 0 zH,e0]
 rintro v w1 ⟨rfl,hr1,hE1,_⟩
 refine rA (dn ?_)
 generalize ha2:Act.put _ (some 4) _=a2
 have hfr2:Fr (fun k=>k<4) a1 a2:=by
  subst ha2
  exact (((Fr.refl _ a1).put _ zH).put _ zH).put _ zH
 have h24:a2.eval (.tmp 4)=.int .u32 ((qn st).1:Int):=by subst ha2;exact zE
 have hs2:=hfr2.size
 clear ha2
 have hn:=z9 st
 have hbW:Eff (RM rb) W w0:=Eff.of_below (by rw[hB];exact hb0)
 have hEW1:Eff (RM rb) W w1:=hbW.trans hE1
 have hz1:=hE1.size
 generalize hnn:(qn st).1=n at *
 -- the loop
 refine vS (qh (zI (fun A w=>∃ i,i<=n/\A.tmps.size=24/\A.defers=[]/\A.eval (.tmp 0)=.pointer (some ⟨rb,0,none⟩)/\A.eval (.tmp 2)=.pointer (some ⟨B0,0,none⟩)/\A.eval (.tmp 3)=.pointer (some ⟨B0+1,0,none⟩)/\A.eval (.tmp 4)=.int .u32 ((n-i:Nat):Int) ∧
   RdS w rb sb (qR i [] (qn st).2).2/\Eff (RM rb) W w/\B0+2<=w.heap.size/\qt w B0 0/\qt w (B0+1) 0/\∃ v tags,w.cell? ⟨B0+1,0,none⟩=some v/\v.oneCell'=true/\zZ w sb (B0+1) v tags/\((qR i [] (qn st).2).2.2=false->tags=(qR i [] (qn st).2).1))
  (fun A _=>(intOf (A.eval (.tmp 4))).toNat) ?_ ?_))
 ·refine ⟨0,Nat.zero_le _,by rw[hs2,hs1,hsz],by rw[hfr2.defers,hfr1.defers,hdf],by rw[hfr2.slot 0 zH,hfr1.slot 0 zH];exact e0,by rw[hfr2.slot 2 zH];exact h12,by rw[hfr2.slot 3 zH];exact h13,h24,hr1,hEW1,by omega,hf2.eff hE1,hf3.eff hE1,.map none,[],?_,rfl,⟨⟨List.Pairwise.nil,by simp⟩,.inl ⟨rfl,rfl⟩⟩,fun _=>rfl⟩
  exact hE1.cellSome hc3 (by rintro ⟨e,_⟩;omega)
 rintro A w ⟨i,hi,hsA,hdA,g0,g2,g3,g4,hrw,hEw,hzw,hfw2,hfw3,v,tags,hcv,hv1,htm,hteq⟩
 refine vS (vX (rM ?_))
 refine ji (k:=.u32) (m:=((n-i:Nat):Int)) (n:=0) zA rfl ?_
 refine dn ?_
 refine vS (vC (t:=decide (((n-i:Nat):Int)>0)) zE ?_ ?_)
 ·intro h
  have hlt:i<n:=by
   have:((n-i:Nat):Int)>0:=by simpa using h
   omega
  refine vK (vN ?_)
  refine vS (qh (vX ?_))
  refine rM ?_
  refine q8 (args:=#[.pointer (some ⟨rb,0,none⟩)]) ?_ (cU rb sb _ w hrw) ?_
  ·simp only[lM]
   simp (disch:=(try simp only[sP]);omega) only[eV,g0]
  rintro v2 w2 ⟨rfl,hr2,hE2,_⟩
  refine rM ?_
  refine q8 (args:=#[.pointer (some ⟨rb,0,none⟩)]) ?_ (cU rb sb _ w2 hr2) ?_
  ·simp only[lM]
   simp (disch:=(try simp only[sP]);omega) only[eV,g0]
  rintro v3 w3 ⟨rfl,hr3,hE3,hNN3⟩
  refine rA (rA (dn (vX (rM (rM (rM ?_))))))
  have hk1:=z9 (qR i [] (qn st).2).2
  have hk2:=z9 (qn (qR i [] (qn st).2).2).2
  refine qL (k:=.u32) (k':=.i64) (m:=((qn (qn (qR i [] (qn st).2).2).2).1:Int)) iu ii zE ?_
  rw[wrap_i64 zH zH]
  refine q8 (args:=#[.pointer (some ⟨rb,0,none⟩),.int .i64 ((qn (qn (qR i [] (qn st).2).2).2).1:Int)]) ?_ (cS rb sb _ _ w3 hr3) ?_
  ·simp only[lM]
   simp (disch:=(try simp only[sP]);omega) only[eV,g0]
  rintro sv w4 ⟨hsv,hr4,hE4,_⟩
  have hE24:Eff (RM rb) w w4:=(hE2.trans hE3).trans hE4
  have hz4:=hE24.size
  have htm4:zZ w4 sb (B0+1) v tags:=htm.eff hE24 zH hr.ne zH
  refine q8 (args:=#[.pointer (some ⟨B0+1,0,none⟩),.int .u32 ((qn (qR i [] (qn st).2).2).1:Int),sv]) ?_
   (k_gSet H hset (B:=B0+1) (hE24.cellSome hcv (by rintro ⟨e,_⟩;omega)) (hfw3.eff hE24) htm4 hsv hk1 (Nat.le_refl _) zH zH) ?_
  ·simp only[lM]
   simp (disch:=(try simp only[sP]);omega) only[eV,g3]
  rintro v5 w5 ⟨hb5,v',hc5,hv5,hf5,htm5⟩
  refine dn ?_
  have hz5:=hb5.size
  refine vN (vX (rM ?_))
  refine yw (k:=.u32) (m:=((n-i:Nat):Int)) (n:=1) zA rfl ?_
  rw[wrapu32 zH zH]
  refine rA (dn (vN ?_))
  generalize hA5:Act.put _ (some 4) _=A5
  have hfr5:Fr (fun k=>k<4) A A5:=by
   subst hA5
   exact ((((((((((((((Fr.refl _ A).put _ zH).put _ zH).put _ zH).put _ zH).put _ zH).put _ zH).put _ zH).put _ zH).put _ zH).put _ zH).put _ zH).put _ zH |>.put _ zH).put _ zH |>.put _ zH).put _ zH |>.put _ zH
  have h54:A5.eval (.tmp 4)=.int .u32 (((n-i:Nat):Int)-1):=by subst hA5;exact zE
  have e1:((n-i:Nat):Int)-1=((n-(i+1):Nat):Int):=by omega
  rw[e1] at h54
  have hEW5:Eff (RM rb) W w5:=effBelow (hEw.trans hE24) (by rw[hB];exact hb5.mono zH)
  refine ⟨⟨i+1,hlt,by rw[hfr5.size];exact hsA,by rw[hfr5.defers];exact hdA,by rw[hfr5.slot 0 zH];exact g0,by rw[hfr5.slot 2 zH];exact g2,by rw[hfr5.slot 3 zH];exact g3,h54,?_,hEW5,by omega,?_,hf5,v',_,hc5,hv5,htm5,?_⟩,?_⟩
  ·rw[ye]
   exact (show RdS w4 rb sb (xn (qR i [] (qn st).2).2).2 from hr4).below hb5 zH zH
  ·have:=hfw2.eff hE24
   exact zy (hb5.block B0 zH) this
  ·intro hbad
   rw[ye] at hbad ⊢
   rw[hteq (yf hbad)]
   rfl
  ·show (intOf _).toNat<(intOf _).toNat
   rw[h54,g4]
   simp only[intOf,Int.toNat_natCast]
   omega
 ·intro h
  have hin:i=n:=by
   have:¬ (((n-i:Nat):Int)>0):=by simpa using h
   omega
  subst hin
  refine xb ?_
  simp only[Exit.then,Exit.inBlock,if_true]
  refine vN (vX ?_)
  have hcc:qb w (B0+1) 0 [v]:=by
   intro j u hu
   cases j with
   | zero=>simp only[List.getElem?_cons_zero,Option.some.injEq] at hu;subst hu;exact hcv
   | succ j=>simp at hu
  refine qf (b:=B0+1) (o:=0) (cs:=[v]) zA H.aTags hcc ?_
  have hfree:∀ j,j < [v].length->qt w B0 (0+j):=fun j hj=>by
   have:j=0:=by simpa using hj
   subst this
   exact hfw2
  refine qu (b:=B0) (o:=0) (cs:=[v]) zA zE (by simpa using hv1) H.aTags hfree ?_
  refine dn (vS (vT ?_))
  have hE9:=qe B0 [v] w 0
  have hcells:qb (setCells w B0 0 [v]) B0 0 [v]:=fun j u hu=>qg _ _ _ _ (fun j hj=>(hfree j hj).1) j u hu
  refine ⟨by simp only[dF];exact hdA,.agg [v].toArray,z8 (b:=B0) (o:=0) (cs:=[v]) zA H.aTags hcells,⟨v,tags,rfl,hv1,?_,fun hb=>?_⟩,?_,?_⟩
  ·have htm':zZ (setCells w B0 0 [v]) sb (B0+1) v tags:=by
    refine htm.heap (hE9.blockEq zH (by rintro j ⟨e,_⟩;omega)) hE9.size ?_
    rintro q rfl
    rcases htm.2 with ⟨h2,_⟩ | ⟨q',l,hv,hq,hqs,_⟩
    ·cases h2
    ·cases hv
     exact hE9.blockEq hqs (by rintro j ⟨e,_⟩;omega)
   have:=htm'.rep (by have:=hE9.size;omega)
   obtain ⟨k1,k2,k3⟩:=this
   refine ⟨k1,k2,?_⟩
   rcases k3 with k3 | ⟨q,es,clock,k4,k5,k6⟩
   ·exact .inl k3
   ·obtain ⟨k7,k8,k9,k10,l,k11,k12,k13⟩:=k6
    refine .inr ⟨q,es,clock,k4,by omega,k7,k8,k9,k10,l,k11,k12,fun j x hx=>?_⟩
    obtain ⟨e,m1,m2,m3⟩:=k13 j x hx
    exact ⟨e,m1,m2,m3.imp id (fun ⟨c,o,cap,z1,z2,z3⟩=>⟨c,o,cap,z1,z2.imp id (fun h=>by omega),z3⟩)⟩
  ·have e:(zd st)=qR i [] (qn st).2:=by unfold zd;rw[hnn]
   rw[e] at hb ⊢
   exact hteq hb
  ·have e:(zd st)=qR i [] (qn st).2:=by unfold zd;rw[hnn]
   rw[e]
   exact hrw.keep hE9 (by rintro j ⟨e,_⟩;omega) (by rintro j ⟨e,_⟩;omega)
  ·refine hEw.trans' hE9 ?_
   rintro k j hk ⟨e,_⟩
   omega
end
end Go.Km
namespace Go.Km
open Go Go.RowKit Go.ChangeMaps
section
variable {P : Program} {a : Act} {w : World} {Q : Exit → Act → World → Prop} {ops : List Oper} {S : World → Prop}
theorem d_nilC {i d:Nat} {x:Operand} {ty:TypeId} {p af g} {ad:Addr} {r:List (Nat × Bool)} (ho:ops[i]? = some ⟨some d,.nilCheck x,ty,p,af,g⟩) (hw:jP ops a ⟨some d,.nilCheck x,ty,p,af,g⟩=true) (hx:a.eval x=.pointer (some ad)) (hS:S w)
  (h:qF P ops Q S r (a.put (some d) (.pointer (some ad))) w):qF P ops Q S ((i,true)::r) a w :=
 ⟨_,.pointer (some ad),ho,.inl ⟨hw,fun w' _=>by simp[execOp,hx]⟩,hS,h⟩
end
attribute [local irreducible] vc rO_ qz qJ qF
structure SetE (pb o:Nat) (v:Value) (w w':World):Prop where
 os:w'.os=w.os
 tape:w'.tape=w.tape
 output:w'.output=w.output
 size:w.heap.size<=w'.heap.size
 block:∀ k,k<w.heap.size->v≠.map (some k)->qM (fun i=>k=pb/\i=o) w.heap[k]? w'.heap[k]?
theorem SetE.refl (pb o:Nat) (v:Value) (w:World):SetE pb o v w w:=⟨rfl,rfl,rfl,Nat.le_refl _,fun _ _ _=>qM.refl _ _⟩
theorem SetE.of_eff {pb o:Nat} {v:Value} {w w':World} (h:Eff (fun k i=>k=pb/\i=o) w w'):SetE pb o v w w':=⟨h.os,h.tape,h.output,h.size,fun k hk _=>h.block k hk⟩
theorem SetE.setBlock {pb o q:Nat} {v:Value} {w w1:World} (h:SetE pb o v w w1) (ob:Obj) (hq:∀ k,k<w.heap.size->v≠.map (some k)->k≠q):SetE pb o v w (setBlock w1 q ob) :=
 ⟨h.os,h.tape,h.output,by rw[jD];exact h.size,fun k hk hn=>(h.block k hk hn).trans (qM.of_eq (jh ob (hq k hk hn)))⟩
theorem SetE.eff {M:Nat->Nat->Prop} {pb o:Nat} {v:Value} {W w w':World} (h:SetE pb o v w w') (he:Eff M W w) (hq:∀ q,v=.map (some q)->W.heap.size<=q) (hM:pb<W.heap.size->M pb o):Eff M W w':=by
 refine ⟨h.os.trans he.os,h.tape.trans he.tape,h.output.trans he.output,Nat.le_trans he.size h.size,fun k hk=>(he.block k hk).trans ((h.block k (Nat.lt_of_lt_of_le hk he.size) (fun e=>by have:=hq k e;omega)).mono ?_)⟩
 rintro i ⟨rfl,rfl⟩
 exact hM hk
theorem SetE.at {pb o k:Nat} {v:Value} {w w':World} (h:SetE pb o v w w') (hk:k<w.heap.size) (hn:v≠.map (some k)) (hp:k≠pb):w'.heap[k]? = w.heap[k]?:=(h.block k hk hn).eq (fun i ⟨e,_⟩=>hp e)
theorem SetE.cell {pb o b i:Nat} {v u:Value} {w w':World} (h:SetE pb o v w w') (hc:w.cell? ⟨b,i,none⟩=some u) (hm:v≠.map (some b)) (hp:¬ (b=pb/\i=o)):w'.cell? ⟨b,i,none⟩=some u :=
 ((h.block b (qo hc) hm).cell hp).trans hc
theorem SetE.cells {pb o b i:Nat} {v:Value} {w w':World} {cs:List Value} (h:SetE pb o v w w') (hc:qb w b i cs) (hm:v≠.map (some b)) (hp:∀ j,j<cs.length->¬ (b=pb/\i+j=o)):qb w' b i cs:=by
 intro j u hu
 refine h.cell (hc j u hu) hm (hp j ?_)
 rcases Nat.lt_or_ge j cs.length with h | h
 ·exact h
 ·rw[List.getElem?_eq_none h] at hu;cases hu
theorem zZ.ne {w:World} {sb B b o:Nat} {v u:Value} {tags:List (Nat × List UInt8)} (h:zZ w sb B v tags) (hc:w.cell? ⟨b,o,none⟩=some u):v≠.map (some b):=by
 rintro rfl
 rcases h.2 with ⟨h,_⟩ | ⟨q,l,hv,_,_,⟨es,clock,hm,_⟩,_⟩
 ·cases h
 ·cases hv
  exact ne_map hc hm rfl
theorem zZ.low {w:World} {sb B:Nat} {v:Value} {tags:List (Nat × List UInt8)} (h:zZ w sb B v tags):∀ q,v=.map (some q)->B<=q:=by
 rintro q rfl
 rcases h.2 with ⟨h,_⟩ | ⟨q,l,hv,hq,_⟩
 ·cases h
 ·cases hv;exact hq
theorem RdS.heapEq {w w':World} {rb sb:Nat} {st:RSt} (h:RdS w rb sb st) (h1:w'.heap[rb]? = w.heap[rb]?) (h2:w'.heap[sb]? = w.heap[sb]?) (hz:w.heap.size<=w'.heap.size):RdS w' rb sb st:=by
 obtain ⟨v,hc,hv⟩:=h.cells
 exact ⟨h.ne,Nat.lt_of_lt_of_le h.lt hz,⟨v,fun i u hu=>(kJ h1).trans (hc i u hu),hv.heap h2⟩,zy h1 h.f0,zy h1 h.f1,h.len⟩
section
variable {P : Program} {E : Env}
theorem tne {x y:Nat} (h:x≠y):¬ (@Eq Tmp x y):=h
theorem k_gSetO (H:TagT P E) (ht:Text P E.gSet 3 21 #[] (c_gSet E)) {w:World} {b o sb B k:Nat} {v val:Value} {tags:List (Nat × List UInt8)} {l:List UInt8} (hc:w.cell? ⟨b,o,none⟩=some v) (hf:qt w b o) (hm:zZ w sb B v tags) (hv:j0 w sb val l) (hk:k<4294967296) (hbs:b≠sb) (hBz:B<=w.heap.size) (hsb:sb<B) :
  qa P E.gSet #[.pointer (some ⟨b,o,none⟩),.int .u32 (k:Int),val] w fun _ w'=>SetE b o v w w'/\∃ v',w'.cell? ⟨b,o,none⟩=some v'/\v'.oneCell'=true/\qt w' b o/\zZ w' sb B v' (qv k l tags):=by
 refine qa.enter ht zS ?_
 intro a hsz hdf harg
 have e0:=harg 0 (.pointer (some ⟨b,o,none⟩)) zS
 have e1:=harg 1 (.int .u32 (k:Int)) zS
 have e2:=harg 2 val zS
 have hblt:b<w.heap.size:=qo hc
 have tail:∀ (A:Act) (w1:World) (q:Nat) (ls:List (Nat × List UInt8)),A.tmps.size=21->A.defers=[]->(∀ i:Nat,i<3->A.eval (.tmp i)=a.eval (.tmp i))->w1.cell? ⟨b,o,none⟩=some (.map (some q))->qt w1 b o->MapIs w1 sb q ls->ls.Perm tags->B<=q->SetE b o v w w1->w1.heap[sb]? = w.heap[sb]?->(∀ k,k<w.heap.size->v≠.map (some k)->k≠q) →
   vc P (rg [(oQ 15 (.move (.tmp 0)) E.tPTags),
   (oQ 16 (.nilCheck (.tmp 15)) 0),
   (oQ 17 (.fieldAddr E.tTags (.tmp 16) 0) 0),
   (oQ 18 (.load E.tTagMap (.tmp 17)) E.tTagMap),
   (oQ 19 (.move (.tmp 1)) E.tW),
   (oQ 20 (.move (.tmp 2)) E.tB),
   ⟨none,.mapUpdate E.tTagMap (.tmp 18) (.tmp 19) (.tmp 20),0,"",#[],none⟩])
   (Out P #[] fun _ w'=>SetE b o v w w'/\∃ v',w'.cell? ⟨b,o,none⟩=some v'/\v'.oneCell'=true/\qt w' b o/\zZ w' sb B v' (qv k l tags)) A w1:=by
  intro A w1 q ls hs hd hA hcq hfq hmi hperm hBq hE1 hsb1 hqn
  have g0:=(hA 0 zH).trans e0
  have g1:=(hA 1 zH).trans e1
  have g2:=(hA 2 zH).trans e2
  have hv1:j0 w1 sb val l:=hv.heap hsb1
  have hne:b≠q:=by
   obtain ⟨es,clock,hq,_⟩:=hmi
   exact ne_map hcq hq
  have hqs:q<w1.heap.size:=by
   obtain ⟨es,clock,hq,_⟩:=hmi
   exact (Array.getElem?_eq_some_iff.1 hq).1
  obtain ⟨ob,hr,hmi'⟩:=run_mapSet (P:=P) (k:=k) H.map H.u32 hmi zH hv1
  refine vR zS ?_
  refine rM ?_
  refine qY (ad:=⟨b,o,none⟩) zA ?_
  refine rF (b:=b) (o:=o) zE H.f0 ?_
  refine rL (b:=b) (o:=o+0) (v:=.map (some q)) zE H.oMap (by simpa using hcq) ?_
  refine rM (rM ?_)
  refine r_mapUpdate (mv:=.map (some q)) (kv:=.int .u32 (k:Int)) (xv:=val) (w':=setBlock w1 q ob) zE zA zA hr ?_
  refine dn ?_
  refine ⟨by simp only[dF];exact hd,.tuple #[],by simp[results],hE1.setBlock ob hqn,.map (some q),by rw[kJ (jh ob hne)];exact hcq,rfl,zy (jh ob hne) hfq,setTag_ok hk _ hm.1,.inr ⟨q,updL k l ls,rfl,hBq,by rw[jD];exact hqs,hmi',updL_perm hperm hm.1.1⟩⟩
 unfold c_gSet
 refine vS (vX (rM ?_))
 refine qY (ad:=⟨b,o,none⟩) zA ?_
 refine rF (b:=b) (o:=o) zE H.f0 ?_
 refine rL (b:=b) (o:=o+0) (v:=v) zE H.oMap (by simpa using hc) ?_
 rcases hm.2 with ⟨rfl,rfl⟩ | ⟨q,ls,rfl,hBq,hqs,hmi,hperm⟩
 ·refine yl (m:=none) H.map zE ?_
  refine dn ?_
  refine vS (vC (t:=true) (by simp (disch:=(try simp only[sP]);omega) only[eV];rfl) ?_ (fun h=>by cases h))
  intro _
  refine vR zS ?_
  refine rM ?_
  refine r_makeMap ?_
  refine qY (ad:=⟨b,o,none⟩) zA ?_
  refine rF (b:=b) (o:=o) zE H.f0 ?_
  have hb1:Below w.heap.size w (w.alloc (.map #[] 0)):=(Below.refl w.heap.size w).alloc (o:=.map _ _) (Nat.le_refl _)
  have hf1:qt (w.alloc (.map #[] 0)) b o:=zy (hb1.block b hblt) hf
  refine xq (b:=b) (o:=o+0) (v:=.map (some w.heap.size)) zE zE rfl H.oMap (by simpa using hf1) ?_
  refine dn (vN ?_)
  have hnew:(w.alloc (.map #[] 0)).heap[w.heap.size]? = some (.map #[] 0):=heap_alloc_new w _
  have hnew2:((w.alloc (.map #[] 0)).setCell ⟨b,o+0,none⟩ (.map (some w.heap.size))).heap[w.heap.size]? = some (.map #[] 0):=by
   rw[← hnew]
   exact Below.heap_setCell _ _ _ _ (by show w.heap.size≠b;omega)
  have hE2:Eff (fun k i=>k=b/\i=o) w ((w.alloc (.map #[] 0)).setCell ⟨b,o+0,none⟩ (.map (some w.heap.size))):=((Eff.refl _ w).alloc _).setCell _ _ _ (fun _=>⟨rfl,rfl⟩)
  refine tail _ _ w.heap.size [] (by simp only[zP];exact hsz) (by simp only[dF];exact hdf) (fun i hi=>by exact zE) (qp _ (by simpa using hf1.1)) ?_ ?_ (List.Perm.refl _) hBz (SetE.of_eff hE2) (hE2.blockEq zH (by rintro i ⟨e,_⟩;exact hbs e.symm)) (fun k hk _=>by omega)
  ·exact (show qt (w.alloc (.map #[] 0)) b o from hf1).eff ((Eff.refl (fun k _=>k=b) _).setCell _ _ _ (fun _=>rfl))
  ·exact ⟨#[],0,hnew2,by simp,by simp,rfl,fun i x hx=>by simp at hx⟩
 ·refine yl (m:=some q) H.map zE ?_
  refine dn ?_
  refine vS (vC (t:=false) (by simp (disch:=(try simp only[sP]);omega) only[eV];rfl) (fun h=>by cases h) ?_)
  intro _
  refine vK (vN ?_)
  exact tail _ _ q ls (by simp only[zP];exact hsz) (by simp only[dF];exact hdf) (fun i hi=>by exact zE) hc hf hmi hperm hBq (SetE.refl _ _ _ _) rfl (fun k hk hne e=>hne (by rw[e]))
end
def freeP (ap:List (Nat × Nat)) (ops:Array Oper) (listed:Array Bool) (i:Nat):Bool :=
 decide (i<ops.size)&&(List.range ops.size).all fun j=>j==i||listed.getD j true||match ops[j]? with
  | some oj=>oj.after.any (fun e=>Region.binds .any e&&e.on==i)||ap.contains (i,j)
  | none=>true
def ordP (ap:List (Nat × Nat)) (ops:Array Oper):List (Nat × Bool)->Array Bool->Bool
 | [],listed=>(Region.ready .any ops listed).isEmpty
 | (i,true)::r,listed=>(Region.ready .any ops listed).contains i&&freeP ap ops listed i&&ordP ap ops r (listed.setIfInBounds i true)
 | (i,false)::r,listed=>decide (Region.ready .any ops listed=[i])&&ordP ap ops r (listed.setIfInBounds i true)
theorem freeP_ok {ap:List (Nat × Nat)} {ops:Array Oper} (hap:∀ p ∈ ap,∀ x y,ops[p.1]? = some x->ops[p.2]? = some y->x.apart ops y=true) {listed:Array Bool} {i:Nat} (h:freeP ap ops listed i=true):Region.free .any ops listed i=true:=by
 unfold freeP at h
 unfold Region.free
 simp only[Bool.and_eq_true,decide_eq_true_eq] at h
 obtain ⟨hi,h⟩:=h
 rw[Array.getElem?_eq_getElem hi]
 simp only[List.all_eq_true] at h ⊢
 intro j hj
 have:=h j hj
 revert this
 cases ho:ops[j]? with
 | none=>simp
 | some oj =>
  simp only[Bool.or_eq_true]
  rintro (h | h | h)
  ·exact .inl h
  ·exact .inr (.inl h)
  ·exact .inr (.inr (hap (i,j) (by simpa using h) _ _ (Array.getElem?_eq_getElem hi) ho))
theorem ordP_ok {ap:List (Nat × Nat)} {ops:Array Oper} (hap:∀ p ∈ ap,∀ x y,ops[p.1]? = some x->ops[p.2]? = some y->x.apart ops y=true):∀ (l:List (Nat × Bool)) (listed:Array Bool),ordP ap ops l listed=true->ordB ops l listed=true
 | [],listed,h=>h
 | (i,true)::r,listed,h=>by
  simp only[ordP,ordB,Bool.and_eq_true] at h ⊢
  exact ⟨⟨h.1.1,freeP_ok hap h.1.2⟩,ordP_ok hap r _ h.2⟩
 | (i,false)::r,listed,h=>by
  simp only[ordP,ordB,Bool.and_eq_true] at h ⊢
  exact ⟨h.1,ordP_ok hap r _ h.2⟩
def jo (P:Program) (t:TypeId):Bool :=
 match P.underlying t with
 | some (.interface _)=>true
 | _=>false
def isErr:Value->Bool
 | .nilIface=>false
 | _=>true
section
variable {P : Program} {E : Env}
theorem ki {a:Act} {w:World} {r:List Oper} {Q:Exit->Act->World->Prop} {d t x yt ty p af g v} (ht:jo P t=true) (hx:a.eval x=v) (hv:v=.nilIface\/∃ u z,v=.iface u z) (h:rO_ P Q r (a.put (some d) (.bool (isErr v))) w) :
  rO_ P Q (⟨some d,.binOp .neq t x (.const .nilIface) yt,ty,p,af,g⟩::r) a w:=by
 obtain ⟨ms,hu⟩:∃ ms,P.underlying t=some (.interface ms):=by
  unfold jo at ht
  split at ht
  ·rename_i ms h;exact ⟨ms,h⟩
  ·cases ht
 refine st ?_
 rcases hv with rfl | ⟨u,z,rfl⟩
 ·have h1:(eqGuard .neq t x (.const .nilIface) .nilIface .nilIface).run P w=.ok () w:=by cases x<;>simp[eqGuard]
  have h2:(binOp .neq t .nilIface .nilIface).run P w=.ok (.bool false) w:=by
   simp only[binOp]
   have h0:∀ k:Nat,(Op.equalIn (k+1) t .nilIface .nilIface).run P w=.ok true w:=fun k=>by simp[Op.equalIn,run_underlying hu]
   simp[Op.equal,Op.maxDepth,h0 9999]
  simp only[Oper.wp,execOp,hx,xg,h1,h2,Sem.run_bind,Sem.run_pure,Result.andThen_ok,Oper.upon_value]
  exact h
 ·have h1:(eqGuard .neq t x (.const .nilIface) (.iface u z) .nilIface).run P w=.ok () w:=by simp[eqGuard]
  have h2:(binOp .neq t (.iface u z) .nilIface).run P w=.ok (.bool true) w:=by
   simp only[binOp]
   have h0:∀ k:Nat,(Op.equalIn (k+1) t (.iface u z) .nilIface).run P w=.ok false w:=fun k=>by simp[Op.equalIn,run_underlying hu]
   simp[Op.equal,Op.maxDepth,h0 9999]
  simp only[Oper.wp,execOp,hx,xg,h1,h2,Sem.run_bind,Sem.run_pure,Result.andThen_ok,Oper.upon_value]
  exact h
end
structure EnvRK (P:Program) (E:Env) (T:List (Nat × List UInt8)->Prop):Prop where
 tag:TagT P E
 iu:qr P E.tW=some .u32
 ii:qr P E.tI=some .i64
 cU:CUv P E
 cS:yz P E
 set:Text P E.gSet 3 21 #[] (c_gSet E)
 all:∀ tags,T tags
 mixed:P.follows .mixedOrders=true
 rd:vx P E.tRd=some ([(0,1),(1,1)],#[.slice none 0 0,.bool false])
 rdA:z7 P E.tRd=some 2
 tErr:jo P E.tErr=true
section
variable {P : Program} {E : Env} {T : List (Nat × List UInt8) → Prop} {a : Act} {w : World} {Q : Exit → Act → World → Prop} {ops : List Oper} {S : World → Prop}
theorem noPanic {c:Code} (h:vc P c (fun e a w=>(∀ k,e≠.panic k)/\Q e a w) a w):vc P c Q a w:=qW _ h (fun e a w h=>h.2)
theorem m_krSet (H:EnvRK P E T) {x:Cx} {TP TU:TypeId} {s f n t rb sb pb po off k B:Nat} {st:RSt} {v:Value} {tags:List (Nat × List UInt8)} {K:Nat->Prop}
  (hr:RdS w rb sb st) (hp7:a.eval (.tmp x.rd)=.pointer (some ⟨rb,0,none⟩)) (hp:a.eval (.tmp s)=.pointer (some ⟨pb,po,none⟩)) (hk:a.eval (.tmp n)=.int .u32 (k:Int)) (hk2:k<4294967296) (hfo:qk P TU f=some off)
  (hc:w.cell? ⟨pb,po+off,none⟩=some v) (hf:qt w pb (po+off)) (hm:zZ w sb B v tags) (hBw:B<=w.heap.size) (hsb:sb<B) (hrB:rb<B) (h1:pb≠rb) (h2:pb≠sb) (ht:∀ d,t<=d->¬ K d) (hrt:x.rd<t) (hst:s<t) (hnt:n<t) (hsz:t+8<=a.tmps.size)
  (kn:∀ a' w1 w' v',Fr K a a'->Eff (RM rb) w w1->SetE pb (po+off) v w1 w'->RdS w1 rb sb (qq ((qn st).1:Int) (qn st).2).2->RdS w' rb sb (qq ((qn st).1:Int) (qn st).2).2->w'.cell? ⟨pb,po+off,none⟩=some v'->v'.oneCell'=true->qt w' pb (po+off) →
   zZ w1 sb B v tags->zZ w' sb B v' (qv k (qq ((qn st).1:Int) (qn st).2).1 tags)->Q .normal a' w') :
  vc P (krSet E x TP TU s f n t) Q a w:=by
 have hrd0:RdS { w with drawn:=w.drawn+1 } rb sb st:=hr.below (B:=w.heap.size) (show Below w.heap.size w { w with drawn:=w.drawn+1 } from ⟨rfl,rfl,rfl,Nat.le_refl _,fun _ _=>rfl⟩) hr.rb_lt hr.lt
 have hE0:Eff (RM rb) w { w with drawn:=w.drawn+1 }:=(Eff.refl _ w).drawn _
 have hk1:=z9 st
 unfold krSet
 refine noPanic ?_
 refine xd [(0,true),(1,true),(2,true),(3,true),(4,false),(5,true),(6,false),(7,false)] (fun _=>True) H.mixed (by kernel_rfl) rfl (ordP_ok (ap:=[(0,2),(0,3),(0,4),(0,5),(0,6),(0,7),(1,3),(1,4),(1,5),(1,6),(1,7),(2,3),(2,4),(2,5),(2,6),(3,4),(3,5),(3,6),(5,7)]) ?_ _ _ (by kernel_rfl)) (fun c _ _ _ h=>absurd rfl (h.1 c)) ?_
 ·simp only[List.forall_mem_cons,List.mem_nil_iff,false_imp_iff,implies_true,and_true,List.getElem?_toArray,List.getElem?_cons_succ,List.getElem?_cons_zero,Option.some.injEq]
  refine ⟨?_,?_,?_,?_,?_,?_,?_,?_,?_,?_,?_,?_,?_,?_,?_,?_,?_,?_,?_⟩<;>rintro x y rfl rfl<;>simp[Oper.apart,Oper.looksAt,Op.operands,Call.operands]<;>(repeat' apply And.intro)<;>exact tne zH
 refine dP rfl rfl rfl (wN rfl) (by first | omega | (simp only[zP];omega)) trivial (fun w' _=>rM (dn ⟨rfl,rfl,rfl⟩)) ?_
 refine d_nilC (d:=t+1) (x:=.tmp t) (ad:=⟨pb,po,none⟩) rfl (wN rfl) ?_ trivial ?_
 ·exact zA
 refine dP rfl rfl rfl (wN rfl) (by first | omega | (simp only[zP];omega)) trivial (fun w' _=>rF (b:=pb) (o:=po) zE hfo (dn ⟨rfl,rfl,rfl⟩)) ?_
 refine dP rfl rfl rfl (wN rfl) (by first | omega | (simp only[zP];omega)) trivial (fun w' _=>rM (dn ⟨rfl,rfl,rfl⟩)) ?_
 refine qx rfl (wN rfl) ?_
 refine q8 (args:=#[.pointer (some ⟨rb,0,none⟩)]) ?_ (H.cU rb sb st _ hrd0) ?_
 ·simp only[lM]
  simp (disch:=(try simp only[sP]);omega) only[eV,hp7]
 rintro v1 w1 ⟨rfl,hr1,hE1,_⟩
 refine dn (qw trivial ?_)
 refine dP rfl rfl rfl (wN rfl) (by first | omega | (simp only[zP];omega)) trivial (fun w' _=>qL (k:=.u32) (k':=.i64) (m:=((qn st).1:Int)) H.iu H.ii zE (dn ⟨rfl,rfl,rfl⟩)) ?_
 rw[wrap_i64 zH zH]
 refine qx rfl (wN rfl) ?_
 refine q8 (args:=#[.pointer (some ⟨rb,0,none⟩),.int .i64 ((qn st).1:Int)]) ?_ (H.cS rb sb _ _ w1 hr1) ?_
 ·simp only[lM]
  simp (disch:=(try simp only[sP]);omega) only[eV,hp7]
 rintro sv w2 ⟨hsv,hr2,hE2,_⟩
 refine dn (qw trivial ?_)
 have hE02:Eff (RM rb) w w2:=(hE0.trans hE1).trans hE2
 have hz2:=hE02.size
 have htm2:zZ w2 sb B v tags:=hm.eff hE02 hrB hr.ne zH
 have hc2:w2.cell? ⟨pb,po+off,none⟩=some v:=hE02.cellSome hc (by rintro ⟨e,_⟩;exact h1 e)
 refine qx rfl (wN rfl) ?_
 refine q8 (args:=#[.pointer (some ⟨pb,po+off,none⟩),.int .u32 (k:Int),sv]) ?_ (k_gSetO H.tag H.set (B:=B) hc2 (hf.eff hE02) htm2 hsv hk2 h2 zH hsb) ?_
 ·simp only[lM]
  simp (disch:=(try simp only[sP]);omega) only[eV,hk]
 rintro v5 w5 ⟨hS5,v',hc5,hv5,hf5,htm5⟩
 refine dn (qw trivial (xC ?_))
 obtain ⟨u0,hu0,_⟩:=hr2.cells
 have hrq:v≠.map (some rb):=htm2.ne (hu0 0 _ rfl)
 have hsq:v≠.map (some sb):=by
  intro e
  have:=htm2.low sb e
  omega
 refine ⟨(fun _ h=>by cases h),kn _ w2 w5 v' ?_ hE02 hS5 hr2 (hr2.heapEq (hS5.at hr2.rb_lt hrq (Ne.symm h1)) (hS5.at hr2.lt hsq (Ne.symm h2)) hS5.size) hc5 hv5 hf5 htm2 htm5⟩
 exact ((((((((Fr.refl K a).put _ (ht _ zH)).put _ (ht _ zH)).put _ (ht _ zH)).put _ (ht _ zH)).put _ (ht _ zH)).put _ (ht _ zH)).put _ (ht _ zH)).put _ (ht _ zH)
end
end Go.Km
namespace Go.Km
open Go Go.RowKit
attribute [local irreducible] vc rO_ qz qJ qF
structure KY where
 k:Nat
 off:Nat
 ty:Ty
 krd:KRd
def KY.val (fx:Bool) (ver:Nat) (y:KY) (p:List UInt8):D:=(y.ty.rd fx ver (p,false)).1
def KY.chk (fx:Bool) (ver:Nat) (y:KY) (p:List UInt8):Bool:=!(y.ty.rd fx ver (p,false)).2.2
def KY.get (fx:Bool) (ver:Nat) (y:KY) (tags:List (Nat × List UInt8)):D:=(Ver.tag y.k 0).getT y.ty.dflt (y.val fx ver) tags
def xo (st:RSt):List UInt8 × RSt:=qq ((qn st).1:Int) (qn st).2
def KY.OK (P:Program) (E:Env) (T:List (Nat × List UInt8)->Prop) (x:Cx) (ver:Nat) (fx:Bool) (L s:Nat) (y:KY):Prop :=
 y.krd.k=y.k/\y.k<4294967296/\(∀ w w' sb B c d,y.ty.Rep w sb B c d->y.ty.Rep w' sb B c d)/\(∀ w sb B,y.ty.Rep w sb B y.ty.dz y.ty.dflt) ∧
 ∀ (n t b rb sb pb po B:Nat) (ev:Value) (a:Act) (w:World) (st:RSt) (Q:Exit->Act->World->Prop),RSl x L n t fx->n+y.krd.casN<=L->t+y.krd.casT<=a.tmps.size->RSta E x ver fx rb sb ev a w st →
  a.eval (.tmp s)=.pointer (some ⟨pb,po,none⟩)->s<n->(∀ i,i<y.ty.size->qt w pb (po+y.off+i))->pb≠rb->pb≠sb->pb≠E.vErr->pb<B->rb<B->B<=w.heap.size →
  (∀ a' w' c d,Fr (KR L n t) a a'->RSta E x ver fx rb sb ev a' w' (xo st).2->c.length=y.ty.size->qb w' pb (po+y.off) c->y.ty.Rep w' ⟨sb,T⟩ B c d->Eff (FM rb pb (po+y.off) y.ty.size) w w' →
   ((xo st).2.2=false->y.chk fx ver (xo st).1=true/\d=y.val fx ver (xo st).1)->Q .normal a' w') →
  (∀ a' w',a'.defers=a.defers->a'.tmps.size=a.tmps.size->a'.eval (.tmp 6)=ev->Eff (FM rb pb (po+y.off) y.ty.size) w w'->((xo st).2.2=true\/y.chk fx ver (xo st).1=false)->Q .ret a' w') →
  vc P (sq (y.krd.cas n t b)) Q a w
theorem rdSpan_le (n:Int) (st:RSt):(qq n st).1.length<=st.1.length:=by
 unfold qq
 split
 ·simp
 ·simp only[List.length_take];omega
def kScal (E:Env) (x:Cx) (TP TU:TypeId) (s idx k:Nat) (c:Scal):KRd :=
 { k:=k,casN:=3,casT:=13,casB:=0,cas:=fun n t b=>[krHead E x n t,qU E { x with rd:=n } (E.rScal c) (E.tScal c) (n+1) (t+4),rStore TP TU (E.tScal c) false (n+1) s idx (t+5)]++krEnd E { x with rd:=n } (n+2) (t+9) }
section
variable {P : Program} {E : Env} {T : List (Nat × List UInt8) → Prop}
theorem m_krEnd (H:EnvR P E T) (HK:EnvRK P E T) {x:Cx} {rb sb n t:Nat} {st:RSt} {ev:Value} {a:Act} {w:World} {Q:Exit->Act->World->Prop} {K:Nat->Prop} (hr:RdS w rb sb st) (he:w.cell? ⟨E.vErr,0,none⟩=some ev) (hev:∃ u z,ev=.iface u z) (hp:a.eval (.tmp x.rd)=.pointer (some ⟨rb,0,none⟩))
  (ht:∀ d,t<=d->¬ K d) (hn:¬ K n) (hnt:n<t) (h6:6<n) (hsz:t+4<=a.tmps.size) (kn:st.2=false->∀ a',Fr K a a'->Q .normal a' w) (kr:st.2=true->∀ a',a'.defers=a.defers->a'.tmps.size=a.tmps.size->a'.eval (.tmp 6)=ev->Q .ret a' w) :
  vc P (sq (krEnd E x n t)) Q a w:=by
 unfold krEnd
 refine vS (j6 (K:=K) hp (H.complete rb sb st w ev hr he) ht hn hnt zH ?_)
 rintro a1 v w1 hf1 he1 ⟨hv,rfl⟩
 have hz1:=hf1.size
 have hd1:=hf1.defers
 have hie:isErr v=st.2:=by
  obtain ⟨u,z,rfl⟩:=hev
  rw[hv]
  cases st.2<;>rfl
 refine vX (rM ?_)
 refine ki (v:=v) HK.tErr zA (by rw[hv];cases st.2 with | true=>exact .inr hev | false=>exact .inl rfl) ?_
 rw[hie]
 refine dn ?_
 have hf2:Fr K a1 ((a1.put (some (t+1)) (a1.eval (.tmp n))).put (some (t+2)) (.bool st.2)):=((Fr.refl K a1).put _ (ht _ zH)).put _ (ht _ zH)
 refine vS (vC (t:=st.2) zE ?_ ?_)
 ·intro h
  refine vX (rM (rA (dn (vS (vT ?_)))))
  refine kr h _ (by simp only[dF];exact hd1) (by simp only[zP];exact hz1) ?_
  have:v=ev:=by rw[hv,if_pos h]
  rw[← this]
  exact zA
 ·intro h
  exact vK (vN (kn h _ (hf1.trans hf2)))
theorem kScal_ok (H:EnvR P E T) (HK:EnvRK P E T) {x:Cx} {ver:Nat} {fx:Bool} {L TP TU s idx k off:Nat} {c:Scal} {df:Int} (hk:k<4294967296) (hr:E.rScal c≠0) (ho:qQ P (E.tScal c)=true) (hfo:qk P TU idx=some off) (hdf:c.ok df) :
  KY.OK P E T x ver fx L s ⟨k,off,.scal c df,kScal E x TP TU s idx k c⟩:=by
 refine ⟨rfl,hk,?_,?_,?_⟩
 ·intro w w' sb B cs d h
  cases d with
  | int n=>simpa only[Ty.Rep] using h
  | _=>exact absurd h (by simp[Ty.Rep])
 ·intro w sb B
  simp only[Ty.dz,Ty.dflt,Ty.Rep]
  exact ⟨trivial,hdf⟩
 intro n t b rb sb pb po B ev a w st Q hs hn ht hst hp hsn hf h1 h2 h3 hB hrB hBw kn kr
 have hnL:=hs.nL;have hLt:=hs.Lt;have h7:=hs.seven;have hrd:=hs.rd;have hvs:=hs.vs
 have hkt:=hs.kt
 simp only[kScal,Ty.size] at hn ht hf kn kr ⊢
 have hk1:=z9 st
 obtain ⟨zr,hzr,hzrc⟩:=xD HK.rd
 simp only[List.cons_append,List.nil_append]
 unfold krHead
 refine vX ?_
 refine q8 (args:=#[.pointer (some ⟨rb,0,none⟩)]) ?_ (HK.cU rb sb st w hst.rd) ?_
 ·simp only[lM]
  simp (disch:=(try simp only[sP]);omega) only[eV,hst.p7]
 rintro v1 w1 ⟨rfl,hr1,hE1,_⟩
 refine qL (k:=.u32) (k':=.i64) (m:=((qn st).1:Int)) HK.iu HK.ii zE ?_
 rw[wrap_i64 zH zH]
 refine q8 (args:=#[.pointer (some ⟨rb,0,none⟩),.int .i64 ((qn st).1:Int)]) ?_ (HK.cS rb sb _ _ w1 hr1) ?_
 ·simp only[lM]
  simp (disch:=(try simp only[sP]);omega) only[eV,hst.p7]
 rintro sv w2 ⟨hsv,hr2,hE2,_⟩
 have hpl:(qq ((qn st).1:Int) (qn st).2).1.length<=big:=Nat.le_trans (rdSpan_le _ _) hr1.len
 change RdS w2 rb sb (xo st).2 at hr2
 change j0 w2 sb sv (xo st).1 at hsv
 change (xo st).1.length<=big at hpl
 have hE02:Eff (RM rb) w w2:=hE1.trans hE2
 have hz2:=hE02.size
 have hsv1:=hsv.one
 have hsvc:sv.cells=#[sv]:=by
  obtain ⟨ad,cap,rfl,_⟩:=hsv.form
  rfl
 refine z6 (cells:=#[sv,.bool false]) HK.rd ?_ ?_
 ·have:(((a.put (some t) (.int .u32 ((qn st).1:Int))).put (some (t+1)) (.int .i64 ((qn st).1:Int))).put (some (t+2)) sv).eval (.tmp (t+2))=sv:=zE
  simp[Instr.fill,this,hsvc]
 refine qI hzr ?_
 have hfree:∀ i,i < [sv,Value.bool false].length->qt (w2.alloc (.cells zr.cells E.tRd)) w2.heap.size (0+i):=by
  intro i hi
  rw[Nat.zero_add]
  exact qm w2 _ _ (by rw[hzrc];simpa using hi)
 refine qu (b:=w2.heap.size) (o:=0) (cs:=[sv,.bool false]) zE zE (by intro v hv;simp only[List.mem_cons,List.not_mem_nil,or_false] at hv;rcases hv with rfl | rfl;exact hsv1;rfl) HK.rdA hfree ?_
 refine dn ?_
 have hcb:qb (setCells (w2.alloc (.cells zr.cells E.tRd)) w2.heap.size 0 [sv,.bool false]) w2.heap.size 0 [sv,.bool false] :=
  fun i v hv=>qg _ _ _ _ (fun j hj=>(hfree j hj).1) i v hv
 have hE3:=qe w2.heap.size [sv,.bool false] (w2.alloc (.cells zr.cells E.tRd)) 0
 have hb3:Below w2.heap.size w2 (setCells (w2.alloc (.cells zr.cells E.tRd)) w2.heap.size 0 [sv,.bool false]) :=
  ((Below.refl w2.heap.size w2).alloc (o:=.cells _ _) (Nat.le_refl _)).trans (hE3.below zS (by rintro k i hk ⟨rfl,_,_⟩;omega))
 have hz3:w2.heap.size<(setCells (w2.alloc (.cells zr.cells E.tRd)) w2.heap.size 0 [sv,.bool false]).heap.size:=by
  have:=hE3.size
  simp at this
  omega
 have hfr3:∀ i,i<2->qt (setCells (w2.alloc (.cells zr.cells E.tRd)) w2.heap.size 0 [sv,.bool false]) w2.heap.size i:=fun i hi=>by
  have:=(hfree i (by simpa using hi)).eff hE3
  rwa [Nat.zero_add] at this
 generalize setCells (w2.alloc (.cells zr.cells E.tRd)) w2.heap.size 0 [sv,.bool false]=w3 at *
 have hbw:Below w2.heap.size w2 w3:=hb3
 generalize hrb:w2.heap.size=rb' at *
 generalize ha3:Act.put _ (some n) _=a3
 have hf3:Fr (KR L n t) a a3:=by
  subst ha3
  exact (((((Fr.refl _ a).put _ (hkt _ zH)).put _ (hkt _ zH)).put _ (hkt _ zH)).put _ (hkt _ zH)).put _ (hs.kn n (Nat.le_refl _) zH)
 have h3n:a3.eval (.tmp n)=.pointer (some ⟨rb',0,none⟩):=by subst ha3;exact zE
 have hz3a:=hf3.size
 clear ha3
 have hrlt:=hr2.rb_lt
 have hslt:=hr2.lt
 have hpbw:pb<w.heap.size:=by omega
 have hevw:E.vErr<w.heap.size:=qo hst.err
 have hr3:RdS w3 rb sb (xo st).2:=hr2.below hb3 zH zH
 have hrd3:RdS w3 rb' sb ((xo st).1,false):=⟨by omega,by omega,⟨sv,hcb,hsv.heap (hb3.block sb zH)⟩,hfr3 0 zH,hfr3 1 zH,hpl⟩
 have hE03:Eff (RM rb) w w3:=hE02.trans' (Eff.of_below (M:=fun _ _=>False) (by rw[hrb];exact hb3)) (fun _ _ _ h=>h.elim)
 have hev3:w3.cell? ⟨E.vErr,0,none⟩=some ev:=hE03.cellSome hst.err (fun hh=>hst.evr hh.1)
 have hs':RSl { x with rd:=n } L (n+1) (t+4) fx:=⟨by omega,by show n<n+1;omega,by show x.vs<n+1;omega,fun f hf=>by have:=hs.fl f hf;omega,hs.no,by omega,by omega⟩
 refine vS (j6 (x:={ x with rd:=n }) (K:=KR L (n+1) (t+4)) h3n (H.scal c hr rb' sb ((xo st).1,false) w3 hrd3) hs'.kt (hs'.kn (n+1) (Nat.le_refl _) zH) zH zH ?_)
 rintro a4 v w4 hf4 he4 ⟨⟨hv,hvo⟩,hr4,hE4⟩
 have hz4:=hf4.size
 have hs4:=hE4.size
 have hf4':Fr (KR L n t) a a4:=hf3.trans (hf4.mono (KR.mono zH zH))
 have hp4:a4.eval (.tmp s)=.pointer (some ⟨pb,po,none⟩):=by rw[hf4'.slot _ (.inl hsn)];exact hp
 have h4n:a4.eval (.tmp n)=.pointer (some ⟨rb',0,none⟩):=by rw[hf4.slot _ (.inl zH)];exact h3n
 have hE04:Eff (RM rb) w w4:=hE03.trans' hE4 (by rintro k i hk ⟨e,_⟩;omega)
 have hfr4:qt w4 pb (po+off):=by
  have:=(hf 0 zH).eff hE04
  simpa using this
 unfold rStore
 refine vX (rM ?_)
 simp only[Bool.false_eq_true,if_false]
 refine rM ?_
 refine qY (ad:=⟨pb,po,none⟩) zA ?_
 refine rF (b:=pb) (o:=po) zE hfo ?_
 refine xq (b:=pb) (o:=po+off) (v:=c.val (c.rd ((xo st).1,false)).1) zE (by simp (disch:=(try simp only[sP]);omega) only[eV,he4,hv]) (by cases c<;>rfl) ho hfr4 ?_
 refine dn ?_
 generalize ha5:Act.put _ (some (t+5+3)) _=a5
 have hf5:Fr (KR L (n+1) (t+4)) a4 a5:=by
  subst ha5
  exact ((((Fr.refl _ a4).put _ (hs'.kt _ zH)).put _ (hs'.kt _ zH)).put _ (hs'.kt _ zH)).put _ (hs'.kt _ zH)
 have hz5:=hf5.size
 clear ha5
 have hE5:Eff (fun k i=>k=pb/\i=po+off) w4 (w4.setCell ⟨pb,po+off,none⟩ (c.val (c.rd ((xo st).1,false)).1)):=(Eff.refl _ w4).setCell _ _ _ (fun _=>⟨rfl,rfl⟩)
 have hc5:(w4.setCell ⟨pb,po+off,none⟩ (c.val (c.rd ((xo st).1,false)).1)).cell? ⟨pb,po+off,none⟩=some (c.val (c.rd ((xo st).1,false)).1):=qp _ hfr4.1
 have hr5:RdS (w4.setCell ⟨pb,po+off,none⟩ (c.val (c.rd ((xo st).1,false)).1)) rb' sb (c.rd ((xo st).1,false)).2:=(show RdS w4 rb' sb (c.rd ((xo st).1,false)).2 from hr4).keep hE5 (by rintro i ⟨e,_⟩;omega) (by rintro i ⟨e,_⟩;exact h2 e.symm)
 have hr5o:RdS (w4.setCell ⟨pb,po+off,none⟩ (c.val (c.rd ((xo st).1,false)).1)) rb sb (xo st).2:=(hr3.keep hE4 (by rintro i ⟨e,_⟩;omega) (by rintro i ⟨e,_⟩;omega)).keep hE5 (by rintro i ⟨e,_⟩;exact h1 e.symm) (by rintro i ⟨e,_⟩;exact h2 e.symm)
 have hev5:(w4.setCell ⟨pb,po+off,none⟩ (c.val (c.rd ((xo st).1,false)).1)).cell? ⟨E.vErr,0,none⟩=some ev:=hE5.cellSome (hE04.cellSome hst.err (fun hh=>hst.evr hh.1)) (by rintro ⟨e,_⟩;exact h3 e.symm)
 have hE:Eff (FM rb pb (po+off) 1) w (w4.setCell ⟨pb,po+off,none⟩ (c.val (c.rd ((xo st).1,false)).1)):=(hE04.mono (fun k i _ h=>.inl h)).trans (hE5.mono (by rintro k i _ ⟨e1,e2⟩;exact .inr ⟨e1,by omega,by omega⟩))
 generalize w4.setCell ⟨pb,po+off,none⟩ (c.val (c.rd ((xo st).1,false)).1)=w5 at *
 have hf5':Fr (KR L n t) a a5:=hf4'.trans (hf5.mono (KR.mono zH zH))
 refine m_krEnd H HK (x:={ x with rd:=n }) (K:=KR L (n+1) (t+4)) (sb:=sb) (st:=(c.rd ((xo st).1,false)).2) hr5 hev5 hst.evi (by rw[hf5.slot _ (.inl (by show n<n+1;omega))];exact h4n) (fun d hd=>hs'.kt d zH) (hs'.kn _ zH zH) zH zH zH ?_ ?_
 ·intro hgood a6 hf6
  have hf6':Fr (KR L n t) a a6:=hf5'.trans (hf6.mono (KR.mono zH zH))
  have hfr:=hst.fr hs hf6'
  refine kn a6 w5 [c.val (c.rd ((xo st).1,false)).1] (.int (c.rd ((xo st).1,false)).1) hf6' ⟨hr5o,hfr.p7,hfr.us,hfr.ver,hfr.fl,hev5,hst.evr,hst.evi⟩ rfl ?_ ?_ hE (fun _=>⟨?_,?_⟩)
  ·intro j u hu
   cases j with
   | zero=>simp only[List.getElem?_cons_zero,Option.some.injEq] at hu;subst hu;exact hc5
   | succ j=>simp at hu
  ·exact ⟨rfl,hvo⟩
  ·show (!((Ty.scal c df).rd fx ver ((xo st).1,false)).2.2)=true
   simp only[Ty.rd,hgood,Bool.not_false]
  ·simp only[KY.val,Ty.rd]
 ·intro hbad a6 g1 g2 g3
  refine kr a6 w5 (by rw[g1,hf5'.defers]) (by rw[g2,hf5'.size]) g3 hE (.inr ?_)
  show (!((Ty.scal c df).rd fx ver ((xo st).1,false)).2.2)=false
  simp only[Ty.rd,hbad,Bool.not_true]
end
end Go.Km
namespace Go.Km
open Go Go.RowKit
attribute [local irreducible] vc rO_ qz qJ qF
theorem kN (ck:Nat->List UInt8->Bool):∀ (n:Nat) (acc:List (Nat × List UInt8)) (st:RSt),qC ck (n+1) acc st=(qv (xn (qC ck n acc st).2).1.1 (xn (qC ck n acc st).2).1.2 (qC ck n acc st).1,((xn (qC ck n acc st).2).2.1,(xn (qC ck n acc st).2).2.2 || !ck (xn (qC ck n acc st).2).1.1 (xn (qC ck n acc st).2).1.2))
 | 0,acc,st=>rfl
 | n+1,acc,st=>by
  rw[qC,kN ck n _ _]
  rfl
theorem yL {ck:Nat->List UInt8->Bool} {st:RSt} {j:Nat}:∀ {n:Nat},j<=n->(qC ck j [] st).2.2=true->(qC ck n [] st).2.2=true
 | 0,h,hb=>by
  have:j=0:=by omega
  subst this
  exact hb
 | n+1,h,hb=>by
  rcases Nat.eq_or_lt_of_le h with rfl | h
  ·exact hb
  ·have ih:=yL (n:=n) zH hb
   rw[kN]
   cases hh:(xn (qC ck n [] st).2).2.2 with
   | true=>simp[hh]
   | false=>rw[yf hh] at ih;cases ih
theorem y3 (k:Nat) (p:List UInt8):∀ l:List (Nat × List UInt8),(qv k p l).find? (fun x=>x.1==k)=some (k,p)
 | []=>by simp[qv]
 | x::l=>by
  unfold qv
  split
  ·simp
  ·split
   ·simp
   ·rename_i h1 h2
    rw[List.find?_cons_of_neg (by simp;omega)]
    exact y3 k p l
theorem yS {k j:Nat} (h:j≠k) (p:List UInt8):∀ l:List (Nat × List UInt8),(qv k p l).find? (fun x=>x.1==j)=l.find? (fun x=>x.1==j)
 | []=>by simp[qv];omega
 | x::l=>by
  unfold qv
  split
  ·rw[List.find?_cons_of_neg (by simp;omega)]
  ·split
   ·rename_i h1 h2
    rw[List.find?_cons_of_neg (by simp;omega),List.find?_cons_of_neg (by simp;omega)]
   ·by_cases hx:x.1=j
    ·rw[List.find?_cons_of_pos (by simpa using hx),List.find?_cons_of_pos (by simpa using hx)]
    ·rw[List.find?_cons_of_neg (by simpa using hx),List.find?_cons_of_neg (by simpa using hx)]
     exact yS h p l
theorem y4 {k m:Nat} (h:k<m) (p:List UInt8):∀ l:List (Nat × List UInt8),(qv k p l).filter (fun x=>decide (m<=x.1))=l.filter (fun x=>decide (m<=x.1))
 | []=>by simp[qv];omega
 | x::l=>by
  unfold qv
  split
  ·rw[List.filter_cons_of_neg (by simp;omega)]
  ·split
   ·rename_i h1 h2
    rw[List.filter_cons_of_neg (by simp;omega),List.filter_cons_of_neg (by simp;omega)]
   ·rw[List.filter_cons,List.filter_cons,y4 h p l]
theorem jA {k m:Nat} (h:m<=k) (p:List UInt8):∀ l:List (Nat × List UInt8),(qv k p l).filter (fun x=>decide (m<=x.1))=qv k p (l.filter (fun x=>decide (m<=x.1)))
 | []=>by simp[qv];omega
 | x::l=>by
  conv=>lhs;unfold qv
  split
  ·rename_i h1
   rw[List.filter_cons_of_pos (by simpa using h),List.filter_cons_of_pos (by simp;omega)]
   rw[qv,if_pos h1]
  ·split
   ·rename_i h1 h2
    rw[List.filter_cons_of_pos (by simpa using h),List.filter_cons_of_pos (by simp;omega)]
    rw[qv,if_neg h1,if_pos h2]
   ·rename_i h1 h2
    by_cases hx:m<=x.1
    ·rw[List.filter_cons_of_pos (by simpa using hx),List.filter_cons_of_pos (by simpa using hx),qv,if_neg h1,if_neg h2,jA h p l]
    ·rw[List.filter_cons_of_neg (by simpa using hx),List.filter_cons_of_neg (by simpa using hx),jA h p l]
abbrev FK (rb pb po off n:Nat) (kts:List KY):Nat->Nat->Prop:=fun k i=>RM rb k i\/(k=pb/\((po+off<=i/\i<po+off+n)\/∃ y ∈ kts,po+y.off<=i/\i<po+y.off+y.ty.size))
structure KtOK (P:Program) (E:Env) (T:List (Nat × List UInt8)->Prop) (x:Cx) (ver:Nat) (fx:Bool) (L s:Nat) (kts:List KY) (ck:Nat->List UInt8->Bool) (off pb po:Nat) (w:World):Prop where
 ok:∀ y ∈ kts,y.OK P E T x ver fx L s
 ks:kts.map (·.k)=List.range kts.length
 ck1:∀ y ∈ kts,∀ p,ck y.k p=y.chk fx ver p
 ck0:∀ j,kts.length<=j->∀ p,ck j p=true
 pos:∀ y ∈ kts,y.off+y.ty.size<=off
 sep:kts.Pairwise fun y z=>y.off+y.ty.size<=z.off
 dz:∀ y ∈ kts,qb w pb (po+y.off) y.ty.dz
 free:∀ y ∈ kts,∀ i,i<y.ty.size->qt w pb (po+y.off+i)
section
variable {P : Program} {E : Env} {T : List (Nat × List UInt8) → Prop} {x : Cx} {ver : Nat} {fx : Bool} {L s : Nat} {kts : List KY} {ck : Nat → List UInt8 → Bool} {off pb po : Nat} {w : World}
theorem KtOK.at (h:KtOK P E T x ver fx L s kts ck off pb po w) (i:Nat) (hi:i<kts.length):(kts[i]).k=i:=by
 have:=congrArg (·[i]?) h.ks
 simp[hi] at this
 exact this
theorem KtOK.lt (h:KtOK P E T x ver fx L s kts ck off pb po w) {y:KY} (hy:y ∈ kts):y.k<kts.length:=by
 obtain ⟨i,hi,rfl⟩:=List.getElem_of_mem hy
 rw[h.at i hi];exact hi
theorem KtOK.has (h:KtOK P E T x ver fx L s kts ck off pb po w) {k:Nat} (hk:k<kts.length):∃ y ∈ kts,y.k=k:=⟨kts[k],List.getElem_mem hk,h.at k hk⟩
theorem KtOK.uniq (h:KtOK P E T x ver fx L s kts ck off pb po w) {y z:KY} (hy:y ∈ kts) (hz:z ∈ kts) (e:y.k=z.k):y=z:=by
 obtain ⟨i,hi,rfl⟩:=List.getElem_of_mem hy
 obtain ⟨j,hj,rfl⟩:=List.getElem_of_mem hz
 rw[h.at i hi,h.at j hj] at e
 subst e
 rfl
theorem KtOK.apart (h:KtOK P E T x ver fx L s kts ck off pb po w) {y z:KY} (hy:y ∈ kts) (hz:z ∈ kts) (e:y.k≠z.k):y.off+y.ty.size<=z.off\/z.off+z.ty.size<=y.off:=by
 obtain ⟨i,hi,rfl⟩:=List.getElem_of_mem hy
 obtain ⟨j,hj,rfl⟩:=List.getElem_of_mem hz
 rw[h.at i hi,h.at j hj] at e
 have hp:=List.pairwise_iff_getElem.1 h.sep
 rcases Nat.lt_or_gt_of_ne e with h | h
 ·exact .inl (hp i j hi hj h)
 ·exact .inr (hp j i hj hi h)
theorem KtOK.eff {rb n:Nat} {w':World} (h:KtOK P E T x ver fx L s kts ck off pb po w) (hE:Eff (FM rb pb (po+off) n) w w') (h1:pb≠rb):KtOK P E T x ver fx L s kts ck off pb po w' :=
 ⟨h.ok,h.ks,h.ck1,h.ck0,h.pos,h.sep,fun y hy=>(h.dz y hy).eff hE (by
  rintro i hi (⟨e,_⟩ | ⟨_,e,_⟩)
  ·exact h1 e
  ·have:=h.pos y hy
   rw[Ty.dz_len] at hi
   omega),fun y hy i hi=>(h.free y hy i hi).eff hE⟩
end
def KYs (fx:Bool) (ver:Nat) (w:World) (pb po B:Nat) (sb:Sb) (kts:List KY) (good:Prop) (tags:List (Nat × List UInt8)):Prop :=
 ∀ y ∈ kts,∃ (c:List Value) (d:D),c.length=y.ty.size/\qb w pb (po+y.off) c/\y.ty.Rep w sb B c d/\(good->d=y.get fx ver tags)
theorem KY.get_same (fx:Bool) (ver:Nat) (y:KY) (p:List UInt8) (tags:List (Nat × List UInt8)):y.get fx ver (qv y.k p tags)=y.val fx ver p:=by
 unfold KY.get Ver.getT
 simp only[y3]
theorem KY.get_ne (fx:Bool) (ver:Nat) (y:KY) {k:Nat} (h:y.k≠k) (p:List UInt8) (tags:List (Nat × List UInt8)):y.get fx ver (qv k p tags)=y.get fx ver tags:=by
 unfold KY.get Ver.getT
 simp only[yS h]
theorem zZ.effF {rb pb l n sb B:Nat} {w w':World} {v:Value} {tags:List (Nat × List UInt8)} (hm:zZ w sb B v tags) (he:Eff (FM rb pb l n) w w') (hrb:rb<B) (hpb:pb<B) (hne:rb≠sb) (hne2:pb≠sb) (hsb:sb<w.heap.size):zZ w' sb B v tags:=by
 refine hm.heap (he.blockEq hsb (by rintro i (⟨e,_⟩ | ⟨e,_⟩);exact hne e.symm;exact hne2 e.symm)) he.size ?_
 rintro q rfl
 obtain ⟨_,h2⟩:=hm
 rcases h2 with ⟨h2,_⟩ | ⟨q',l,hv,hq,hqs,_⟩
 ·cases h2
 ·cases hv
  exact he.blockEq hqs (by rintro i (⟨e,_⟩ | ⟨e,_⟩)<;>omega)
theorem zZ.repT {T:List (Nat × List UInt8)->Prop} {w:World} {sb B B':Nat} {v:Value} {tags:List (Nat × List UInt8)} (h:zZ w sb B v tags) (hs:sb<w.heap.size) (hT:T tags) (hB:B'<=B):xR w ⟨sb,T⟩ B' v tags:=by
 obtain ⟨k1,_,k3⟩:=h.rep hs
 refine ⟨k1,hT,?_⟩
 rcases k3 with k3 | ⟨q,es,clock,k4,k5,k7,k6,k8,k9,l,k11,k12,k13⟩
 ·exact .inl k3
 ·refine .inr ⟨q,es,clock,k4,by omega,k7,k6,k8,k9,l,k11,k12,fun j x hx=>?_⟩
  obtain ⟨e,m1,m2,m3⟩:=k13 j x hx
  exact ⟨e,m1,m2,m3.imp id (fun ⟨c,o,cap,z1,z2,z3⟩=>⟨c,o,cap,z1,z2.imp id (fun h=>by omega),z3⟩)⟩
section
variable {P : Program} {E : Env} {T : List (Nat × List UInt8) → Prop}
theorem m_krChain {x:Cx} {ver:Nat} {fx:Bool} {L s key k rb sb pb po B:Nat} {ev:Value} {d:Code}:∀ (kt:List KY) (n t b:Nat) (a:Act) (w:World) (st:RSt) (Q:Exit->Act->World->Prop),(∀ y ∈ kt,y.OK P E T x ver fx L s)->RSl x L n t fx->n+(kt.map (·.krd.casN)).sum<=L->t+(kt.map fun y=>2+y.krd.casT).sum<=a.tmps.size →
  key<t->L<=key->a.eval (.tmp key)=.int .u32 (k:Int)->RSta E x ver fx rb sb ev a w st->a.eval (.tmp s)=.pointer (some ⟨pb,po,none⟩)->s<n->(∀ y ∈ kt,∀ i,i<y.ty.size->qt w pb (po+y.off+i))->pb≠rb->pb≠sb->pb≠E.vErr->pb<B->rb<B->B<=w.heap.size →
  (∀ y ∈ kt,y.k=k->∀ a' w' c d,Fr (KR L n t) a a'->RSta E x ver fx rb sb ev a' w' (xo st).2->c.length=y.ty.size->qb w' pb (po+y.off) c->y.ty.Rep w' ⟨sb,T⟩ B c d->Eff (FM rb pb (po+y.off) y.ty.size) w w' →
   ((xo st).2.2=false->y.chk fx ver (xo st).1=true/\d=y.val fx ver (xo st).1)->Q .normal a' w') →
  (∀ y ∈ kt,y.k=k->∀ a' w',a'.defers=a.defers->a'.tmps.size=a.tmps.size->a'.eval (.tmp 6)=ev->Eff (FM rb pb (po+y.off) y.ty.size) w w'->((xo st).2.2=true\/y.chk fx ver (xo st).1=false)->Q .ret a' w') →
  ((∀ y ∈ kt,y.k≠k)->∀ a',Fr (KR L n t) a a'->(∀ j:Nat,j<t->a'.eval (.tmp j)=a.eval (.tmp j))->vc P d Q a' w)->vc P (wY E key d (kt.map (·.krd)) n t b) Q a w
 | [],n,t,b,a,w,st,Q,hok,hs,hn,ht,hkt,hLk,hk,hst,hp,hsn,hf,h1,h2,h3,hB,hrB,hBw,kn,kr,kd=>kd zS a (Fr.refl _ a) (fun _ _=>rfl)
 | y::kt,n,t,b,a,w,st,Q,hok,hs,hn,ht,hkt,hLk,hk,hst,hp,hsn,hf,h1,h2,h3,hB,hrB,hBw,kn,kr,kd=>by
  have hnL:=hs.nL;have hLt:=hs.Lt
  simp only[List.map_cons,List.sum_cons] at hn ht
  simp only[List.map_cons,wY]
  obtain ⟨o1,o2,o3,o4,o5⟩:=hok y zS
  refine vX ?_
  refine xy (k:=.u32) (m:=(k:Int)) (n:=(y.krd.k:Int)) zA rfl ?_
  refine rA (dn ?_)
  generalize hA:Act.put _ (some t) _=A
  have hf1:Fr (KR L n t) a A:=by subst hA;exact ((Fr.refl _ a).put _ (hs.kt _ zH)).put _ (hs.kt _ zH)
  have he:∀ j,j<t->A.eval (.tmp j)=a.eval (.tmp j):=by intro j hj;subst hA;exact zE
  have hc:A.eval (.tmp t)=.bool ((k:Int)==(y.krd.k:Int)):=by subst hA;exact zE
  have hz:=hf1.size
  clear hA
  have hst':=hst.fr hs hf1
  refine vS (vC (t:=((k:Int)==(y.krd.k:Int))) hc ?_ ?_)
  ·intro hkk
   have hkk:y.k=k:=by
    have:=eq_of_beq hkk
    omega
   refine o5 n (t+2) b rb sb pb po B ev A w st _ (hs.up (Nat.le_refl _) hs.nL zH) zH (by rw[hz];omega) hst' (by rw[he s zH];exact hp) hsn (hf y zS) h1 h2 h3 hB hrB hBw ?_ ?_
   ·intro a' w' c d g1 g2 g3 g4 g5 g6 g7
    exact vN (kn y zS hkk a' w' c d (hf1.trans (g1.mono (KR.mono (Nat.le_refl _) zH))) g2 g3 g4 g5 g6 g7)
   ·intro a' w' g1 g2 g3 g4 g5
    exact kr y zS hkk a' w' (by rw[g1,hf1.defers]) (by rw[g2,hz]) g3 g4 g5
  ·intro hkk
   have hkk:y.k≠k:=by
    rintro h
    rw[← o1] at h
    rw[h] at hkk
    simp at hkk
   refine qW _ (m_krChain kt (n+y.krd.casN) (t+2+y.krd.casT) (b+y.krd.casB) A w st Q (fun z hz=>hok z (by simp[hz])) (hs.up zH zH zH) zH (by rw[hz];omega) zH hLk (by rw[he key hkt];exact hk) hst' (by rw[he s zH];exact hp) zH (fun z hz=>hf z (by simp[hz])) h1 h2 h3 hB hrB hBw ?_ ?_ ?_) (fun e a w h=>by cases e<;>first | exact vN h | exact h)
   ·intro z hz hzk a' w' c d g1
    exact kn z (by simp[hz]) hzk a' w' c d (hf1.trans (g1.mono (KR.mono zH zH)))
   ·intro z hz' hzk a' w' g1 g2
    exact kr z (by simp[hz']) hzk a' w' (by rw[g1,hf1.defers]) (by rw[g2,hz])
   ·intro hno a' g1 g2
    refine kd ?_ a' (hf1.trans (g1.mono (KR.mono zH zH))) (fun j hj=>by rw[g2 j zH,he j hj])
    intro z hz
    rcases List.mem_cons.1 hz with rfl | hz
    ·exact hkk
    ·exact hno z hz
end
end Go.Km
namespace Go.Km
open Go Go.RowKit
attribute [local irreducible] vc rO_ qz qJ qF
section
variable {P : Program} {E : Env} {T : List (Nat × List UInt8) → Prop}
theorem rdTag_pay (st:RSt):xn st=(((qn st).1,(xo (qn st).2).1),(xo (qn st).2).2):=rfl
structure KInv (P:Program) (E:Env) (T:List (Nat × List UInt8)->Prop) (x:Cx) (ver:Nat) (fx:Bool) (rb sb pb po off B:Nat) (ev:Value) (kts:List KY) (ck:Nat->List UInt8->Bool) (st1:RSt) (w0:World) (i:Nat) (v:Value) (tg:List (Nat × List UInt8)) (A:Act) (W:World):Prop where
 st:RSta E x ver fx rb sb ev A W (qC ck i [] st1).2
 cell:W.cell? ⟨pb,po+off,none⟩=some v
 free:qt W pb (po+off)
 tag:zZ W sb w0.heap.size v tg
 low:∀ x ∈ tg,kts.length<=x.1
 eq:(qC ck i [] st1).2.2=false->tg=(qC ck i [] st1).1.filter (fun x=>decide (kts.length<=x.1))
 ys:KYs fx ver W pb po B ⟨sb,T⟩ kts ((qC ck i [] st1).2.2=false) (qC ck i [] st1).1
 eff:Eff (FK rb pb po off 1 kts) w0 W
theorem KYs.eff {fx:Bool} {ver pb po B sb rb:Nat} {w w':World} {kts:List KY} {good:Prop} {tags:List (Nat × List UInt8)} {x:Cx} {L s:Nat} (h:KYs fx ver w pb po B ⟨sb,T⟩ kts good tags) (hok:∀ y ∈ kts,y.OK P E T x ver fx L s) (hE:Eff (RM rb) w w') (h1:pb≠rb):KYs fx ver w' pb po B ⟨sb,T⟩ kts good tags:=by
 intro y hy
 obtain ⟨c,d,k1,k2,k3,k4⟩:=h y hy
 exact ⟨c,d,k1,k2.eff hE (by rintro i hi ⟨e,_⟩;exact h1 e),(hok y hy).2.2.1 w w' _ B c d k3,k4⟩
set_option maxHeartbeats 1000000 in
theorem m_tagStep (H:EnvR P E T) (HK:EnvRK P E T) {x:Cx} {ver:Nat} {fx:Bool} {L TP TU s idx off n t b rb sb pb po B N i:Nat} {ev v:Value} {A:Act} {w0 W:World} {st1:RSt} {Q:Exit->Act->World->Prop} {kts:List KY} {ck:Nat->List UInt8->Bool} {tg:List (Nat × List UInt8)}
  (hKt:KtOK P E T x ver fx L s kts ck off pb po w0) (hfo:qk P TU idx=some off) (hs:RSl x L n t fx) (hn:n+(2+(kts.map (·.krd.casN)).sum)<=L) (ht:t+(16+(kts.map fun y=>2+y.krd.casT).sum)<=A.tmps.size)
  (hp:A.eval (.tmp s)=.pointer (some ⟨pb,po,none⟩)) (hsn:s<n) (h1:pb≠rb) (h2:pb≠sb) (h3:pb≠E.vErr) (hB:pb<B) (hrB:rb<B) (hBw:B<=w0.heap.size) (hslt:sb<w0.heap.size) (hI:KInv P E T x ver fx rb sb pb po off B ev kts ck st1 w0 i v tg A W) (hiN:i<N)
  (kn:∀ A' W' v' tg',Fr (KR L (n+1) t) A A'->KInv P E T x ver fx rb sb pb po off B ev kts ck st1 w0 (i+1) v' tg' A' W'->Q .normal A' W')
  (kr:∀ A' W',A'.defers=A.defers->A'.tmps.size=A.tmps.size->A'.eval (.tmp 6)=ev->Eff (FK rb pb po off 1 kts) w0 W'->(qC ck N [] st1).2.2=true->Q .ret A' W') :
  vc P (sq [rg [xi (some (t+6)) E.rUvar #[.tmp x.rd] #[E.tRd] E.tW,qc (n+1) (.tmp (t+6)) E.tW],rg [qd (t+7) (.tmp (n+1)) E.tW],
     .block (b+2) (wY E (t+7) (krSet E x TP TU s idx (n+1) (t+8)) (kts.map (·.krd)) (n+2) (t+16) (b+3))]) Q A W:=by
 have hnL:=hs.nL;have hLt:=hs.Lt;have h7:=hs.seven;have hrd:=hs.rd;have hvs:=hs.vs
 have hs1:RSl x L (n+1) t fx:=hs.up zH zH (Nat.le_refl _)
 have hkt:=hs1.kt
 have hst:=hI.st
 have hW:=hI.eff.size
 refine vX ?_
 refine q8 (args:=#[.pointer (some ⟨rb,0,none⟩)]) ?_ (HK.cU rb sb _ W hst.rd) ?_
 ·simp only[lM]
  simp (disch:=(try simp only[sP]);omega) only[eV,hst.p7]
 rintro v1 w1 ⟨rfl,hr1,hE1,_⟩
 refine rA (dn (vX (rM (dn ?_))))
 have hsnoc:=kN ck i [] st1
 rw[rdTag_pay] at hsnoc
 generalize hS:(qC ck i [] st1).2=S at *
 generalize hraw:(qC ck i [] st1).1=raw at *
 have hklt:=z9 S
 generalize hkey:(qn S).1=key at *
 generalize hS1:(qn S).2=S1 at *
 have hbadS:(xo S1).2.2=false->S.2=false:=by
  intro h
  have h':S1.2=false:=zk (qO h)
  rw[← hS1] at h'
  exact zk h'
 generalize hA2:Act.put _ (some (t+7)) _=A2
 have hf2:Fr (KR L (n+1) t) A A2:=by
  subst hA2
  exact (((Fr.refl _ A).put _ (hkt _ zH)).put _ (hs1.kn (n+1) (Nat.le_refl _) zH)).put _ (hkt _ zH)
 have k2k:A2.eval (.tmp (t+7))=.int .u32 (key:Int):=by subst hA2;exact zE
 have k2n:A2.eval (.tmp (n+1))=.int .u32 (key:Int):=by subst hA2;exact zE
 have hz2:=hf2.size
 clear hA2
 have hst2:RSta E x ver fx rb sb ev A2 w1 S1:=hst.step hs1 hf2 hr1 hE1
 have hp2:A2.eval (.tmp s)=.pointer (some ⟨pb,po,none⟩):=by rw[hf2.slot _ (.inl zH)];exact hp
 have hz1:=hE1.size
 have hEw1:Eff (FK rb pb po off 1 kts) w0 w1:=hI.eff.trans (hE1.mono (fun k i _ h=>.inl h))
 have hys1:KYs fx ver w1 pb po B ⟨sb,T⟩ kts (S.2=false) raw:=by
  have:=hI.ys.eff hKt.ok hE1 h1
  rwa [hS,hraw] at this
 have htag1:zZ w1 sb w0.heap.size v tg:=hI.tag.eff hE1 zH hst.rd.ne zH
 have hcell1:w1.cell? ⟨pb,po+off,none⟩=some v:=hE1.cellSome hI.cell (by rintro ⟨e,_⟩;exact h1 e)
 have hfree1:qt w1 pb (po+off):=hI.free.eff hE1
 have hfr0:∀ y ∈ kts,∀ j,j<y.ty.size->qt w1 pb (po+y.off+j):=fun y hy j hj=>(hKt.free y hy j hj).eff hEw1
 refine vS (qh ?_)
 refine m_krChain (k:=key) (L:=L) (s:=s) (rb:=rb) (sb:=sb) (pb:=pb) (po:=po) (B:=B) (ev:=ev) kts (n+2) (t+16) (b+3) A2 w1 S1 _ hKt.ok (hs.up zH zH zH) zH (by rw[hz2];omega) zH zH k2k hst2 hp2 zH hfr0 h1 h2 h3 hB hrB zH ?_ ?_ ?_
 ·
  intro y hy hyk a' w' c d g1 g2 g3 g4 g5 g6 g7
  have hyl:=hKt.lt hy
  have hpos:=hKt.pos y hy
  have hck:(xo S1).2.2=false->ck key (xo S1).1=true:=fun h=>by rw[← hyk,hKt.ck1 y hy];exact (g7 h).1
  have hnext:(qC ck (i+1) [] st1).2=(xo S1).2:=by
   rw[hsnoc]
   cases hb:(xo S1).2.2 with
   | true=>simp only[Bool.true_or];rw[← hb]
   | false=>simp only[hck hb,Bool.not_true,Bool.or_false];rw[← hb]
  have hraw':(qC ck (i+1) [] st1).1=qv key (xo S1).1 raw:=by rw[hsnoc]
  have hE6:Eff (FK rb pb po off 1 kts) w1 w':=g6.mono (by
   rintro k j _ (h | ⟨e1,e2,e3⟩)
   ·exact .inl h
   ·exact .inr ⟨e1,.inr ⟨y,hy,e2,e3⟩⟩)
  refine vN (kn a' w' v tg (hf2.trans (g1.mono (KR.mono zH zH))) ⟨by rw[hnext];exact g2,?_,hfree1.eff g6,htag1.effF g6 zH zH hst.rd.ne h2 zH,hI.low,?_,?_,hEw1.trans hE6⟩)
  ·refine g6.cellSome hcell1 ?_
   rintro (⟨e,_⟩ | ⟨_,_,e⟩)
   ·exact h1 e
   ·omega
  ·rw[hnext,hraw',y4 zH]
   intro h
   rw[← hraw]
   have:=hI.eq (by rw[hS];exact hbadS h)
   exact this
  ·rw[hnext,hraw']
   intro z hz
   by_cases hzy:z.k=y.k
   ·obtain rfl:=hKt.uniq hz hy hzy
    refine ⟨c,d,g3,g4,g5,fun h=>?_⟩
    rw[← hyk,KY.get_same]
    exact (g7 h).2
   ·obtain ⟨c',d',k1,k2,k3,k4⟩:=hys1 z hz
    refine ⟨c',d',k1,k2.eff g6 ?_,(hKt.ok z hz).2.2.1 w1 w' _ B c' d' k3,fun h=>?_⟩
    ·rintro j hj (⟨e,_⟩ | ⟨_,e2,e3⟩)
     ·exact h1 e
     ·rw[k1] at hj
      rcases hKt.apart hz hy hzy with h | h<;>omega
    ·rw[KY.get_ne _ _ _ zH]
     exact k4 (hbadS h)
 ·
  intro y hy hyk a' w' g1 g2 g3 g4 g5
  have hpos:=hKt.pos y hy
  refine kr a' w' (by rw[g1,hf2.defers]) (by rw[g2,hz2]) g3 (hEw1.trans (g4.mono ?_)) ?_
  ·rintro k j _ (h | ⟨e1,e2,e3⟩)
   ·exact .inl h
   ·exact .inr ⟨e1,.inr ⟨y,hy,e2,e3⟩⟩
  ·refine yL (j:=i+1) hiN ?_
   rw[hsnoc]
   rcases g5 with h | h
   ·simp only[h,Bool.true_or]
   ·rw[← hKt.ck1 y hy,hyk] at h
    simp only[h,Bool.not_false,Bool.or_true]
 ·
  intro hno A3 hf3 he3
  have hkey2:kts.length<=key:=by
   rcases Nat.lt_or_ge key kts.length with h | h
   ·obtain ⟨y,hy,e⟩:=hKt.has h
    exact absurd e (hno y hy)
   ·exact h
  have hz3:=hf3.size
  have hst3:RSta E x ver fx rb sb ev A3 w1 S1:=hst2.fr hs1 (hf3.mono (KR.mono zH zH))
  refine m_krSet HK (K:=KR L (n+1) t) hst3.rd hst3.p7 (by rw[he3 s zH];exact hp2) (by rw[he3 (n+1) zH];exact k2n) zH hfo hcell1 hfree1 htag1 zH hslt zH h1 h2 (fun d hd=>hkt d zH) zH zH zH (by rw[hz3,hz2];omega) ?_
  intro a' w2 w' v' g1 g2 g3 g4 g5 g6 g7 g8 g9 g10
  change RdS w' rb sb (xo S1).2 at g5
  change zZ w' sb w0.heap.size v' (qv key (xo S1).1 tg) at g10
  have hnext:(qC ck (i+1) [] st1).2=(xo S1).2:=by
   rw[hsnoc]
   simp only[hKt.ck0 key hkey2,Bool.not_true,Bool.or_false]
  have hraw':(qC ck (i+1) [] st1).1=qv key (xo S1).1 raw:=by rw[hsnoc]
  have hf':Fr (KR L (n+1) t) A a':=(hf2.trans (hf3.mono (KR.mono zH zH))).trans g1
  have hEw2:Eff (FK rb pb po off 1 kts) w0 w2:=hEw1.trans (g2.mono (fun k i _ h=>.inl h))
  have hEw':Eff (FK rb pb po off 1 kts) w0 w':=g3.eff hEw2 (fun q e=>g9.low q e) (fun _=>.inr ⟨rfl,.inl ⟨by omega,by omega⟩⟩)
  have hfr:=hst.fr hs1 hf'
  refine vN (kn a' w' v' _ hf' ⟨?_,g6,g8,g10,?_,?_,?_,hEw'⟩)
  ·rw[hnext]
   have he2:w2.cell? ⟨E.vErr,0,none⟩=some ev:=g2.cellSome hst3.err (fun hh=>hst3.evr hh.1)
   exact ⟨g5,hfr.p7,hfr.us,hfr.ver,hfr.fl,g3.cell he2 (g9.ne he2) (by rintro ⟨e,_⟩;exact h3 e.symm),hst.evr,hst.evi⟩
  ·intro z hz
   rcases kG _ _ _ z hz with rfl | hz
   ·exact hkey2
   ·exact hI.low z hz
  ·rw[hnext,hraw',jA hkey2]
   intro h
   rw[← hraw]
   have:=hI.eq (by rw[hS];exact hbadS h)
   rw[← this]
  ·rw[hnext,hraw']
   intro z hz
   obtain ⟨c',d',k1,k2,k3,k4⟩:=hys1 z hz
   have hpos:=hKt.pos z hz
   have k2':qb w2 pb (po+z.off) c':=k2.eff g2 (by rintro j hj ⟨e,_⟩;exact h1 e)
   refine ⟨c',d',k1,g3.cells k2' (g9.ne (g2.cellSome hcell1 (by rintro ⟨e,_⟩;exact h1 e))) ?_,(hKt.ok z hz).2.2.1 w1 w' _ B c' d' k3,fun h=>?_⟩
   ·rintro j hj ⟨_,e⟩
    omega
   ·rw[KY.get_ne _ _ _ (by have:=hKt.lt hz;omega)]
    exact k4 (hbadS h)
end
end Go.Km
namespace Go.Km
open Go Go.RowKit
attribute [local irreducible] vc rO_ qz qJ qF
section
variable {P : Program} {E : Env} {T : List (Nat × List UInt8) → Prop}
set_option maxHeartbeats 1000000 in
theorem m_tagsK (H:EnvR P E T) (HK:EnvRK P E T) {x:Cx} {ver fl:Nat} {fx:Bool} {L TP TU s idx off n t b rb sb pb po B:Nat} {ev:Value} {a:Act} {w:World} {st:RSt} {Q:Exit->Act->World->Prop} {kts:List KY} {ck:Nat->List UInt8->Bool}
  (hKt:KtOK P E T x ver fx L s kts ck off pb po w) (hx:x.fl=some fl) (hfo:qk P TU idx=some off) (hs:RSl x L n t fx) (hn:n+(2+(kts.map (·.krd.casN)).sum)<=L) (ht:t+(16+(kts.map fun y=>2+y.krd.casT).sum)<=a.tmps.size) (hst:RSta E x ver fx rb sb ev a w st)
  (hp:a.eval (.tmp s)=.pointer (some ⟨pb,po,none⟩)) (hsn:s<n) (hc:w.cell? ⟨pb,po+off,none⟩=some (.map none)) (hf:qt w pb (po+off)) (h1:pb≠rb) (h2:pb≠sb) (h3:pb≠E.vErr) (hB:pb<B) (hrB:rb<B) (hBw:B<=w.heap.size)
  (hys:KYs fx ver w pb po B ⟨sb,T⟩ kts True [])
  (kn:∀ a' w' v tg,Fr (KR L n t) a a'->RSta E x ver fx rb sb ev a' w' (if fx then (zw ck st).2 else st)->w'.cell? ⟨pb,po+off,none⟩=some v->zZ w' sb w.heap.size v tg->(∀ z ∈ tg,kts.length<=z.1) →
   ((if fx then (zw ck st).2 else st).2=false->tg=(if fx then (zw ck st).1 else []).filter (fun x=>decide (kts.length<=x.1))) →
   KYs fx ver w' pb po B ⟨sb,T⟩ kts ((if fx then (zw ck st).2 else st).2=false) (if fx then (zw ck st).1 else [])->Eff (FK rb pb po off 1 kts) w w'->Q .normal a' w')
  (kr:∀ a' w',a'.defers=a.defers->a'.tmps.size=a.tmps.size->a'.eval (.tmp 6)=ev->Eff (FK rb pb po off 1 kts) w w'->(if fx then (zw ck st).2 else st).2=true->Q .ret a' w') :
  vc P (sq (rTagsK E x TP TU s idx n t b (kts.map (·.krd)))) Q a w:=by
 have hnL:=hs.nL;have hLt:=hs.Lt;have h7:=hs.seven;have hrd:=hs.rd;have hvs:=hs.vs
 have hkt:=hs.kt
 have hrlt:=hst.rd.rb_lt
 have hslt:=hst.rd.lt
 have htag0:zZ w sb w.heap.size (.map none) []:=⟨⟨List.Pairwise.nil,by simp⟩,.inl ⟨rfl,rfl⟩⟩
 simp only[rTagsK,hx]
 refine vS (vX (rM (dn ?_)))
 have hf0:Fr (KR L n t) a (a.put (some t) (a.eval (.tmp fl))):=(Fr.refl _ a).put _ (hkt _ (Nat.le_refl _))
 refine vS (vC (t:=fx) (by rw[qD _ _ _ zH];exact hst.fl fl hx) ?_ ?_)
 rotate_left
 ·intro h
  subst h
  refine vK (vN (vN (kn _ w (.map none) [] hf0 (hst.fr hs hf0) hc htag0 zS (fun _=>rfl) ?_ (Eff.refl _ _))))
  intro y hy
  obtain ⟨c,d,k1,k2,k3,k4⟩:=hys y hy
  exact ⟨c,d,k1,k2,k3,fun _=>k4 trivial⟩
 intro h
 subst h
 simp only[if_true] at kn kr
 refine vX ?_
 refine q8 (args:=#[.pointer (some ⟨rb,0,none⟩)]) ?_ (HK.cU rb sb st w hst.rd) ?_
 ·simp only[lM]
  simp (disch:=(try simp only[sP]);omega) only[eV,hst.p7]
 rintro v1 w1 ⟨rfl,hr1,hE1,_⟩
 refine rA (dn ?_)
 have hNlt:=z9 st
 have hres:zw ck st=qC ck (qn st).1 [] (qn st).2:=rfl
 rw[hres] at kn kr
 generalize hN:(qn st).1=N at *
 generalize hst1:(qn st).2=st1 at *
 generalize hA1:Act.put _ (some n) _=A1
 have hf1:Fr (KR L n t) a A1:=by
  subst hA1
  exact (((Fr.refl _ a).put _ (hkt _ zH)).put _ (hkt _ zH)).put _ (hs.kn n (Nat.le_refl _) zH)
 have k1n:A1.eval (.tmp n)=.int .u32 ((N-0:Nat):Int):=by subst hA1;simp (disch:=(try simp only[sP]);omega) only[eV];rfl
 clear hA1
 have hz1:=hE1.size
 refine vS (qh (zI (fun A W=>∃ i v tg,i<=N/\Fr (KR L n t) a A/\A.eval (.tmp n)=.int .u32 ((N-i:Nat):Int)/\KInv P E T x ver true rb sb pb po off B ev kts ck st1 w i v tg A W) (fun A _=>(intOf (A.eval (.tmp n))).toNat) ?_ ?_))
 ·refine ⟨0,.map none,[],Nat.zero_le _,hf1,k1n,⟨hst.step hs hf1 hr1 hE1,hE1.cellSome hc (by rintro ⟨e,_⟩;exact h1 e),hf.eff hE1,htag0.eff hE1 zH hst.rd.ne zH,by simp,fun _=>rfl,?_,hE1.mono (fun k i _ h=>.inl h)⟩⟩
  have:=hys.eff hKt.ok hE1 h1
  intro y hy
  obtain ⟨c,d,k1,k2,k3,k4⟩:=this y hy
  exact ⟨c,d,k1,k2,k3,fun _=>k4 trivial⟩
 ·rintro A W ⟨i,v,tg,hi,hfA,hcnt,hI⟩
  have hzA:=hfA.size
  refine vS (vX (rM ?_))
  refine ji (k:=.u32) (m:=((N-i:Nat):Int)) (n:=0) zA rfl ?_
  refine dn ?_
  generalize hA2:Act.put _ (some (t+3)) _=A2
  have hs1:RSl x L (n+1) t true:=hs.up zH zH (Nat.le_refl _)
  have hf2:Fr (KR L (n+1) t) A A2:=by
   subst hA2
   exact ((Fr.refl _ A).put _ (hs1.kt _ zH)).put _ (hs1.kt _ zH)
  have hc2:A2.eval (.tmp (t+3))=.bool (decide (((N-i:Nat):Int)>0)):=by subst hA2;exact zE
  clear hA2
  have hz2:=hf2.size
  have hI2:KInv P E T x ver true rb sb pb po off B ev kts ck st1 w i v tg A2 W:=⟨hI.st.fr hs1 hf2,hI.cell,hI.free,hI.tag,hI.low,hI.eq,hI.ys,hI.eff⟩
  have hcnt2:A2.eval (.tmp n)=.int .u32 ((N-i:Nat):Int):=by rw[hf2.slot _ (.inl zH)];exact hcnt
  refine vS (vC hc2 ?_ ?_)
  ·intro hgt
   have hiN:i<N:=by
    have:((N-i:Nat):Int)>0:=by simpa using hgt
    omega
   refine vK (vN ?_)
   refine vS (qh ?_)
   refine m_tagStep H HK hKt hfo hs hn (by rw[hz2,hzA];exact ht) (by rw[hf2.slot _ (.inl zH),hfA.slot _ (.inl hsn)];exact hp) hsn h1 h2 h3 hB hrB hBw hslt hI2 hiN ?_ ?_
   ·intro A3 W3 v3 tg3 hf3 hI3
    have hz3:=hf3.size
    have hcnt3:A3.eval (.tmp n)=.int .u32 ((N-i:Nat):Int):=by rw[hf3.slot _ (.inl zH)];exact hcnt2
    show vc P (sq [rg _]) _ A3 W3
    refine vX (rM ?_)
    refine yw (k:=.u32) (m:=((N-i:Nat):Int)) (n:=1) zA rfl ?_
    rw[wrapu32 zH zH]
    refine rA (dn (vN ?_))
    generalize hA4:Act.put _ (some n) _=A4
    have hf4:Fr (KR L n t) A3 A4:=by
     subst hA4
     exact (((Fr.refl _ A3).put _ (hkt _ zH)).put _ (hkt _ zH)).put _ (hs.kn n (Nat.le_refl _) zH)
    have e4:A4.eval (.tmp n)=.int .u32 (((N-i:Nat):Int)-1):=by subst hA4;exact zE
    have e1:((N-i:Nat):Int)-1=((N-(i+1):Nat):Int):=by omega
    rw[e1] at e4
    refine ⟨⟨i+1,v3,tg3,hiN,((hfA.trans (hf2.mono (KR.mono zH (Nat.le_refl _)))).trans (hf3.mono (KR.mono zH (Nat.le_refl _)))).trans hf4,e4,⟨hI3.st.fr hs hf4,hI3.cell,hI3.free,hI3.tag,hI3.low,hI3.eq,hI3.ys,hI3.eff⟩⟩,?_⟩
    show (intOf _).toNat<(intOf _).toNat
    rw[e4,hcnt]
    simp only[intOf,Int.toNat_natCast]
    omega
   ·intro A3 W3 g1 g2 g3 g4 g5
    exact kr A3 W3 (by rw[g1,hf2.defers,hfA.defers]) (by rw[g2,hz2,hzA]) g3 g4 g5
  ·intro hle
   have hiN:i=N:=by
    have:¬ (((N-i:Nat):Int)>0):=by simpa using hle
    omega
   subst hiN
   refine xb ?_
   simp only[Exit.then,Exit.inBlock,if_true]
   exact vN (vN (vN (kn A2 W v tg (hfA.trans (hf2.mono (KR.mono zH (Nat.le_refl _)))) hI2.st hI2.cell hI2.tag hI2.low hI2.eq hI2.ys hI2.eff)))
end
def Flds.RValK (P:Program) (E:Env) (T:List (Nat × List UInt8)->Prop) (fs:Flds):Prop :=
 ∀ (x:Cx) (ver:Nat) (fx:Bool) (L:Nat) (TP TU:TypeId) (s idx off n t b rb sb pb po B:Nat) (ev:Value) (a:Act) (w:World) (st:RSt) (Q:Exit->Act->World->Prop) (kts:List KY) (ck:Nat->List UInt8->Bool),
  Flds.okR P E x TU idx off kts.length fs=true->fs.txR P E->RSl x L n t fx->n+Flds.rn (kts.map (·.krd.casN)) fs<=L->t+Flds.rt x (kts.map fun y=>2+y.krd.casT) fs<=a.tmps.size->RSta E x ver fx rb sb ev a w st->KtOK P E T x ver fx L s kts ck off pb po w →
  a.eval (.tmp s)=.pointer (some ⟨pb,po,none⟩)->s<n->qb w pb (po+off) fs.dz->(∀ i,i<fs.size->qt w pb (po+off+i))->pb≠rb->pb≠sb->pb≠E.vErr->pb<B->rb<B->B<=w.heap.size →
  (∀ a' w' cs ds tg,Fr (KR L n t) a a'->RSta E x ver fx rb sb ev a' w' (fs.rd fx ver ck st).2.2->cs.length=fs.size->qb w' pb (po+off) cs->fs.Rep w' ⟨sb,T⟩ B cs ds tg->(∀ z ∈ tg,kts.length<=z.1) →
   KYs fx ver w' pb po B ⟨sb,T⟩ kts ((fs.rd fx ver ck st).2.2.2=false) (fs.rd fx ver ck st).2.1->Eff (FK rb pb po off fs.size kts) w w' →
   ((fs.rd fx ver ck st).2.2.2=false->ds=(fs.rd fx ver ck st).1/\tg=(fs.rd fx ver ck st).2.1.filter (fun x=>decide (kts.length<=x.1)))->Q .normal a' w') →
  (∀ a' w',a'.defers=a.defers->a'.tmps.size=a.tmps.size->a'.eval (.tmp 6)=ev->Eff (FK rb pb po off fs.size kts) w w'->(fs.rd fx ver ck st).2.2.2=true->Q .ret a' w') →
  vc P (sq (Flds.rc E x TP TU s idx (kts.map (·.krd)) n t b fs)) Q a w
section
variable {P : Program} {E : Env} {T : List (Nat × List UInt8) → Prop}
theorem FK_nil {rb pb po off n:Nat} (m:Nat) (k i:Nat) (_:k<m) (h:FK rb pb po off n [] k i):FM rb pb (po+off) n k i:=by
 rcases h with h | ⟨e,h | ⟨y,hy,_⟩⟩
 ·exact .inl h
 ·exact .inr ⟨e,h⟩
 ·simp at hy
theorem Flds.RValK.plain {fs:Flds} (h:fs.RValK P E T):fs.RVal P E T:=by
 intro x ver fx L TP TU s idx off n t b rb sb pb po B ev a w st Q hok htx hs hn ht hst hp hsn hc hf h1 h2 h3 hB hrB hBw kn kr
 refine h x ver fx L TP TU s idx off n t b rb sb pb po B ev a w st Q [] noK hok htx hs hn ht hst ⟨by simp,rfl,by simp,fun _ _ _=>rfl,by simp,List.Pairwise.nil,by simp,by simp⟩ hp hsn hc hf h1 h2 h3 hB hrB hBw ?_ ?_
 ·intro a' w' cs ds tg g1 g2 g3 g4 g5 g6 g7 g8 g9
  refine kn a' w' cs ds tg g1 g2 g3 g4 g5 (g8.mono (FK_nil _)) (fun hh=>⟨(g9 hh).1,?_⟩)
  rw[(g9 hh).2]
  exact List.filter_eq_self.2 zS
 ·intro a' w' g1 g2 g3 g4 g5
  exact kr a' w' g1 g2 g3 (g4.mono (FK_nil _)) g5
theorem fv_nil (H:EnvR P E T) (HK:E.rTags≠0->EnvRK P E T) (hT:T []) (b0:Bool):(Flds.nil b0).RValK P E T:=by
 intro x ver fx L TP TU s idx off n t b rb sb pb po B ev a w st Q kts ck hok htx hs hn ht hst hKt hp hsn hc hf h1 h2 h3 hB hrB hBw kn kr
 have hnL:=hs.nL;have hLt:=hs.Lt;have h7:=hs.seven;have hrd:=hs.rd
 have hkt:=hs.kt
 have hdz:KYs fx ver w pb po B ⟨sb,T⟩ kts True []:=fun y hy=>⟨y.ty.dz,y.ty.dflt,Ty.dz_len _,hKt.dz y hy,(hKt.ok y hy).2.2.2.1 w _ B,fun _=>rfl⟩
 -- no tags are read
 have same:fx=false->∀ a1,Fr (KR L n t) a a1->Q .normal a1 w:=by
  intro h a1 hfr
  subst h
  refine kn a1 w (Flds.dz (.nil b0)) [] [] hfr (hst.fr hs hfr) (Flds.dz_len _) hc (Flds.dz_rep hT (.nil b0) B rfl) zS ?_ (Eff.refl _ _) (fun _=>⟨?_,?_⟩)
  ·intro y hy
   obtain ⟨c,d,k1,k2,k3,k4⟩:=hdz y hy
   exact ⟨c,d,k1,k2,k3,fun _=>k4 trivial⟩
  ·simp[Flds.rd]
  ·simp[Flds.rd]
 cases hx:x.fl with
 | none =>
  have:sq (Flds.rc E x TP TU s idx (kts.map (·.krd)) n t b (.nil b0))=sq []:=by
   simp only[Flds.rc,rTagsC,rTagsK,hx,ite_self]
  rw[this]
  exact vN (same (hs.no hx) a (Fr.refl _ _))
 | some fl =>
 simp only[Flds.okR,hx,Option.isNone_some,Bool.false_or,Bool.and_eq_true,beq_iff_eq,bne_iff_ne] at hok
 obtain ⟨⟨⟨htg,hfo⟩,hrt⟩,hagg⟩:=hok
 subst htg
 have HK:=HK hrt
 have hfl:=hs.fl fl hx
 cases kts with
 | cons y0 kts0 =>
  simp only[Flds.rc,List.map_cons,List.isEmpty_cons,Bool.false_eq_true,if_false]
  simp only[Flds.rn,List.map_cons,List.isEmpty_cons,Bool.false_eq_true,if_false] at hn
  simp only[Flds.rt,hx,List.map_cons,List.isEmpty_cons,Bool.false_eq_true,if_false] at ht
  have hc0:w.cell? ⟨pb,po+off,none⟩=some (.map none):=hc 0 _ (by simp[Flds.dz])
  have hf0:qt w pb (po+off):=by simpa using hf 0 (by simp[Flds.size])
  refine m_tagsK H HK (kts:=y0::kts0) hKt hx hfo hs hn ht hst hp hsn hc0 hf0 h1 h2 h3 hB hrB hBw hdz ?_ ?_
  ·intro a' w' v tg g1 g2 g3 g4 g5 g6 g7 g8
   have hsz:=g8.size
   have hslt:=hst.rd.lt
   refine kn a' w' [v] [] tg g1 ?_ (by simp[Flds.size]) ?_ ?_ g5 ?_ g8 ?_
   ·cases fx<;>simpa [Flds.rd] using g2
   ·intro j u hu
    cases j with
    | zero=>simp only[List.getElem?_cons_zero,Option.some.injEq] at hu;subst hu;exact g3
    | succ j=>simp at hu
   ·simp only[Flds.Rep,if_true]
    exact ⟨v,rfl,g4.repT zH (HK.all _) hBw⟩
   ·cases fx<;>simpa [Flds.rd] using g7
   ·intro h
    cases fx with
    | true =>
     simp only[Flds.rd,if_true] at h g6 ⊢
     exact ⟨trivial,g6 h⟩
    | false =>
     simp only[Flds.rd,Bool.false_eq_true,if_false] at h g6 ⊢
     exact ⟨trivial,g6 h⟩
  ·intro a' w' g1 g2 g3 g4 g5
   refine kr a' w' g1 g2 g3 g4 ?_
   cases fx<;>simpa [Flds.rd] using g5
 | nil =>
  have hck:ck=noK:=funext fun j=>funext fun p=>hKt.ck0 j (Nat.zero_le _) p
  subst hck
  simp only[Flds.rc,List.map_nil,List.isEmpty_nil,if_true,rTagsC,hx]
  simp only[Flds.rt,hx,List.map_nil,List.isEmpty_nil,if_true] at ht
  refine vS (vX (rM (dn ?_)))
  have hf0:Fr (KR L n t) a (a.put (some t) (a.eval (.tmp fl))):=(Fr.refl _ a).put _ (hkt _ (Nat.le_refl _))
  refine vS (vC (t:=fx) (by rw[qD _ _ _ zH];exact hst.fl fl hx) ?_ ?_)
  ·intro h
   subst h
   simp only[Flds.rd,if_true,rdTagsK_no] at kn kr
   refine vR zS ?_
   refine rM ?_
   refine q8 (args:=#[.pointer (some ⟨rb,0,none⟩)]) ?_ (H.tags hrt rb sb st w hst.rd) ?_
   ·simp only[lM]
    simp (disch:=(try simp only[sP]);omega) only[eV,hst.p7]
   rintro v w1 ⟨⟨u,tags,rfl,hu,htr,htd⟩,hr,hE⟩
   refine qY (ad:=⟨pb,po,none⟩) zA ?_
   refine rF (b:=pb) (o:=po) zE hfo ?_
   have hfree:∀ i,i < [u].length->qt w1 pb (po+off+i):=fun i hi=>(hf i (by simpa [Flds.size] using hi)).eff hE
   refine qu (b:=pb) (o:=po+off) (cs:=[u]) zE zE (by simpa using hu) hagg hfree ?_
   refine dn (vN (vN ?_))
   have hE2:=qe pb [u] w1 (po+off)
   have hE2':Eff (FK rb pb po off (Flds.nil true).size []) w1 (setCells w1 pb (po+off) [u]):=hE2.mono (by
    rintro k i _ ⟨e1,e2,e3⟩
    simp only[List.length_cons,List.length_nil] at e3
    exact .inr ⟨e1,.inl ⟨e2,by simp only[Flds.size,if_true];omega⟩⟩)
   have hE1':Eff (FK rb pb po off (Flds.nil true).size []) w w1:=hE.mono (fun k i _ h=>.inl h)
   generalize ha2:Act.put (Act.put (Act.put (Act.put (Act.put a _ _) _ _) _ _) _ _) _ _=a2
   have hf2:Fr (KR L n t) a a2:=by
    subst ha2
    exact (((((Fr.refl _ a).put _ (hkt _ zH)).put _ (hkt _ zH)).put _ (hkt _ zH)).put _ (hkt _ zH)).put _ (hkt _ zH)
   refine kn a2 _ [u] [] tags hf2 ?_ (by simp[Flds.size]) ?_ ?_ zS (by intro y hy;simp at hy) (hE1'.trans hE2') ?_
   ·exact (hst.step hs hf2 hr hE).keep hs (Fr.refl _ _) hE2 (by rintro j ⟨h,_⟩;exact h1 h.symm) (by rintro j ⟨h,_⟩;exact h2 h.symm) (by rintro j ⟨h,_⟩;exact h3 h.symm)
   ·intro j v hv
    exact qg _ _ _ _ (fun j hj=>(hfree j hj).1) j v hv
   ·simp only[Flds.Rep,if_true]
    refine ⟨u,rfl,htr.eff hE2 ?_ ?_ hBw⟩
    ·rintro j ⟨h,_⟩;exact h2 h.symm
    ·rintro k j hk _ ⟨h,_⟩;omega
   ·intro h
    refine ⟨rfl,?_⟩
    rw[htd h]
    exact (List.filter_eq_self.2 zS).symm
  ·intro h
   exact vK (vN (vN (same h _ hf0)))
end
end Go.Km
namespace Go.Km
open Go Go.RowKit
attribute [local irreducible] vc rO_ qz qJ qF
section
variable {P : Program} {E : Env} {T : List (Nat × List UInt8) → Prop}
theorem m_nstruct (H:EnvR P E T) {TP' TU' PP:TypeId} {FD:FuncId} {fs:Flds} (hF:fs.RVal P E T) {x:Cx} {ver:Nat} {fx:Bool} {L TP TU s idx off n t b rb sb pb po B:Nat} {ev:Value} {a:Act} {w:World} {st:RSt} {Q:Exit->Act->World->Prop}
  (hok:(Ty.nstruct TP' TU' FD fs PP).okR P E x=true) (htx:(Ty.nstruct TP' TU' FD fs PP).txR P E) (hs:RSl x L n t fx) (hn:n+3+fs.rn<=L) (ht:t+(17+fs.rt x)<=a.tmps.size) (hst:RSta E x ver fx rb sb ev a w st)
  (hp:a.eval (.tmp s)=.pointer (some ⟨pb,po,none⟩)) (hsn:s<n) (hfo:qk P TU idx=some off) (hc:qb w pb (po+off) [.pointer none]) (hf:qt w pb (po+off)) (h1:pb≠rb) (h2:pb≠sb) (h3:pb≠E.vErr) (hB:pb<B) (hrB:rb<B) (hBw:B<=w.heap.size)
  (kn:∀ a' w' c d,Fr (KR L n t) a a'->RSta E x ver fx rb sb ev a' w' ((Ty.nstruct TP' TU' FD fs PP).rd fx ver st).2->c.length=1->qb w' pb (po+off) c->(Ty.nstruct TP' TU' FD fs PP).Rep w' ⟨sb,T⟩ B c d->Eff (FM rb pb (po+off) 1) w w' →
   (((Ty.nstruct TP' TU' FD fs PP).rd fx ver st).2.2=false->d=((Ty.nstruct TP' TU' FD fs PP).rd fx ver st).1)->Q .normal a' w')
  (kr:∀ a' w',a'.defers=a.defers->a'.tmps.size=a.tmps.size->a'.eval (.tmp 6)=ev->Eff (FM rb pb (po+off) 1) w w'->((Ty.nstruct TP' TU' FD fs PP).rd fx ver st).2.2=true->Q .ret a' w') :
  vc P (sq (Ty.rc E x TP TU s idx n t b (.nstruct TP' TU' FD fs PP))) Q a w:=by
 have hnL:=hs.nL;have hLt:=hs.Lt;have h7:=hs.seven;have hrd:=hs.rd
 have hkt:=hs.kt
 simp only[Ty.okR,Bool.and_eq_true,bne_iff_ne] at hok
 obtain ⟨⟨⟨hI8,hTP⟩,hokF⟩,hokD⟩:=hok
 simp only[Ty.txR] at htx
 obtain ⟨⟨np,nt,htxt,hnt⟩,hz,htxF⟩:=htx
 obtain ⟨z,hz,hzc⟩:=Option.map_eq_some_iff.1 hz
 have hrd:(Ty.nstruct TP' TU' FD fs PP).rd fx ver st=if (Scal.i8.rd st).1 = -1\/(Scal.i8.rd st).2.2=true then (.list none,(Scal.i8.rd st).2)
  else (.list (some [.obj (fs.rd fx ver noK (Scal.i8.rd st).2).1 (fs.rd fx ver noK (Scal.i8.rd st).2).2.1]),(fs.rd fx ver noK (Scal.i8.rd st).2).2.2):=by simp only[Ty.rd]
 rw[hrd] at kn kr
 clear hrd
 simp only[Ty.rc]
 refine vS (j6 (K:=KR L n t) hst.p7 (H.scal .i8 hI8 rb sb st w hst.rd) hkt (hs.kn n (Nat.le_refl _) zH) zH zH ?_)
 rintro a1 v w1 hf1 he1 ⟨⟨hv,_⟩,hr1,hE1⟩
 have hst1:=hst.step hs hf1 hr1 hE1
 have hz1:=hf1.size
 have hEm1:Eff (FM rb pb (po+off) 1) w w1:=hE1.mono (fun k i _ h=>.inl h)
 have hc1:qb w1 pb (po+off) [.pointer none]:=hc.eff hE1 (by rintro i hi ⟨h,_⟩;exact h1 h)
 have hv':v=.int .i8 (Scal.i8.rd st).1:=hv
 have hp1:a1.eval (.tmp s)=.pointer (some ⟨pb,po,none⟩):=by rw[hf1.slot _ (.inl hsn)];exact hp
 have hws1:=hE1.size
 refine vS (vS (xF ?_))
 refine rD rfl (wN rfl) (rM (dn (rT ?_)))
 refine rD rfl (wN rfl) (r_neq (k:=.i8) (m:=(Scal.i8.rd st).1) (n:=-1) (by simp (disch:=(try simp only[sP]);omega) only[eV,he1,hv']) rfl (dn (rT ?_)))
 refine rD rfl (wN rfl) (rM (dn (rT ?_)))
 have null:∀ a2,Fr (KR L n t) a a2->((Scal.i8.rd st).1 = -1\/(Scal.i8.rd st).2.2=true)->Q .normal a2 w1:=by
  intro a2 hf2 hor
  rw[if_pos hor] at kn
  exact kn a2 w1 [.pointer none] (.list none) hf2 (hst.step hs hf2 hr1 hE1) rfl hc1 rfl hEm1 (fun _=>rfl)
 by_cases hm:(Scal.i8.rd st).1 = -1
 ·have hm':((Scal.i8.rd st).1 != -1)=false:=by simpa using hm
  rw[hm']
  refine qX rfl (by rw[wS (b:=false) rfl rfl zE];rfl) ?_
  refine rD rfl (wN rfl) (xx zE (dn (rT ?_)))
  refine qy ?_
  refine vS (vC (t:=false) zE (fun h=>by cases h) (fun _=>?_))
  refine vK (vN (vN (null _ ?_ (.inl hm))))
  exact ((((hf1.put _ (hkt _ zH)).put _ (hkt _ zH)).put _ (hkt _ zH)).put _ (hkt _ zH)).put _ (hkt _ zH)
 have hm':((Scal.i8.rd st).1 != -1)=true:=by simpa using hm
 rw[hm']
 refine rD rfl (by rw[wS (b:=true) rfl rfl zE];rfl) (q8 (args:=#[.pointer (some ⟨rb,0,none⟩)]) ?_ (H.ok rb sb (Scal.i8.rd st).2 w1 hr1) ?_)
 ·have:=hst1.p7
  simp only[lM]
  simp (disch:=(try simp only[sP]);omega) only[eV,this]
 rintro v2 w2 ⟨rfl,hw2⟩
 rw[hw2]
 clear hw2
 refine dn (rT ?_)
 refine rD rfl (wN rfl) (qZ zE (dn (rT ?_)))
 refine qy ?_
 generalize ha2:Act.put _ (some (t+5)) _=a2
 have hf2:Fr (KR L n t) a a2:=by
  subst ha2
  exact ((((hf1.put _ (hkt _ zH)).put _ (hkt _ zH)).put _ (hkt _ zH)).put _ (hkt _ zH)).put _ (hkt _ zH)
 have hz2:=hf2.size
 have he2:a2.eval (.tmp (t+5))=.bool (!(Scal.i8.rd st).2.2):=by subst ha2;exact zE
 have hp2:a2.eval (.tmp s)=.pointer (some ⟨pb,po,none⟩):=by subst ha2;exact zA
 clear ha2
 refine vS (vC (t:=!(Scal.i8.rd st).2.2) he2 ?_ (fun hbad=>?_))
 rotate_left
 ·have hbad':(Scal.i8.rd st).2.2=true:=by simpa using hbad
  exact vK (vN (vN (null a2 hf2 (.inr hbad'))))
 ·intro hgood
  have hgood':(Scal.i8.rd st).2.2=false:=by simpa using hgood
  have hor:¬ ((Scal.i8.rd st).1 = -1\/(Scal.i8.rd st).2.2=true):=by
   rintro (h | h)
   ·exact hm h
   ·rw[hgood'] at h;cases h
  rw[if_neg hor] at kn kr
  have hfree1:qt w1 pb (po+off):=hf.eff hE1
  have hpb1:=hfree1.lt
  have hrb1:rb<w1.heap.size:=by omega
  have hsb1:=hr1.lt
  have hev1:E.vErr<w1.heap.size:=qo hst1.err
  have hf2':qt (w1.alloc (.cells z.cells TU')) pb (po+off):=hfree1.eff ((Eff.refl (fun _ _=>False) _).alloc _)
  refine vX (rM ?_)
  refine qI hz ?_
  refine qY (ad:=⟨pb,po,none⟩) zA ?_
  refine rF (b:=pb) (o:=po) zE hfo ?_
  refine xq (b:=pb) (o:=po+off) (v:=.pointer (some ⟨w1.heap.size,0,none⟩)) zE zE rfl hTP hf2' ?_
  refine dn ?_
  have hzl:z.cells.size=fs.size:=by
   have:=congrArg List.length hzc
   rw[Flds.zc_len] at this
   simpa using this
  have hEa:Eff (fun k i=>k=pb/\i=po+off) w1 ((w1.alloc (.cells z.cells TU')).setCell ⟨pb,po+off,none⟩ (.pointer (some ⟨w1.heap.size,0,none⟩))) :=
   ((Eff.refl _ w1).alloc _).setCell _ _ _ (fun _=>⟨rfl,rfl⟩)
  have hc3:qb ((w1.alloc (.cells z.cells TU')).setCell ⟨pb,po+off,none⟩ (.pointer (some ⟨w1.heap.size,0,none⟩))) pb (po+off) [.pointer (some ⟨w1.heap.size,0,none⟩)]:=by
   intro j u hu
   cases j with
   | zero =>
    simp only[List.getElem?_cons_zero,Option.some.injEq] at hu
    subst hu
    exact qp _ hf2'.1
   | succ j=>simp at hu
  have hq3:qb ((w1.alloc (.cells z.cells TU')).setCell ⟨pb,po+off,none⟩ (.pointer (some ⟨w1.heap.size,0,none⟩))) w1.heap.size 0 fs.zc:=by
   intro j u hu
   rw[xE _ (.inl zH),Nat.zero_add]
   refine qs w1 _ TU' ?_
   rw[← Array.getElem?_toList,hzc]
   exact hu
  have hqf:∀ j,j<fs.size->qt ((w1.alloc (.cells z.cells TU')).setCell ⟨pb,po+off,none⟩ (.pointer (some ⟨w1.heap.size,0,none⟩))) w1.heap.size (0+j):=by
   intro j hj
   have:=qm w1 z.cells TU' (i:=j) zH
   rw[Nat.zero_add]
   exact this.eff ((Eff.refl (fun k _=>k=pb) _).setCell _ _ _ (fun _=>rfl))
  have hqlt:w1.heap.size<((w1.alloc (.cells z.cells TU')).setCell ⟨pb,po+off,none⟩ (.pointer (some ⟨w1.heap.size,0,none⟩))).heap.size:=by simp
  generalize (w1.alloc (.cells z.cells TU')).setCell ⟨pb,po+off,none⟩ (.pointer (some ⟨w1.heap.size,0,none⟩))=w3 at *
  have hst2:RSta E x ver fx rb sb ev a2 w1 (Scal.i8.rd st).2:=hst.step hs hf2 hr1 hE1
  generalize ha3:Act.put _ (some (t+9)) _=a3
  have hf3:Fr (KR L n t) a2 a3:=by
   subst ha3
   exact ((((Fr.refl _ a2).put _ (hkt _ zH)).put _ (hkt _ zH)).put _ (hkt _ zH)).put _ (hkt _ zH)
  have hp3:a3.eval (.tmp s)=.pointer (some ⟨pb,po,none⟩):=by subst ha3;exact zA
  have hz3:=hf3.size
  clear ha3
  have hst3:RSta E x ver fx rb sb ev a3 w3 (Scal.i8.rd st).2:=hst2.keep hs hf3 hEa (by rintro j ⟨h,_⟩;exact h1 h.symm) (by rintro j ⟨h,_⟩;exact h2 h.symm) (by rintro j ⟨h,_⟩;exact h3 h.symm)
  refine vX (rM ?_)
  refine qY (ad:=⟨pb,po,none⟩) zA ?_
  refine rF (b:=pb) (o:=po) zE hfo ?_
  refine rL (b:=pb) (o:=po+off) (v:=.pointer (some ⟨w1.heap.size,0,none⟩)) zE hTP (hc3 0 _ rfl) ?_
  refine rA (dn (vX (rM ?_)))
  refine q8 (args:=#[.pointer (some ⟨w1.heap.size,0,none⟩)]) ?_ (c_dflt (b:=w1.heap.size) (o:=0) (off:=0) (cs:=fs.zc) htxt hnt hokD (Flds.zc_len fs) hq3 (fun i hi=>hqf i hi)) ?_
  ·simp only[lM]
   exact zE
  rintro v4 w4 ⟨hE4,hc4⟩
  rw[Flds.over_zc] at hc4
  refine dn (vX (rM (rA (dn ?_))))
  generalize ha5:Act.put _ (some (n+2)) _=a5
  have hf5:Fr (KR L n t) a3 a5:=by
   subst ha5
   exact (((((((((Fr.refl _ a3).put _ (hkt _ zH)).put _ (hkt _ zH)).put _ (hkt _ zH)).put _ (hkt _ zH)).put _ (hs.kn (n+1) zH zH)).put _ (hkt _ zH)).put _ (hkt _ zH)).put _ (hkt _ zH)).put _ (hs.kn (n+2) zH zH)
  have hp5:a5.eval (.tmp (n+2))=.pointer (some ⟨w1.heap.size,0,none⟩):=by subst ha5;exact zE
  have hz5:=hf5.size
  clear ha5
  have hE4q:∀ k,k<w1.heap.size->∀ i,¬ (k=w1.heap.size/\0+0<=i/\i<0+0+fs.size):=by rintro k hk i ⟨h,_⟩;omega
  have hst5:RSta E x ver fx rb sb ev a5 w4 (Scal.i8.rd st).2:=hst3.keep hs hf5 hE4 (fun i=>hE4q _ hrb1 i) (fun i=>hE4q _ hsb1 i) (fun i=>hE4q _ hev1 i)
  have hc4':qb w4 pb (po+off) [.pointer (some ⟨w1.heap.size,0,none⟩)]:=hc3.eff hE4 (fun i _=>hE4q _ hpb1 _)
  have hw34:=hE4.size
  have hE13:Eff (FM rb pb (po+off) 1) w w4:=(hEm1.trans' hEa (by rintro k i _ ⟨g1,g2⟩;exact .inr ⟨g1,by omega,by omega⟩)).trans' hE4 (by rintro k i hk ⟨g1,_⟩;omega)
  have hfr5:Fr (KR L n t) a a5:=(hf2.trans hf3).trans hf5
  refine hF x ver fx L TP' TU' (n+2) 0 0 (n+3) (t+17) b rb sb w1.heap.size 0 (w1.heap.size+1) ev a5 w4 (Scal.i8.rd st).2 _ hokF htxF (hs.up zH zH zH) zH (by rw[hz5,hz3,hz2];omega) hst5 hp5 zH hc4 (fun i hi=>(hqf i hi).eff hE4) zH zH zH zH zH zH ?_ ?_
  ·intro a6 w6 cs ds tags g1 g2 g3 g4 g5 g6 g7
   have hM6:∀ k,k<w1.heap.size->k≠rb->∀ i,¬ FM rb w1.heap.size (0+0) fs.size k i:=by
    rintro k hk hne i (⟨h,_⟩ | ⟨h,_⟩)
    ·exact hne h
    ·omega
   have hE6:Eff (FM rb pb (po+off) 1) w w6:=hE13.trans' g6 (by
    rintro k i hk (h | ⟨h,_⟩)
    ·exact .inl h
    ·omega)
   refine vN (vN (kn a6 w6 [.pointer (some ⟨w1.heap.size,0,none⟩)] (.list (some [.obj ds tags])) (hfr5.trans (g1.mono (KR.mono zH zH))) g2 rfl (hc4'.eff g6 (fun i _=>hM6 pb hpb1 h1 _)) ?_ hE6 ?_))
   ·simp only[Ty.Rep]
    exact ⟨w1.heap.size,cs,rfl,by omega,Nat.lt_of_lt_of_le (Nat.lt_of_lt_of_le hqlt hw34) g6.size,g3,g4,g5⟩
   ·intro h
    obtain ⟨rfl,rfl⟩:=g7 h
    rfl
  ·intro a6 w6 g1 g2 g3 g4 g5
   exact kr a6 w6 (by rw[g1,hfr5.defers]) (by rw[g2,hfr5.size]) g3 (hE13.trans' g4 (by
    rintro k i hk (h | ⟨h,_⟩)
    ·exact .inl h
    ·omega)) g5
theorem Flds.rn_no {v:Ver} (h:v.isTag=false) (kz:List Nat) (ty:Ty) (r:Flds):Flds.rn kz (.cons v ty r)=1+(match ty.tp with | some _=>1 | none=>0)+ty.rn+Flds.rn kz r:=by
 cases v<;>first | (cases h;done) | (cases ty<;>simp only[Flds.rn,Ty.tp])
theorem Flds.rt_no {v:Ver} (h:v.isTag=false) (x:Cx) (kz:List Nat) (ty:Ty) (r:Flds):Flds.rt x kz (.cons v ty r)=v.nt+ty.h+ty.rt x+Flds.rt x kz r:=by
 cases v<;>first | (cases h;done) | (simp only[Flds.rt])
theorem Flds.rc_no {v:Ver} (h:v.isTag=false) (E:Env) (x:Cx) (TP TU:TypeId) (s idx:Nat) (kt:List KRd) (n t b:Nat) (ty:Ty) (r:Flds):Flds.rc E x TP TU s idx kt n t b (.cons v ty r) =
  ifVer E x v t (match ty.tp with
   | some TP'=>sq (rg [qd (t+v.nt) (.tmp s) TP,jk (t+v.nt+1) (.tmp (t+v.nt)),xB (t+v.nt+2) TU (.tmp (t+v.nt+1)) idx,qc n (.tmp (t+v.nt+2)) TP']::Ty.rc E x 0 0 0 0 n (t+v.nt+3) b ty)
   | none=>sq (Ty.rc E x TP TU s idx n (t+v.nt) b ty++if ty.np then [] else [rStore TP TU (ty.T E) ty.arr (n+ty.rslot) s idx (t+v.nt+ty.rt x)])) ::
  Flds.rc E x TP TU s (idx+1) kt (n+1+(match ty.tp with | some _=>1 | none=>0)+ty.rn) (t+v.nt+ty.h+ty.rt x) (b+ty.wb) r:=by
 cases v<;>first | (cases h;done) | (cases ty<;>simp only[Flds.rc,Ty.tp])
theorem KY.get_drop (fx:Bool) (ver:Nat) (y:KY) {k lb:Nat} (h:y.k≠k) (tags:List (Nat × List UInt8)):y.get fx ver ((Ver.tag k lb).dropT tags)=y.get fx ver tags:=by
 have:∀ l:List (Nat × List UInt8),(l.filter fun x=>x.1 != k).find? (fun x=>x.1==y.k)=l.find? (fun x=>x.1==y.k):=by
  intro l
  induction l with
  | nil=>rfl
  | cons z l ih =>
   by_cases hz:z.1=k
   ·rw[List.filter_cons_of_neg (by simpa using hz),List.find?_cons_of_neg (by simp;omega)]
    exact ih
   ·rw[List.filter_cons_of_pos (by simpa using hz)]
    by_cases hy:z.1=y.k
    ·rw[List.find?_cons_of_pos (by simpa using hy),List.find?_cons_of_pos (by simpa using hy)]
    ·rw[List.find?_cons_of_neg (by simpa using hy),List.find?_cons_of_neg (by simpa using hy)]
     exact ih
 unfold KY.get Ver.getT Ver.dropT
 simp only[this]
theorem dropT_filter (k lb:Nat) (tags:List (Nat × List UInt8)):((Ver.tag k lb).dropT tags).filter (fun x=>decide (k<=x.1))=tags.filter (fun x=>decide (k+1<=x.1)):=by
 unfold Ver.dropT
 rw[List.filter_filter]
 refine List.filter_congr (fun x _=>?_)
 by_cases h:x.1=k
 ·simp[h]
 ·have:(k<=x.1 ↔ k+1<=x.1):=by omega
  simp[h,this]
theorem fv_cons (H:EnvR P E T) (HK:E.rTags≠0->EnvRK P E T) (hT:T []) {v:Ver} {ty:Ty} {r:Flds} (hlf:ty.tp=none->ty.np=false->ty.RVal P E T) (hfn:∀ TP TU FD fs PP,ty=.nstruct TP TU FD fs PP->fs.RVal P E T) (hfs:∀ TP TU FD fs,ty=.struct TP TU FD fs->fs.RVal P E T) (hr:r.RValK P E T):(Flds.cons v ty r).RValK P E T:=by
 intro x ver fx L TP TU s idx off n t b rb sb pb po B ev a w st Q kts ck hok htx hs hn ht hst hKt hp hsn hc hf h1 h2 h3 hB hrB hBw kn kr
 have hnL:=hs.nL;have hLt:=hs.Lt;have h7:=hs.seven;have hrd:=hs.rd
 have hkt:=hs.kt
 simp only[Flds.okR,Bool.and_eq_true,beq_iff_eq] at hok
 obtain ⟨⟨⟨⟨hokv,hfo⟩,hokt⟩,hokz⟩,hokr⟩:=hok
 simp only[Flds.txR] at htx
 obtain ⟨htxt,htxr⟩:=htx
 simp only[Flds.size] at hf kn kr
 simp only[Flds.dz] at hc
 have hcd:qb w pb (po+off) ty.dz:=by
  have:=hc.tk (n:=ty.size)
  rwa [← Ty.dz_len ty,List.take_left] at this
 have hcr:qb w pb (po+(off+ty.size)) r.dz:=by
  have:=hc.dp (n:=ty.size)
  rwa [← Ty.dz_len ty,List.drop_left,Ty.dz_len ty,Nat.add_assoc] at this
 cases htag:v.isTag with
 | true =>
  cases v with
  | tag k lb =>
   cases ty with
   | scal sc df =>
    simp only[Ver.okT,Ty.isScal,Bool.and_eq_true,beq_iff_eq,decide_eq_true_eq,bne_iff_ne,ne_eq] at hokv
    obtain ⟨⟨⟨rfl,hk⟩,_⟩,hrt⟩:=hokv
    have HK:=HK hrt
    simp only[Ty.okR,Bool.and_eq_true,bne_iff_ne,ne_eq] at hokt
    have hy:KY.OK P E T x ver fx L s ⟨kts.length,off,.scal sc df,kScal E x TP TU s idx kts.length sc⟩:=kScal_ok H HK hk hokt.1 hokt.2 hfo (sc.okB_ok hokz)
    generalize hym:(⟨kts.length,off,.scal sc df,kScal E x TP TU s idx kts.length sc⟩:KY)=y at *
    have yk:y.k=kts.length:=by rw[← hym]
    have yo:y.off=off:=by rw[← hym]
    have yt:y.ty=.scal sc df:=by rw[← hym]
    have hlen:(kts++[y]).length=kts.length+1:=by simp
    have hcode:Flds.rc E x TP TU s idx (kts.map (·.krd)) n t b (.cons (.tag kts.length lb) (.scal sc df) r)=Flds.rc E x TP TU s (idx+1) ((kts++[y]).map (·.krd)) n t b r:=by
     rw[List.map_append,← hym]
     simp only[Flds.rc,List.map_cons,List.map_nil]
     rfl
    have hkn:(kts++[y]).map (·.krd.casN)=kts.map (·.krd.casN)++[3]:=by
     rw[List.map_append,← hym]
     rfl
    have hkt2:((kts++[y]).map fun y=>2+y.krd.casT)=(kts.map fun y=>2+y.krd.casT)++[15]:=by
     rw[List.map_append,← hym]
     rfl
    have hrd:(Flds.cons (.tag kts.length lb) (.scal sc df) r).rd fx ver ck st=(y.get fx ver (r.rd fx ver ((Ver.tag kts.length lb).ckT (y.chk fx ver) ck) st).2.1::(r.rd fx ver ((Ver.tag kts.length lb).ckT (y.chk fx ver) ck) st).1,
      (Ver.tag kts.length lb).dropT (r.rd fx ver ((Ver.tag kts.length lb).ckT (y.chk fx ver) ck) st).2.1,(r.rd fx ver ((Ver.tag kts.length lb).ckT (y.chk fx ver) ck) st).2.2):=by
     rw[← hym]
     simp only[Flds.rd,Ver.has,Bool.false_eq_true,if_false]
     rfl
    rw[hrd] at kn kr
    rw[hcode]
    have hFK:∀ k i,k<w.heap.size->FK rb pb po (off+1) r.size (kts++[y]) k i->FK rb pb po off (1+r.size) kts k i:=by
     rintro k i _ (h | ⟨e,⟨m1,m2⟩ | ⟨z,hz,m1,m2⟩⟩)
     ·exact .inl h
     ·exact .inr ⟨e,.inl ⟨by omega,by omega⟩⟩
     ·rcases List.mem_append.1 hz with hz | hz
      ·exact .inr ⟨e,.inr ⟨z,hz,m1,m2⟩⟩
      ·have:z=y:=by simpa using hz
       subst this
       rw[yo] at m1 m2
       rw[yt] at m2
       simp only[Ty.size] at m2
       exact .inr ⟨e,.inl ⟨by omega,by omega⟩⟩
    simp only[Ver.nextT,Ty.size] at hokr hf hcr hcd kn kr
    refine hr x ver fx L TP TU s (idx+1) (off+1) n t b rb sb pb po B ev a w st Q (kts++[y]) ((Ver.tag kts.length lb).ckT (y.chk fx ver) ck) (by rw[hlen];exact hokr) htxr hs (by rw[hkn];exact hn) (by rw[hkt2];exact ht) hst ?_ hp hsn hcr
     (fun i hi=>by have:=hf (1+i) zH;rwa [show po+off+(1+i)=po+(off+1)+i by omega] at this) h1 h2 h3 hB hrB hBw ?_ ?_
    ·have hmem:∀ z ∈ kts++[y],z ∈ kts\/z=y:=fun z hz=>by simpa using hz
     refine ⟨?_,?_,?_,?_,?_,?_,?_,?_⟩
     ·intro z hz
      rcases hmem z hz with hz | rfl
      ·exact hKt.ok z hz
      ·exact hy
     ·rw[List.map_append,hKt.ks,hlen,List.range_succ,List.map_cons,List.map_nil,yk]
     ·intro z hz p
      rcases hmem z hz with hz | rfl
      ·have:=hKt.lt hz
       simp only[Ver.ckT,if_neg (show ¬ z.k=kts.length by omega)]
       exact hKt.ck1 z hz p
      ·simp only[Ver.ckT,yk,if_true]
     ·intro j hj p
      rw[hlen] at hj
      simp only[Ver.ckT,if_neg (show ¬ j=kts.length by omega)]
      exact hKt.ck0 j zH p
     ·intro z hz
      rcases hmem z hz with hz | rfl
      ·have:=hKt.pos z hz
       omega
      ·rw[yo,yt]
       simp only[Ty.size]
       omega
     ·refine List.pairwise_append.2 ⟨hKt.sep,by simp,fun z hz u hu=>?_⟩
      have:u=y:=by simpa using hu
      subst this
      rw[yo]
      exact hKt.pos z hz
     ·intro z hz
      rcases hmem z hz with hz | rfl
      ·exact hKt.dz z hz
      ·rw[yo,yt];exact hcd
     ·intro z hz i hi
      rcases hmem z hz with hz | rfl
      ·exact hKt.free z hz i hi
      ·rw[yo]
       rw[yt] at hi
       simp only[Ty.size] at hi
       exact hf i zH
    ·intro a' w' cs ds tg g1 g2 g3 g4 g5 g6 g7 g8 g9
     obtain ⟨c,d,k1,k2,k3,k4⟩:=g7 y zS
     rw[yt] at k1 k3
     rw[yo] at k2
     simp only[Ty.size] at k1
     refine kn a' w' (c++cs) (d::ds) tg g1 g2 (by rw[List.length_append,k1,g3]) ?_ ?_ (fun z hz=>by have:=g6 z hz;rw[hlen] at this;omega) ?_ ?_ ?_
     ·refine k2.append ?_
      rw[k1,show po+off+1=po+(off+1) by omega]
      exact g4
     ·simp only[Flds.Rep,Ty.size]
      have e1:(c++cs).take 1=c:=by rw[← k1,List.take_left]
      have e2:(c++cs).drop 1=cs:=by rw[← k1,List.drop_left]
      rw[e1,e2]
      exact ⟨k3,g5,fun z hz=>by have:=g6 z hz;rw[hlen] at this;omega⟩
     ·intro z hz
      obtain ⟨c',d',m1,m2,m3,m4⟩:=g7 z (by simp[hz])
      refine ⟨c',d',m1,m2,m3,fun h=>?_⟩
      have:=hKt.lt hz
      rw[KY.get_drop _ _ _ zH]
      exact m4 h
     ·exact g8.mono hFK
     ·intro h
      obtain ⟨rfl,rfl⟩:=g9 h
      refine ⟨by rw[k4 h],?_⟩
      rw[hlen]
      exact (dropT_filter _ _ _).symm
    ·intro a' w' g1 g2 g3 g4 g5
     exact kr a' w' g1 g2 g3 (g4.mono hFK) g5
   | _=>simp[Ver.okT,Ty.isScal] at hokv
  | _=>cases htag
 | false =>
 rw[Flds.rn_no htag] at hn
 rw[Flds.rt_no htag] at ht
 rw[Ver.nextT_no htag] at hokr
 have hn1:n+1+(match ty.tp with | some _=>1 | none=>0)+ty.rn+Flds.rn (kts.map (·.krd.casN)) r<=L:=by
  cases htp:ty.tp<;>simp only[htp] at hn ⊢<;>omega
 rw[Flds.rc_no htag]
 -- what comes behind
 have next:∀ (a1:Act) (w1:World) (c:List Value) (d d1:D) (st1:RSt),Fr (KR L n t) a a1->RSta E x ver fx rb sb ev a1 w1 st1->c.length=ty.size->qb w1 pb (po+off) c->ty.Rep w1 ⟨sb,T⟩ B c d->Eff (FM rb pb (po+off) ty.size) w w1->(st1.2=false->d=d1) →
   ((Flds.cons v ty r).rd fx ver ck st=(d1::(r.rd fx ver ck st1).1,(r.rd fx ver ck st1).2)) →
   vc P (sq (Flds.rc E x TP TU s (idx+1) (kts.map (·.krd)) (n+1+(match ty.tp with | some _=>1 | none=>0)+ty.rn) (t+v.nt+ty.h+ty.rt x) (b+ty.wb) r)) Q a1 w1:=by
  intro a1 w1 c d d1 st1 hfr hst1 hcl hcc hrep hE hd hrd
  have hsz:=hfr.size
  have hw1:=hE.size
  have hMs:∀ i,¬ FK rb pb po (off+ty.size) r.size kts sb i:=by
   rintro i (⟨h,_⟩ | ⟨h,_⟩)
   ·exact hst.rd.ne h.symm
   ·exact h2 h.symm
  have hMB:∀ k i,B<=k->¬ FK rb pb po (off+ty.size) r.size kts k i:=by
   rintro k i hk (⟨h,_⟩ | ⟨h,_⟩)<;>omega
  have hEE:∀ w2,Eff (FK rb pb po (off+ty.size) r.size kts) w1 w2->Eff (FK rb pb po off (ty.size+r.size) kts) w w2:=by
   intro w2 h
   refine (hE.mono ?_).trans (h.mono ?_)
   ·rintro k i _ (h | ⟨g1,g2,g3⟩)
    ·exact .inl h
    ·exact .inr ⟨g1,.inl ⟨by omega,by omega⟩⟩
   ·rintro k i _ (h | ⟨g1,⟨g2,g3⟩ | g2⟩)
    ·exact .inl h
    ·exact .inr ⟨g1,.inl ⟨by omega,by omega⟩⟩
    ·exact .inr ⟨g1,.inr g2⟩
  have hK1:KtOK P E T x ver fx L s kts ck (off+ty.size) pb po w1:=by
   have hK0:KtOK P E T x ver fx L s kts ck off pb po w1:=hKt.eff hE h1
   exact ⟨hK0.ok,hK0.ks,hK0.ck1,hK0.ck0,fun y hy=>by have:=hK0.pos y hy;omega,hK0.sep,hK0.dz,hK0.free⟩
  refine hr x ver fx L TP TU s (idx+1) (off+ty.size) _ _ _ rb sb pb po B ev a1 w1 st1 Q kts ck hokr htxr (hs.up zH zH zH) hn1 (by rw[hsz];omega) hst1 hK1 (by rw[hfr.slot _ (.inl hsn)];exact hp) zH
   (hcr.eff hE ?_) (fun i hi=>?_) h1 h2 h3 hB hrB zH ?_ ?_
  ·rintro i hi (⟨h,_⟩ | ⟨_,_,h⟩)
   ·exact h1 h
   ·omega
  ·have:=(hf (ty.size+i) zH).eff hE
   rwa [show po+off+(ty.size+i)=po+(off+ty.size)+i by omega] at this
  ·intro a2 w2 cs ds tg g1 g2 g3 g4 g5 g6 g7 g8 g9
   have hne:w1.heap.size<=w2.heap.size:=g8.size
   -- the cells of this field are left alone
   have hkeep:qb w2 pb (po+off) c:=by
    refine hcc.eff g8 ?_
    rintro i hi (⟨h,_⟩ | ⟨_,⟨h,_⟩ | ⟨y,hy,m1,m2⟩⟩)
    ·exact h1 h
    ·omega
    ·have:=hKt.pos y hy
     omega
   refine kn a2 w2 (c++cs) (d::ds) tg (hfr.trans (g1.mono (KR.mono zH zH))) (by rw[hrd];exact g2) (by rw[List.length_append,hcl,g3]) ?_ ?_ g6 (by rw[hrd];exact g7) (hEE w2 g8) ?_
   ·refine hkeep.append ?_
    rw[hcl,show po+off+ty.size=po+(off+ty.size) by omega]
    exact g4
   ·simp only[Flds.Rep]
    rw[← hcl,List.take_left,List.drop_left]
    exact ⟨Ty.Rep.eff g8 hMs ty B B c d (fun k i hk _=>hMB k i hk) (Nat.le_refl _) hrep,g5,Ver.tagOk_no htag _⟩
   ·intro h
    rw[hrd] at h ⊢
    obtain ⟨rfl,rfl⟩:=g9 h
    rw[hd (Flds.rd_mono fx ver r _ h)]
    exact ⟨rfl,rfl⟩
  ·intro a2 w2 g1 g2 g3 g4 g5
   exact kr a2 w2 (by rw[g1,hfr.defers]) (by rw[g2,hsz]) g3 (hEE w2 g4) (by rw[hrd];exact g5)
 refine vS (m_ver (K:=KR L n t) htag hst.ver (by have:=hs.vs;omega) hkt zH ?_ ?_)
 ·intro hv a1 hf1 he1
  have hrd:(Flds.cons v ty r).rd fx ver ck st=((ty.rd fx ver st).1::(r.rd fx ver ck (ty.rd fx ver st).2).1,(r.rd fx ver ck (ty.rd fx ver st).2).2):=by simp only[Flds.rd,hv,if_true]
  have hbad:(ty.rd fx ver st).2.2=true->((Flds.cons v ty r).rd fx ver ck st).2.2.2=true:=by
   intro h
   rw[hrd]
   cases hh:(r.rd fx ver ck (ty.rd fx ver st).2).2.2.2 with
   | true=>rfl
   | false=>rw[Flds.rd_mono fx ver r _ hh] at h;cases h
  have hst1:=hst.fr hs hf1
  have hsz1:=hf1.size
  have hp1:a1.eval (.tmp s)=.pointer (some ⟨pb,po,none⟩):=by rw[hf1.slot _ (.inl hsn)];exact hp
  cases htp:ty.tp with
  | some TP' =>
   cases ty with
   | struct TP2 TU2 FD fs =>
    simp only[Ty.tp,Option.some.injEq] at htp
    subst htp
    simp only[Ty.tp,Ty.h,Ty.rn,Ty.rt,Ty.size,Ty.dz] at hn1 ht hf hcd next kn kr ⊢
    refine vX (rM ?_)
    refine qY (ad:=⟨pb,po,none⟩) zA ?_
    refine rF (b:=pb) (o:=po) zE hfo ?_
    refine rA (dn ?_)
    generalize ha2:Act.put (Act.put (Act.put (Act.put a1 _ _) _ _) _ _) _ _=a2
    have hf2:Fr (KR L n t) a1 a2:=by
     subst ha2
     exact ((((Fr.refl _ a1).put _ (hkt _ zH)).put _ (hkt _ zH)).put _ (hkt _ zH)).put _ (hs.kn n (Nat.le_refl _) zH)
    have hp2:a2.eval (.tmp n)=.pointer (some ⟨pb,po+off,none⟩):=by subst ha2;exact zE
    have hsz2:=hf2.size
    refine m_struct (hfs _ _ _ _ rfl) (ver:=ver) (B:=B) hokt htxt (hs.up (n':=n) (t':=t+v.nt+3) (Nat.le_refl _) zH zH) zH (by rw[hsz2,hsz1];omega) (hst1.fr hs hf2) hp2 (Flds.dz_len fs) (Flds.over_dz fs) hcd (fun i hi=>hf i zH) h1 h2 h3 hB hrB hBw ?_ ?_
    ·intro a3 w3 cs ds tags g1 g2 g3 g4 g5 g6 g7
     exact next a3 w3 cs (.obj ds tags) _ _ ((hf1.trans hf2).trans (g1.mono (KR.mono (Nat.le_refl _) zH))) g2 g3 g4 g5 g6 (fun h=>by obtain ⟨rfl,rfl⟩:=g7 h;rfl) hrd
    ·intro a3 w3 g1 g2 g3 g4 g5
     refine kr a3 w3 (by rw[g1,hf2.defers,hf1.defers]) (by rw[g2,hsz2,hsz1]) g3 (g4.mono ?_) (hbad g5)
     rintro k i _ (h | ⟨m1,m2,m3⟩)
     ·exact .inl h
     ·exact .inr ⟨m1,.inl ⟨m2,by omega⟩⟩
   | _=>cases htp
  | none =>
   simp only[htp] at hn1 next ⊢
   have hh4:ty.h=4:=by simp only[Ty.h,htp]
   cases hnp:ty.np with
   | true =>
    cases ty with
    | nstruct TP2 TU2 FD fs PP2 =>
     simp only[if_true,List.append_nil]
     simp only[Ty.rn,Ty.rt,Ty.size,Ty.dz] at hn1 ht hf hcd hh4 next kn kr
     rw[hh4] at ht
     refine m_nstruct H (hfn _ _ _ _ _ rfl) (B:=B) hokt htxt (hs.up (n':=n) (t':=t+v.nt) (Nat.le_refl _) zH zH) zH (by rw[hsz1];omega) hst1 hp1 hsn hfo hcd (by simpa using hf 0 zH) h1 h2 h3 hB hrB hBw ?_ ?_
     ·intro a3 w3 c d g1 g2 g3 g4 g5 g6 g7
      exact next a3 w3 c d _ _ (hf1.trans (g1.mono (KR.mono (Nat.le_refl _) zH))) g2 g3 g4 g5 g6 g7 hrd
     ·intro a3 w3 g1 g2 g3 g4 g5
      refine kr a3 w3 (by rw[g1,hf1.defers]) (by rw[g2,hsz1]) g3 (g4.mono ?_) (hbad g5)
      rintro k i _ (h | ⟨m1,m2,m3⟩)
      ·exact .inl h
      ·exact .inr ⟨m1,.inl ⟨m2,by omega⟩⟩
    | _=>cases hnp
   | false =>
   simp only[Bool.false_eq_true,if_false]
   have hrn:ty.rslot<=ty.rn:=by cases ty<;>simp[Ty.rslot,Ty.rn]
   refine j1 ?_
   refine hlf htp hnp x ver fx L TP TU s idx n (t+v.nt) b rb sb ev a1 w st _ hokt htxt (hs.up (Nat.le_refl _) zH zH) zH zH hst1 ?_ ?_ ?_
   ·intro hli
    refine ⟨pb,po,off,hp1,hsn,hfo,?_⟩
    cases ty<;>simp only[Ty.isList] at hli<;>try cases hli
    exact hcd 0 (.slice none 0 0) (by simp[Ty.dz])
   ·intro a2 w2 cs d hf2' hst2 hval hrep hE hd
    obtain ⟨hcl,hc1⟩:=Ty.Rep.leaf ty htp hrep
    have hS:=Ty.okR_okS ty hokt htp
    have hf2:Fr (KR L n t) a1 a2:=hf2'.mono (KR.mono (Nat.le_refl _) zH)
    have hsz2:=hf2.size
    have hp2:a2.eval (.tmp s)=.pointer (some ⟨pb,po,none⟩):=by rw[hf2.slot _ (.inl hsn)];exact hp1
    refine vS (vR (by cases ty.arr<;>simp) ?_)
    refine rM ?_
    refine r_leafLoad (cs:=cs) hS hcl ?_ ?_
    ·unfold Ty.Val at hval ⊢
     cases ha:ty.arr with
     | true =>
      simp only[ha,if_true] at hval ⊢
      obtain ⟨q1,g1,g2⟩:=hval
      exact ⟨q1,zA,g2⟩
     | false =>
      simp only[ha,Bool.false_eq_true,if_false] at hval ⊢
      rw[hval]
      exact zE
    refine qY (ad:=⟨pb,po,none⟩) zA ?_
    refine rF (b:=pb) (o:=po) zE hfo ?_
    have hfree:∀ j,j<ty.size->qt w2 pb (po+off+j):=fun j hj=>(hf j zH).eff hE
    refine r_leafStore (b:=pb) (o:=po+off) (cs:=cs) hS hcl hc1 zE zE hfree ?_
    refine dn (vN ?_)
    have hE2:=qe pb cs w2 (po+off)
    rw[hcl] at hE2
    have hE2':Eff (FM rb pb (po+off) ty.size) w2 (setCells w2 pb (po+off) cs):=hE2.mono (fun k i _ h=>.inr h)
    have hE1':Eff (FM rb pb (po+off) ty.size) w w2:=hE.mono (fun k i _ h=>.inl h)
    generalize ha3:Act.put (Act.put (Act.put (Act.put a2 _ _) _ _) _ _) _ _=a3
    have hf3:Fr (KR L n t) a2 a3:=by
     subst ha3
     exact ((((Fr.refl _ a2).put _ (hkt _ zH)).put _ (hkt _ zH)).put _ (hkt _ zH)).put _ (hkt _ zH)
    refine next a3 _ cs d _ _ ((hf1.trans hf2).trans hf3) (hst2.keep hs hf3 hE2 (by rintro j ⟨h,_⟩;exact h1 h.symm) (by rintro j ⟨h,_⟩;exact h2 h.symm) (by rintro j ⟨h,_⟩;exact h3 h.symm)) hcl ?_ ?_ (hE1'.trans hE2') hd hrd
    ·intro j u hu
     exact qg _ _ _ _ (fun j hj=>(hfree j zH).1) j u hu
    ·have hws:=hE.size
     refine Ty.Rep.eff hE2 ?_ ty w.heap.size B cs d ?_ hBw hrep
     ·rintro j ⟨h,_⟩;exact h2 h.symm
     ·rintro k j hk _ ⟨h,_⟩;omega
   ·intro a2 w2 g1 g2 g3 g4 g5
    exact kr a2 w2 (by rw[g1,hf1.defers]) (by rw[g2,hsz1]) g3 (g4.mono (fun k i _ h=>.inl h)) (hbad g5)
 ·intro hv a1 hf1 he1
  refine next a1 w ty.dz ty.dflt ty.dflt st hf1 (hst.fr hs hf1) (Ty.dz_len ty) hcd (Ty.dz_rep hT ty B hokz) (Eff.refl _ _) (fun _=>rfl) ?_
  simp only[Flds.rd,hv,Bool.false_eq_true,if_false,Ver.getT_no htag,Ver.dropT_no htag,Ver.ckT_no htag]
mutual
theorem Ty.rval (H:EnvR P E T) (HK:E.rTags≠0->EnvRK P E T) (hT:T []):∀ ty:Ty,ty.tp=none->ty.np=false->ty.RVal P E T
 | .scal k df,_,_=>rv_scal H k df
 | .named k N df,_,_=>rv_named H k N df
 | .uuid,_,_=>rv_uuid H
 | .text,_,_=>rv_text H
 | .ntext,_,_=>rv_ntext H
 | .ntextFrom N,_,_=>rv_ntextFrom H N
 | .bytes,_,_=>rv_bytes H
 | .nbytes,_,_=>rv_nbytes H
 | .list TS null e,_,_=>rv_list H (fun h h'=>Ty.rval H HK hT e h h') (fun TP TU FD fs h=>Ty.rvals H HK hT e TP TU FD fs h)
 | .struct _ _ _ _,h,_=>by cases h
 | .nstruct _ _ _ _ _,_,h=>by cases h
theorem Ty.rvaln (H:EnvR P E T) (HK:E.rTags≠0->EnvRK P E T) (hT:T []):∀ (ty:Ty) (TP TU:TypeId) (FD:FuncId) (fs:Flds) (PP:TypeId),ty=.nstruct TP TU FD fs PP->fs.RVal P E T
 | .nstruct TP TU FD fs PP,TP',TU',FD',fs',PP',h=>by
  cases h
  exact (Flds.rvalK H HK hT fs).plain
 | .struct _ _ _ _,_,_,_,_,_,h | .scal _ _,_,_,_,_,_,h | .named _ _ _,_,_,_,_,_,h | .uuid,_,_,_,_,_,h | .text,_,_,_,_,_,h | .ntext,_,_,_,_,_,h | .ntextFrom _,_,_,_,_,_,h | .bytes,_,_,_,_,_,h | .nbytes,_,_,_,_,_,h | .list _ _ _,_,_,_,_,_,h=>by cases h
theorem Ty.rvals (H:EnvR P E T) (HK:E.rTags≠0->EnvRK P E T) (hT:T []):∀ (ty:Ty) (TP TU:TypeId) (FD:FuncId) (fs:Flds),ty=.struct TP TU FD fs->fs.RVal P E T
 | .struct TP TU FD fs,TP',TU',FD',fs',h=>by
  cases h
  exact (Flds.rvalK H HK hT fs).plain
 | .scal _ _,_,_,_,_,h | .named _ _ _,_,_,_,_,h | .uuid,_,_,_,_,h | .text,_,_,_,_,h | .ntext,_,_,_,_,h | .ntextFrom _,_,_,_,_,h | .bytes,_,_,_,_,h | .nbytes,_,_,_,_,h | .list _ _ _,_,_,_,_,h | .nstruct _ _ _ _ _,_,_,_,_,h=>by cases h
theorem Flds.rvalK (H:EnvR P E T) (HK:E.rTags≠0->EnvRK P E T) (hT:T []):∀ fs:Flds,fs.RValK P E T
 | .nil b=>fv_nil H HK hT b
 | .cons v ty r=>fv_cons H HK hT (fun h h'=>Ty.rval H HK hT ty h h') (fun TP TU FD fs PP h=>Ty.rvaln H HK hT ty TP TU FD fs PP h) (fun TP TU FD fs h=>Ty.rvals H HK hT ty TP TU FD fs h) (Flds.rvalK H HK hT r)
end
theorem Flds.rval (H:EnvR P E T) (HK:E.rTags≠0->EnvRK P E T) (hT:T []) (fs:Flds):fs.RVal P E T:=(Flds.rvalK H HK hT fs).plain
end
end Go.Km
namespace Go.Km
open Go Go.RowKit
attribute [local irreducible] vc rO_ qz qJ qF
structure EnvRX (P:Program) (E:Env):Prop where
 i16:qQ P E.tI16=true
 rd:vx P E.tRd=some ([(0,1),(1,1)],#[.slice none 0 0,.bool false])
 rdA:z7 P E.tRd=some 2
def Msg.rdv (m:Msg) (ver:Nat) (st:RSt):List D × List (Nat × List UInt8) × RSt:=m.fs.rd (m.isFlex ver) ver noK st
def RFC (m:Msg) (T:List (Nat × List UInt8)->Prop) (ev:Value) (ver mb rb sb B:Nat) (st:RSt) (w w':World) (v:Value):Prop :=
 v=(if (m.rdv ver st).2.2.2 then ev else .nilIface)/\Eff (FM rb mb 1 m.fs.size) w w' ∧
 ((m.rdv ver st).2.2.2=false->∃ cs,cs.length=m.fs.size/\qb w' mb 1 cs/\m.fs.Rep w' ⟨sb,T⟩ B cs (m.rdv ver st).1 (m.rdv ver st).2.1)
def Msg.rtail (E:Env) (m:Msg) (t1:Nat):List Code :=
 [yD m.TP m.TU E.tI16 8 0 0 t1,rg [qd (t1+4) (.tmp 8) E.tI16]] ++
  (match m.flex with
   | none=>[]
   | some f=>[rg [qd (t1+5) (.tmp 8) E.tI16,zL (t1+6) .geq E.tI16 (.tmp (t1+5)) (i16 f) E.tI16 E.tO,qc 9 (.tmp (t1+6)) E.tO],rg [qd (t1+7) (.tmp 9) E.tO]]) ++
  ([rg [qd (t1+5+(match m.flex with | none=>0 | some _=>3)) (.tmp 0) m.TP,qc m.rs (.tmp (t1+5+(match m.flex with | none=>0 | some _=>3))) m.TP]]++Flds.rc E m.rx m.TP m.TU m.rs 1 [] (m.rs+1) (t1+5+(match m.flex with | none=>0 | some _=>3)+1) 0 m.fs++[qU E m.rx E.rComplete E.tErr 6 (t1+5+(match m.flex with | none=>0 | some _=>3)+1+m.fs.rt m.rx),.ret])
theorem rcode_eq (E:Env) (m:Msg):m.rcode E=sq ([rg [qc 6 (.const .nilIface) E.tErr],
  rg [qd m.rlocals (.tmp 0) m.TP,xi (some (m.rlocals+1)) m.FD #[.tmp m.rlocals] #[m.TP] 0],
  rg [qd (m.rlocals+2) (.tmp 1) E.tB,we (m.rlocals+3) E.tRd #[(0,.tmp (m.rlocals+2))],yn 7 E.tRd,zf E.tRd (.tmp 7) (.tmp (m.rlocals+3))]] ++
  ((if m.kept then [rg [qd (m.rlocals+4) (.tmp 0) m.TP,xi (some (m.rlocals+5)) E.rI16 #[.tmp 7] #[E.tRd] E.tI16,jk (m.rlocals+6) (.tmp (m.rlocals+4)),xB (m.rlocals+7) m.TU (.tmp (m.rlocals+6)) 0,zf E.tI16 (.tmp (m.rlocals+7)) (.tmp (m.rlocals+5))]] else []) ++
  m.rtail E (m.rlocals+4+(if m.kept then 4 else 0)))):=by
 unfold Msg.rcode Msg.rtail
 simp only[List.append_assoc,List.cons_append,List.nil_append]
 rfl
section
variable {P : Program} {E : Env} {T : List (Nat × List UInt8) → Prop}
theorem rf_flds (H:EnvR P E T) (HK:E.rTags≠0->EnvRK P E T) (hT:T []) {m:Msg} {ver mb rb sb B t2:Nat} {ev:Value} {a:Act} {w:World} {st:RSt}
  (hok:m.fs.okR P E m.rx m.TU 1 1=true) (htx:m.fs.txR P E) (ht2:m.rlocals<=t2) (hsz:t2+1+m.fs.rt m.rx+1<=a.tmps.size) (hdf:a.defers=[])
  (h0:a.eval (.tmp 0)=.pointer (some ⟨mb,0,none⟩)) (h2:a.eval (.tmp 2)=.bool false) (h7:a.eval (.tmp 7)=.pointer (some ⟨rb,0,none⟩)) (h8:a.eval (.tmp 8)=.int .i16 (ver:Int)) (h9:∀ f,m.rx.fl=some f->a.eval (.tmp f)=.bool (m.isFlex ver))
  (hr:RdS w rb sb st) (he:w.cell? ⟨E.vErr,0,none⟩=some ev) (her:E.vErr≠rb) (hev:∃ u z,ev=.iface u z)
  (hc:qb w mb 1 m.fs.dz) (hf:∀ i,i<m.fs.size->qt w mb (1+i)) (hm1:mb≠rb) (hm2:mb≠sb) (hm3:mb≠E.vErr) (hmB:mb<B) (hrB:rb<B) (hB:B<=w.heap.size) :
  vc P (sq ([rg [qd t2 (.tmp 0) m.TP,qc m.rs (.tmp t2) m.TP]]++Flds.rc E m.rx m.TP m.TU m.rs 1 [] (m.rs+1) (t2+1) 0 m.fs++[qU E m.rx E.rComplete E.tErr 6 (t2+1+m.fs.rt m.rx),.ret])) (Out P #[.tmp 6] fun v w'=>RFC m T ev ver mb rb sb B st w w' v) a w:=by
 have hrs:m.rs=(match m.flex with | none=>9 | some _=>10):=rfl
 have hrl:m.rlocals=m.rs+1+m.fs.rn:=rfl
 have hrs9:9<=m.rs:=by rw[hrs];cases m.flex<;>simp
 have hfl9:∀ f,m.rx.fl=some f->f=9/\m.rs=10:=by
  intro f hf
  cases hfx:m.flex<;>simp[Msg.rx,Msg.rs,hfx] at hf ⊢
  omega
 have hno:m.rx.fl=none->m.isFlex ver=false:=by
  intro hf
  cases hfx:m.flex<;>simp[Msg.rx,Msg.isFlex,hfx] at hf ⊢
 have hs:RSl m.rx m.rlocals (m.rs+1) (t2+1) (m.isFlex ver) :=
  ⟨by omega,by show 7<m.rs+1;omega,by show 8<m.rs+1;omega,fun f hf=>by have:=hfl9 f hf;omega,hno,by omega,by omega⟩
 simp only[List.cons_append,List.nil_append]
 refine vX (rM (rA (dn ?_)))
 generalize ha1:Act.put (Act.put a _ _) _ _=a1
 have hf1:Fr (fun k=>k<m.rs) a a1:=by
  subst ha1
  exact ((Fr.refl _ a).put _ zH).put _ zH
 have hp1:a1.eval (.tmp m.rs)=.pointer (some ⟨mb,0,none⟩):=by subst ha1;exact zA
 have hs1:=hf1.size
 clear ha1
 have hst:RSta E m.rx ver (m.isFlex ver) rb sb ev a1 w st :=
  ⟨hr,by show a1.eval (.tmp 7)=_;rw[hf1.slot 7 zH];exact h7,by rw[hf1.slot 2 zH];exact h2,by show a1.eval (.tmp 8)=_;rw[hf1.slot 8 zH];exact h8,fun f hf=>by have:=hfl9 f hf;rw[hf1.slot f zH];exact h9 f hf,he,her,hev⟩
 refine j1 ?_
 refine Flds.rval H HK hT m.fs m.rx ver (m.isFlex ver) m.rlocals m.TP m.TU m.rs 1 1 (m.rs+1) (t2+1) 0 rb sb mb 0 B ev a1 w st _ hok htx hs zH zH hst hp1 zH (by simpa using hc) (fun i hi=>by simpa using hf i hi) hm1 hm2 hm3 hmB hrB hB ?_ ?_
 ·intro a2 w2 cs ds tags g1 g2 g3 g4 g5 g6 g7
  have hs2:=g1.size
  refine vX ?_
  refine q8 (args:=#[.pointer (some ⟨rb,0,none⟩)]) ?_ (H.complete rb sb _ w2 ev g2.rd g2.err) ?_
  ·simp only[lM]
   simp (disch:=(try simp only[sP]);omega) only[eV,g2.p7]
  rintro v w3 ⟨rfl,rfl⟩
  refine rA (dn (vS (vT ?_)))
  refine ⟨by simp only[dF];rw[g1.defers,hf1.defers];exact hdf,_,rO ?_,rfl,by simpa using g6,?_⟩
  ·simp (disch:=(try simp only[sP]);omega) only[eV]
   rfl
  ·intro h
   obtain ⟨rfl,rfl⟩:=g7 h
   exact ⟨cs,g3,by simpa using g4,g5⟩
 ·intro a2 w2 g1 g2 g3 g4 g5
  refine ⟨by rw[g1,hf1.defers];exact hdf,ev,rO g3,?_,by simpa using g4,?_⟩
  ·rw[if_pos (show (m.rdv ver st).2.2.2=true from g5)]
  ·intro h
   rw[show (m.rdv ver st).2.2.2=true from g5] at h
   cases h
theorem rf_tail (H:EnvR P E T) (HX:EnvRX P E) (HK:E.rTags≠0->EnvRK P E T) (hT:T []) {m:Msg} {ver mb rb sb B t1:Nat} {ev:Value} {a:Act} {w:World} {st:RSt}
  (hok:m.fs.okR P E m.rx m.TU 1 1=true) (htx:m.fs.txR P E) (h00:qk P m.TU 0=some 0) (ht1:m.rlocals<=t1) (hsz:t1+5+(match m.flex with | none=>0 | some _=>3)+1+m.fs.rt m.rx+1<=a.tmps.size) (hdf:a.defers=[])
  (h0:a.eval (.tmp 0)=.pointer (some ⟨mb,0,none⟩)) (h2:a.eval (.tmp 2)=.bool false) (h7:a.eval (.tmp 7)=.pointer (some ⟨rb,0,none⟩)) (hv:w.cell? ⟨mb,0,none⟩=some (.int .i16 (ver:Int)))
  (hr:RdS w rb sb st) (he:w.cell? ⟨E.vErr,0,none⟩=some ev) (her:E.vErr≠rb) (hev:∃ u z,ev=.iface u z)
  (hc:qb w mb 1 m.fs.dz) (hf:∀ i,i<m.fs.size->qt w mb (1+i)) (hm1:mb≠rb) (hm2:mb≠sb) (hm3:mb≠E.vErr) (hmB:mb<B) (hrB:rb<B) (hB:B<=w.heap.size) :
  vc P (sq (m.rtail E t1))
  (Out P #[.tmp 6] fun v w'=>RFC m T ev ver mb rb sb B st w w' v) a w:=by
 have hrl:m.rlocals=m.rs+1+m.fs.rn:=rfl
 have hrs9:9<=m.rs:=by show 9<=(match m.flex with | none=>9 | some _=>10);cases m.flex<;>simp
 simp only[Msg.rtail,List.append_assoc,List.cons_append,List.nil_append]
 refine vS (m_load (K:=fun k=>k<8) h0 h00 HX.i16 (by simpa using hv) zH (fun d hd=>by omega) zH zH ?_)
 intro a1 hf1 hv1
 have hs1:=hf1.size
 refine vX (rM (dn ?_))
 cases hfx:m.flex with
 | none =>
  simp only[hfx,List.nil_append,Nat.add_zero] at hsz ⊢
  have:=rf_flds H HK hT (m:=m) (ver:=ver) (mb:=mb) (rb:=rb) (sb:=sb) (B:=B) (t2:=t1+5) (ev:=ev) (a:=a1.put (some (t1+4)) (a1.eval (.tmp 8))) (w:=w) (st:=st) hok htx zH (by rw[zP,hs1];omega) (by rw[dF,hf1.defers];exact hdf)
   (by simp (disch:=(try simp only[sP]);omega) only[eV,hf1.slot 0 zH,h0]) (by simp (disch:=(try simp only[sP]);omega) only[eV,hf1.slot 2 zH,h2]) (by simp (disch:=(try simp only[sP]);omega) only[eV,hf1.slot 7 zH,h7]) zA (fun f hf=>by simp[Msg.rx,hfx] at hf) hr he her hev hc hf hm1 hm2 hm3 hmB hrB hB
  simp only[List.append_assoc,List.cons_append,List.nil_append] at this
  exact this
 | some f =>
  simp only[hfx,List.cons_append,List.nil_append] at hsz ⊢
  refine vX (rM ?_)
  refine kX (k:=.i16) (m:=(ver:Int)) (n:=(f:Int)) zA rfl ?_
  refine rA (dn (vX (rM (dn ?_))))
  generalize ha2:Act.put (Act.put (Act.put (Act.put (Act.put a1 _ _) _ _) _ _) _ _) _ _=a2
  have hf2:Fr (fun k=>k<9) a1 a2:=by
   subst ha2
   exact (((((Fr.refl _ a1).put _ zH).put _ zH).put _ zH).put _ zH).put _ zH
  have h92:a2.eval (.tmp 9)=.bool (decide ((ver:Int) ≥ (f:Int))):=by subst ha2;exact zE
  have hs2:=hf2.size
  clear ha2
  have:=rf_flds H HK hT (m:=m) (ver:=ver) (mb:=mb) (rb:=rb) (sb:=sb) (B:=B) (t2:=t1+5+3) (ev:=ev) (a:=a2) (w:=w) (st:=st) hok htx zH (by rw[hs2,hs1];omega) (by rw[hf2.defers,hf1.defers];exact hdf)
   (by rw[hf2.slot 0 zH,hf1.slot 0 zH];exact h0) (by rw[hf2.slot 2 zH,hf1.slot 2 zH];exact h2) (by rw[hf2.slot 7 zH,hf1.slot 7 zH];exact h7) (by rw[hf2.slot 8 zH];exact hv1)
   (fun g hg=>by
    simp only[Msg.rx,hfx,Option.map_some,Option.some.injEq] at hg
    subst hg
    rw[h92]
    simp only[Msg.isFlex,hfx]
    congr 1
    simp) hr he her hev hc hf hm1 hm2 hm3 hmB hrB hB
  simp only[List.append_assoc,List.cons_append,List.nil_append] at this
  exact this
def Msg.rtop (m:Msg):Nat:=m.rlocals+4+(if m.kept then 4 else 0)+5+(match m.flex with | none=>0 | some _=>3)+1+m.fs.rt m.rx+1
def Msg.rver (m:Msg) (ver:Nat) (l:List UInt8):Int:=if m.kept then sgn 2 (rdN 2 (l,false)).1 else ver
def Msg.rst (m:Msg) (l:List UInt8):RSt:=if m.kept then (rdN 2 (l,false)).2 else (l,false)
def RFD (m:Msg) (T:List (Nat × List UInt8)->Prop) (ev:Value) (ver mb sb:Nat) (l:List UInt8) (w w':World) (v:Value):Prop :=
 v=(if (m.rdv ver (m.rst l)).2.2.2 then ev else .nilIface)/\Eff (fun k _=>k=mb) w w' ∧
 ((m.rdv ver (m.rst l)).2.2.2=false->∃ cs,cs.length=m.fs.size/\qb w' mb 0 (.int .i16 (ver:Int)::cs)/\m.fs.Rep w' ⟨sb,T⟩ 0 cs (m.rdv ver (m.rst l)).1 (m.rdv ver (m.rst l)).2.1)
set_option maxHeartbeats 1000000 in
theorem c_readFrom (H:EnvR P E T) (HX:EnvRX P E) (HK:E.rTags≠0->EnvRK P E T) (hT:T []) {m:Msg} {RF:FuncId} {np nt npd ntd:Nat} (ht:Text P RF np nt #[.tmp 6] (m.rcode E)) (hn:m.rtop<=nt) (hd:Text P m.FD npd ntd #[] (dcode E m.TP m.TU 1 m.fs)) (hnd:2+m.fs.dn+m.fs.dt<=ntd) (hokd:m.fs.okD P E m.TU 1 1=true)
  (hok:m.fs.okR P E m.rx m.TU 1 1=true) (htx:m.fs.txR P E) (h00:qk P m.TU 0=some 0) (hk16:m.kept=true->E.rI16≠0)
  {ver ver0 mb sb:Nat} {ev sv:Value} {l:List UInt8} {w:World} (hver:m.rver ver0 l=(ver:Int))
  (hc:qb w mb 0 (.int .i16 (ver0:Int)::m.fs.dz)) (hf:∀ i,i<m.fs.size+1->qt w mb i) (hs:j0 w sb sv l) (hsb:sb<w.heap.size) (hl:l.length<=big) (he:w.cell? ⟨E.vErr,0,none⟩=some ev) (hev:∃ u z,ev=.iface u z) (hm2:mb≠sb) (hm3:mb≠E.vErr) :
  qa P RF #[.pointer (some ⟨mb,0,none⟩),sv,.bool false] w fun v w'=>RFD m T ev ver mb sb l w w' v:=by
 have hrl:m.rlocals=m.rs+1+m.fs.rn:=rfl
 have hrs9:9<=m.rs:=by show 9<=(match m.flex with | none=>9 | some _=>10);cases m.flex<;>simp
 have hnt:m.rlocals+4+(if m.kept then 4 else 0)+5+(match m.flex with | none=>0 | some _=>3)+1+m.fs.rt m.rx+1<=nt:=hn
 have hmb:mb<w.heap.size:=(hf 0 zH).lt
 refine qa.enter ht (by simp;omega) ?_
 intro a hsz hdf harg
 have e0:=harg 0 (.pointer (some ⟨mb,0,none⟩)) zS
 have e1:=harg 1 sv zS
 have e2:=harg 2 (.bool false) zS
 obtain ⟨zr,hzr,hzrc⟩:=xD HX.rd
 rw[rcode_eq]
 simp only[List.cons_append,List.nil_append]
 refine vX (rA (dn (vX (rM ?_))))
 have hcz:qb w mb (0+1) m.fs.dz:=hc.dp (n:=1)
 refine q8 (args:=#[.pointer (some ⟨mb,0,none⟩)]) ?_ (c_dflt (b:=mb) (o:=0) (off:=1) (cs:=m.fs.dz) hd hnd hokd (Flds.dz_len _) hcz (fun i hi=>by have:=hf (i+1) zH;rwa [show 0+1+i=i+1 by omega])) ?_
 ·simp only[lM]
  simp (disch:=(try simp only[sP]);omega) only[eV,e0]
 rintro v1 w1 ⟨hE1,hc1⟩
 rw[Flds.over_dz] at hc1
 refine dn ?_
 have hz1:=hE1.size
 refine vX (rM ?_)
 have hs1:j0 w1 sb sv l:=hs.heap (hE1.blockEq hsb (by rintro i ⟨h,_⟩;exact hm2 h.symm))
 have hsv1:=hs.one
 have hsvc:sv.cells=#[sv]:=by
  obtain ⟨ad,cap,rfl,_⟩:=hs.form
  rfl
 generalize hA:Act.put _ (some (m.rlocals+2)) _=A
 have hfA:Fr (fun k=>k=0\/k=1\/k=2) a A:=by
  subst hA
  exact ((((Fr.refl _ a).put _ zH).put _ zH).put _ zH).put _ zH
 have hAv:A.eval (.tmp (m.rlocals+2))=sv:=by subst hA;exact zA
 have hsA:=hfA.size
 clear hA
 refine z6 (cells:=#[sv,.bool false]) HX.rd ?_ ?_
 ·simp[Instr.fill,hAv,hsvc]
 refine qI hzr ?_
 have hfree:∀ i,i < [sv,Value.bool false].length->qt (w1.alloc (.cells zr.cells E.tRd)) w1.heap.size (0+i):=by
  intro i hi
  rw[Nat.zero_add]
  exact qm w1 _ _ (by rw[hzrc];simpa using hi)
 refine qu (b:=w1.heap.size) (o:=0) (cs:=[sv,.bool false]) zE zE (by intro v hv;simp only[List.mem_cons,List.not_mem_nil,or_false] at hv;rcases hv with rfl | rfl;exact hsv1;rfl) HX.rdA hfree ?_
 refine dn ?_
 have hcb:qb (setCells (w1.alloc (.cells zr.cells E.tRd)) w1.heap.size 0 [sv,.bool false]) w1.heap.size 0 [sv,.bool false] :=
  fun i v hv=>qg _ _ _ _ (fun j hj=>(hfree j hj).1) i v hv
 have hE2:=qe w1.heap.size [sv,.bool false] (w1.alloc (.cells zr.cells E.tRd)) 0
 have hb2:Below w1.heap.size w1 (setCells (w1.alloc (.cells zr.cells E.tRd)) w1.heap.size 0 [sv,.bool false]) :=
  ((Below.refl w1.heap.size w1).alloc (o:=.cells _ _) (Nat.le_refl _)).trans (hE2.below zS (by rintro k i hk ⟨rfl,_,_⟩;omega))
 have hz2:w1.heap.size<(setCells (w1.alloc (.cells zr.cells E.tRd)) w1.heap.size 0 [sv,.bool false]).heap.size:=by
  have:=hE2.size
  simp at this
  omega
 have hfr2:∀ i,i<2->qt (setCells (w1.alloc (.cells zr.cells E.tRd)) w1.heap.size 0 [sv,.bool false]) w1.heap.size i:=fun i hi=>by
  have:=(hfree i (by simpa using hi)).eff hE2
  rwa [Nat.zero_add] at this
 generalize setCells (w1.alloc (.cells zr.cells E.tRd)) w1.heap.size 0 [sv,.bool false]=w2 at *
 generalize hrb:w1.heap.size=rb at *
 generalize ha2:Act.put _ (some 7) _=a2
 have hf2:Fr (fun k=>k=0\/k=1\/k=2) a a2:=by
  subst ha2
  exact (hfA.put _ zH).put _ zH
 have h27:a2.eval (.tmp 7)=.pointer (some ⟨rb,0,none⟩):=by subst ha2;exact zE
 have hs2z:=hf2.size
 clear ha2
 have hrd:RdS w2 rb sb (l,false):=⟨by omega,by omega,⟨sv,hcb,hs1.heap (hb2.block sb zH)⟩,hfr2 0 zH,hfr2 1 zH,hl⟩
 have hbw:Below w1.heap.size w1 w2:=by rw[hrb];exact hb2
 have hE02:Eff (fun k _=>k=mb) w w2:=(hE1.mono (fun k i _ h=>h.1)).trans (Eff.of_below hbw)
 have hev2:w2.cell? ⟨E.vErr,0,none⟩=some ev:=hE02.cellSome he (by rintro h;exact hm3 h.symm)
 have hevlt:E.vErr<w.heap.size:=qo he
 have hc2:qb w2 mb 1 m.fs.dz:=hc1.below hb2 zH
 have hv2:w2.cell? ⟨mb,0,none⟩=some (.int .i16 (ver0:Int)):=by
  have:=hc 0 (.int .i16 (ver0:Int)) zS
  have:=hE1.cellSome this (by rintro ⟨_,h,_⟩;omega)
  rw[hb2.cell (p:=⟨mb,0,none⟩) (show mb<rb by omega)]
  exact this
 have hfm2:∀ i,i<m.fs.size+1->qt w2 mb i:=fun i hi=>(hf i hi).eff hE02
 have fin:∀ (t1:Nat) (a3:Act) (w3:World),m.rlocals<=t1->t1+5+(match m.flex with | none=>0 | some _=>3)+1+m.fs.rt m.rx+1<=nt->Fr (fun k=>k=0\/k=1\/k=2\/k=7) a2 a3->RdS w3 rb sb (m.rst l)->w3.cell? ⟨mb,0,none⟩=some (.int .i16 (ver:Int)) →
   Eff (fun k i=>RM rb k i\/(k=mb/\i<1)) w2 w3->vc P (sq (m.rtail E t1)) (Out P #[.tmp 6] fun v w'=>RFD m T ev ver mb sb l w w' v) a3 w3:=by
  intro t1 a3 w3 h1 h2 h3 h4 h5 h6
  have hz3:=h6.size
  refine qW _ (rf_tail H HX HK hT (m:=m) (ver:=ver) (mb:=mb) (rb:=rb) (sb:=sb) (B:=rb+1) (t1:=t1) (ev:=ev) (a:=a3) (w:=w3) (st:=m.rst l) hok htx h00 h1 (by rw[h3.size,hs2z,hsz];exact h2) (by rw[h3.defers,hf2.defers];exact hdf)
   (by rw[h3.slot 0 zH,hf2.slot 0 zH];exact e0) (by rw[h3.slot 2 zH,hf2.slot 2 zH];exact e2) (by rw[h3.slot 7 zH];exact h27) h5 h4 (h6.cellSome hev2 (by rintro (⟨h,_⟩ | ⟨h,_⟩);omega;exact hm3 h.symm)) zH hev
   (hc2.eff h6 (by rintro i hi (⟨h,_⟩ | ⟨_,h⟩)<;>omega)) (fun i hi=>(hfm2 (1+i) zH).eff h6) zH hm2 hm3 zH zH zH) ?_
  have key:∀ v w',RFC m T ev ver mb rb sb (rb+1) (m.rst l) w3 w' v->RFD m T ev ver mb sb l w w' v:=by
   rintro v w' ⟨g1,g2,g3⟩
   refine ⟨g1,?_,fun h=>?_⟩
   ·refine (hE02.trans' h6 ?_).trans' g2 ?_
    ·rintro k i hk (⟨h,_⟩ | ⟨h,_⟩)
     ·omega
     ·exact h
    ·rintro k i hk (⟨h,_⟩ | ⟨h,_⟩)
     ·omega
     ·exact h
   ·obtain ⟨cs,k1,k2,k3⟩:=g3 h
    refine ⟨cs,k1,?_,Flds.Rep.eff (Eff.refl (fun _ _=>False) w') (fun _ h=>h) m.fs (rb+1) 0 cs _ _ (fun _ _ _ _ h=>h) (Nat.zero_le _) k3⟩
    have h0:=g2.cellSome h5 (by rintro (⟨h,_⟩ | ⟨_,h,_⟩)<;>omega)
    intro i u hu
    cases i with
    | zero=>simp only[List.getElem?_cons_zero,Option.some.injEq] at hu;subst hu;exact h0
    | succ i =>
     simp only[List.getElem?_cons_succ] at hu
     have:=k2 i u hu
     rwa [show 1+i=0+(i+1) by omega] at this
  intro e a w' h
  cases e<;>first | exact ⟨h.1,let ⟨v,hv,hs⟩:=h.2;⟨v,hv,key v w' hs⟩⟩ | exact h
 cases hk:m.kept with
 | false =>
  simp only[hk,Bool.false_eq_true,if_false,List.nil_append] at hnt ⊢
  have hv:ver0=ver:=by
   have:(ver0:Int)=(ver:Int):=by simpa [Msg.rver,hk] using hver
   omega
  subst hv
  exact fin _ a2 w2 zH zH (Fr.refl _ _) (by simp only[Msg.rst,hk,Bool.false_eq_true,if_false];exact hrd) hv2 (Eff.refl _ _)
 | true =>
  simp only[hk,if_true,List.cons_append,List.nil_append] at hnt ⊢
  have hv:sgn 2 (rdN 2 (l,false)).1=(ver:Int):=by simpa [Msg.rver,hk] using hver
  have hst:m.rst l=(rdN 2 (l,false)).2:=by simp[Msg.rst,hk]
  refine vX (rM ?_)
  refine q8 (args:=#[.pointer (some ⟨rb,0,none⟩)]) ?_ (H.scal .i16 (hk16 hk) rb sb (l,false) w2 hrd) ?_
  ·simp only[lM]
   simp (disch:=(try simp only[sP]);omega) only[eV,h27]
  rintro v w3 ⟨⟨hv3,hvo⟩,hr3,hE3⟩
  have hv3':v=.int .i16 (ver:Int):=by rw[hv3,← hv];rfl
  subst hv3'
  refine qY (ad:=⟨mb,0,none⟩) (by simp (disch:=(try simp only[sP]);omega) only[eV,hf2.slot 0 zH,e0]) ?_
  refine rF (b:=mb) (o:=0) zE h00 ?_
  have hf3:qt w3 mb (0+0):=(hfm2 0 zH).eff hE3
  refine xq (b:=mb) (o:=0+0) (v:=.int .i16 (ver:Int)) zE zE rfl HX.i16 hf3 ?_
  refine dn ?_
  have hE4:Eff (fun k i=>k=mb/\i<1) w3 (w3.setCell ⟨mb,0+0,none⟩ (.int .i16 (ver:Int))):=(Eff.refl _ w3).setCell _ _ _ (fun _=>⟨rfl,by omega⟩)
  refine fin _ _ _ zH zH ((((Fr.refl _ a2).put _ zH).put _ zH |>.put _ zH).put _ zH) ?_ (qp _ hf3.1) ((hE3.mono (fun k i _ h=>.inl h)).trans (hE4.mono (fun k i _ h=>.inr h)))
  rw[hst]
  exact (show RdS w3 rb sb (rdN 2 (l,false)).2 from hr3).keep hE4 (by rintro i ⟨h,_⟩;omega) (by rintro i ⟨h,_⟩;exact hm2 h.symm)
end
end Go.Km
namespace Go.Km
open Go Go.RowKit
attribute [local irreducible] vc rO_ qz qJ qF
def ReadC (P:Program) (E:Env) (T:List (Nat × List UInt8)->Prop) (m:Msg) (f:FuncId):Prop :=
 ∀ (ver ver0 mb sb:Nat) (ev sv:Value) (l:List UInt8) (w:World),m.rver ver0 l=(ver:Int)->qb w mb 0 (.int .i16 (ver0:Int)::m.fs.dz)->(∀ i,i<m.fs.size+1->qt w mb i)->j0 w sb sv l->sb<w.heap.size->l.length<=big →
  w.cell? ⟨E.vErr,0,none⟩=some ev->(∃ u z,ev=.iface u z)->mb≠sb->mb≠E.vErr->qa P f #[.pointer (some ⟨mb,0,none⟩),sv] w fun v w'=>RFD m T ev ver mb sb l w w' v
def c_rfw (E:Env) (m:Msg) (RF:FuncId):Code :=
 sq [rg [qc 4 (.const .nilIface) E.tErr],rg [qd 5 (.tmp 0) m.TP,qd 6 (.tmp 1) E.tB,xi (some 7) RF #[.tmp 5,.tmp 6,.const (.bool false)] #[m.TP,E.tB,E.tO] E.tErr,qc 4 (.tmp 7) E.tErr],.ret]
def Msg.wdat (m:Msg) (ver:Nat) (ds:List D):List D:=if m.kept then .int ver::ds else ds
def Msg.out (m:Msg) (ver:Nat) (ds:List D) (tags:List (Nat × List UInt8)):List UInt8:=m.wfs.wr (m.isFlex ver) ver (m.wdat ver ds) tags
def Msg.back (m:Msg) (ver:Nat) (l:List UInt8):Option (List UInt8) :=
 if (m.rdv ver (m.rst l)).2.2.2 then none else some (m.out ver (m.rdv ver (m.rst l)).1 (m.rdv ver (m.rst l)).2.1)
def BackV (E:Env) (o:Option (List UInt8)) (W w':World) (r:Value):Prop :=
 Below W.heap.size W w'/\match o with
 | none=>r=.tuple #[.slice none 0 0,.bool false]
 | some l=>∃ x,r=.tuple #[x,.bool true]/\w'.ownsRow W.heap.size E.tU8 1 x l.length (l.map bv)
structure MR where
 newPtr:FuncId
 setV:FuncId
 app:FuncId
 rd:FuncId
 rdi:FuncId
 again:FuncId
def c_again (E : Env) (m : Msg) (N : MR) : Code :=
  sq [rg [qc 4 (.const (.slice none 0 0)) E.tB, qc 5 (.const (.bool false)) E.tO],
    rg [xi (some 7) N.newPtr #[] #[] m.TP, qc 6 (.tmp 7) m.TP],
    rg [qd 8 (.tmp 6) m.TP, qd 9 (.tmp 0) E.tI, wW 10 E.tI E.tI16 (.tmp 9), xi (some 11) N.setV #[.tmp 8, .tmp 10] #[m.TP, E.tI16] 0],
    sq [rg [qd 12 (.tmp 6) m.TP, qd 13 (.tmp 1) E.tB, xH 14 .append #[.const (.slice none 0 0), .tmp 13] #[E.tB, E.tB] E.tB, xi (some 15) N.rd #[.tmp 12, .tmp 14] #[m.TP, E.tB] E.tErr,
        zL 16 .neq E.tErr (.tmp 15) (.const .nilIface) E.tErr E.tO],
      .cond (.tmp 16) (sq [rg [qc 4 (.const (.slice none 0 0)) E.tB, qc 5 (.const (.bool false)) E.tO], .ret]) .skip],
    rg [qd 17 (.tmp 6) m.TP, xi (some 18) N.app #[.tmp 17, .const (.slice none 0 0)] #[m.TP, E.tB] E.tB, qc 4 (.tmp 18) E.tB, qc 5 (.const (.bool true)) E.tO],
    .ret]
section
variable {P : Program} {E : Env} {T : List (Nat × List UInt8) → Prop}
theorem c_rfw_ok (H:EnvR P E T) (HX:EnvRX P E) (HK:E.rTags≠0->EnvRK P E T) (hT:T []) {m:Msg} {RF f:FuncId} {np nt npr ntr npd ntd:Nat} (ht:Text P f np nt #[.tmp 4] (c_rfw E m RF)) (hn:8<=nt) (htr:Text P RF npr ntr #[.tmp 6] (m.rcode E)) (hnr:m.rtop<=ntr) (hd:Text P m.FD npd ntd #[] (dcode E m.TP m.TU 1 m.fs)) (hnd:2+m.fs.dn+m.fs.dt<=ntd) (hokd:m.fs.okD P E m.TU 1 1=true)
  (hok:m.fs.okR P E m.rx m.TU 1 1=true) (htx:m.fs.txR P E) (h00:qk P m.TU 0=some 0) (hk16:m.kept=true->E.rI16≠0):ReadC P E T m f:=by
 intro ver ver0 mb sb ev sv l w h1 h2 h3 h4 h5 h6 h7 hev h8 h9
 refine qa.enter ht (by simp;omega) ?_
 intro a hsz hdf harg
 have e0:=harg 0 (.pointer (some ⟨mb,0,none⟩)) zS
 have e1:=harg 1 sv zS
 unfold c_rfw
 refine vX (rA (dn (vX (rM (rM ?_)))))
 refine q8 (args:=#[.pointer (some ⟨mb,0,none⟩),sv,.bool false]) ?_ (c_readFrom H HX HK hT htr hnr hd hnd hokd hok htx h00 hk16 h1 h2 h3 h4 h5 h6 h7 hev h8 h9) ?_
 ·simp only[lM]
  simp (disch:=(try simp only[sP]);omega) only[eV,e0,e1]
 intro v w' hS
 refine rA (dn (vS (vT ?_)))
 exact ⟨by simp only[dF];exact hdf,v,rO zE,hS⟩
theorem jW {W:World} {B B':Nat} {e:TypeId} {s:Nat} {v:Value} {n:Nat} {xs:List Value} (h:W.ownsRow B e s v n xs) (hB:B'<=B):W.ownsRow B' e s v n xs:=by
 refine ⟨h.1,?_⟩
 rcases h.2 with h | ⟨g,cap,cur,h1,h2,h3⟩
 ·exact .inl h
 ·exact .inr ⟨g,cap,cur,h1,Nat.le_trans hB h2,h3⟩
theorem ze {w w':World} {B C:Nat} {e:TypeId} {s:Nat} {v:Value} {n:Nat} {xs:List Value} (h:w.ownsRow B e s v n xs) (hb:Below C w w') (hC:C=w.heap.size:=by rfl):w'.ownsRow B e s v n xs:=by
 subst hC
 refine ⟨h.1,?_⟩
 rcases h.2 with h | ⟨g,cap,cur,h1,h2,h3,h4⟩
 ·exact .inl h
 ·have hg:g<w.heap.size:=(Array.getElem?_eq_some_iff.1 h3).1
  exact .inr ⟨g,cap,cur,h1,h2,by rw[hb.block g hg];exact h3,h4⟩
theorem xl.below {w w':World} {B:Nat} {v:Value} {l:List UInt8} (h:xl w v l) (hb:Below B w w') (hB:B=w.heap.size:=by rfl):xl w' v l:=by
 rcases h with h | ⟨q,o,cap,hv,hc⟩
 ·exact .inl h
 ·refine .inr ⟨q,o,cap,hv,fun i u hu=>?_⟩
  have h1:=hc i u hu
  rw[hb.cell (p:=⟨q,o+i,none⟩) (show q<B by rw[hB];exact qo h1)]
  exact h1
theorem xl.src {w:World} {t e:TypeId} {v:Value} {l:List UInt8} (h:xl w v l) (ht:xu P t=some (e,1)):Src P 1 t v l.length (l.map bv) w:=by
 rcases h with ⟨rfl,rfl⟩ | ⟨q,o,cap,rfl,hc⟩
 ·exact wH ht
 ·exact xW ht hc zS (xm l)
theorem own_src {w:World} {U d:Nat} {e:TypeId} {v:Value} {l:List UInt8} (h:w.ownsRow U e 1 v l.length (l.map bv)) (hd:d<w.heap.size) (hdU:d<U):∃ sb,j0 w sb v l/\sb<w.heap.size/\(sb=d\/U<=sb):=by
 have hr:=xl.of_own h
 rcases h.2 with ⟨rfl,h0⟩ | ⟨g,cap,cur,rfl,hbg,hg,hnc,hcm,hcs,htake⟩
 ·exact ⟨d,.inl ⟨rfl,List.eq_nil_of_length_eq_zero h0⟩,hd,.inl rfl⟩
 ·have hlt:g<w.heap.size:=(Array.getElem?_eq_some_iff.1 hg).1
  refine ⟨g,.inr ⟨0,cap,rfl,hnc,?_⟩,hlt,.inr hbg⟩
  rcases hr with ⟨h,_⟩ | ⟨q,o,cap',h,hc⟩
  ·cases h
  ·cases h
   exact hc
theorem wrap_i16n {n:Nat} (h:n<32768):IntKind.i16.wrap (n:Int)=(n:Int):=by
 have h2:(2:Int) ^ 16=65536:=by decide
 have h3:(2:Int) ^ (16-1)=32768:=by decide
 simp only[IntKind.wrap,IntKind.bits,IntKind.signed,Bool.true_and,decide_eq_true_eq,h2,h3]
 split<;>omega
theorem rf_out (HW:EnvW P E T) (HI:EnvI P E) {m:Msg} {f:FuncId} {np nt:Nat} (ha:Text P f np nt #[.tmp 4] (m.wcode E)) (hna:m.wtop<=nt) (hokw:m.okW P E=true) {ver mb sb:Nat} {ev:Value} {l:List UInt8} {w w':World} {v:Value} (hv:ver<32768)
  (h:RFD m T ev ver mb sb l w w' v) (hnb:(m.rdv ver (m.rst l)).2.2.2=false) (hb:(m.out ver (m.rdv ver (m.rst l)).1 (m.rdv ver (m.rst l)).2.1).length<=big) :
  qa P f #[.pointer (some ⟨mb,0,none⟩),.slice none 0 0] w' fun x w2=>w2.ownsRow w'.heap.size E.tU8 1 x (m.out ver (m.rdv ver (m.rst l)).1 (m.rdv ver (m.rst l)).2.1).length ((m.out ver (m.rdv ver (m.rst l)).1 (m.rdv ver (m.rst l)).2.1).map bv)/\Below w'.heap.size w' w2:=by
 obtain ⟨_,_,h3⟩:=h
 obtain ⟨cs,k1,k2,k3⟩:=h3 hnb
 have hver:w'.cell? ⟨mb,0,none⟩=some (.int .i16 (ver:Int)):=by simpa using k2 0 (.int .i16 (ver:Int)) zS
 unfold Msg.out at hb ⊢
 cases hk:m.kept with
 | false =>
  have hwfs:m.wfs=m.fs:=by simp[Msg.wfs,hk]
  have hwi:m.wi=1:=by simp[Msg.wi,hk]
  refine appendTo (sb:=⟨sb,T⟩) (cs:=cs) (B:=0) HW HI ha hna hokw hver ?_ ?_ hb
  ·rw[hwi]
   exact k2.dp (n:=1)
  ·rw[hwfs]
   simpa [Msg.wdat,hk] using k3
 | true =>
  have hwfs:m.wfs=.cons .all (.scal .i16 0) m.fs:=by simp[Msg.wfs,hk]
  have hwi:m.wi=0:=by simp[Msg.wi,hk]
  refine appendTo (sb:=⟨sb,T⟩) (cs:=.int .i16 (ver:Int)::cs) (B:=0) HW HI ha hna hokw hver ?_ ?_ hb
  ·rw[hwi]
   exact k2
  ·rw[hwfs]
   simp only[Msg.wdat,hk,if_true,Flds.Rep,Ty.size,List.take_succ_cons,List.take_zero,List.drop_succ_cons,List.drop_zero]
   exact ⟨⟨rfl,by show (-32768:Int)<=_/\_;omega⟩,k3,trivial⟩
theorem c_again_ok (HW:EnvW P E T) (HI:EnvI P E) (HB:xe P E.tB E.tU8 1=true) (i16:qr P E.tI16=some .i16) (ii:qr P E.tI=some .i64) (o16:qQ P E.tI16=true) (oE:jo P E.tErr=true) {m:Msg} {N:MR} {np nt nps nts npa nta:Nat}
  (ht:Text P N.again np nt #[.tmp 4,.tmp 5] (c_again E m N)) (hn:19<=nt) (hN:NewC P N.newPtr m) (hs:Text P N.setV nps nts #[] (c_setV E m)) (hns:8<=nts) (ho:qk P m.TU 0=some 0) (hR:ReadC P E T m N.rd)
  (ha:Text P N.app npa nta #[.tmp 4] (m.wcode E)) (hna:m.wtop<=nta) (hokw:m.okW P E=true) (hk:m.kept=false)
  {ver:Nat} {l:List UInt8} {sv ev:Value} {W:World} (hv:ver<32768) (hsrc:∀ w',Below W.heap.size W w'->Src P 1 E.tB sv l.length (l.map bv) w') (hl:l.length<=big) (he:W.cell? ⟨E.vErr,0,none⟩=some ev) (hev:∃ u z,ev=.iface u z)
  (hb:∀ x,m.back ver l=some x->x.length<=big):qa P N.again #[.int .i64 ver,sv] W fun r w'=>BackV E (m.back ver l) W w' r:=by
 refine qa.enter ht (by simp;omega) ?_
 intro a hsz hdf harg
 have e0:=harg 0 (.int .i64 ver) zS
 have e1:=harg 1 sv zS
 have hevlt:E.vErr<W.heap.size:=qo he
 unfold c_again
 refine vX (rA (rA (dn (vX ?_))))
 refine q8 (args:=#[]) zS (hN W) ?_
 rintro v w1 ⟨rfl,hb1,hz1,hc1,hf1⟩
 refine rA (dn (vX (rM (rM ?_))))
 refine qL (k:=.i64) (k':=.i16) (m:=(ver:Int)) ii i16 zA ?_
 rw[wrap_i16n hv]
 refine q8 (args:=#[.pointer (some ⟨W.heap.size,0,none⟩),.int .i16 ver]) ?_ (c_setV_ok hs hns ho o16 (hf1 0 zH)) ?_
 ·simp only[lM]
  exact zE
 rintro v w2 rfl
 refine dn ?_
 have hb2:Below W.heap.size W (w1.setCell ⟨W.heap.size,0,none⟩ (.int .i16 ver)):=hb1.setCell (p:=⟨W.heap.size,0,none⟩) (Nat.le_refl _) _
 have hc2:qb (w1.setCell ⟨W.heap.size,0,none⟩ (.int .i16 ver)) W.heap.size 0 (.int .i16 (ver:Int)::m.fs.dz):=by
  intro i v hv
  cases i with
  | zero =>
   simp only[List.getElem?_cons_zero,Option.some.injEq] at hv
   subst hv
   exact qp _ (hf1 0 zH).1
  | succ i =>
   rw[xE _ (.inr zH)]
   exact hc1 (i+1) v (by simpa using hv)
 have hf2:∀ i,i<m.fs.size+1->qt (w1.setCell ⟨W.heap.size,0,none⟩ (.int .i16 ver)) W.heap.size i:=fun i hi=>(hf1 i hi).eff ((Eff.refl (fun k _=>k=W.heap.size) w1).setCell _ _ _ (fun _=>rfl))
 have hz2:W.heap.size<(w1.setCell ⟨W.heap.size,0,none⟩ (.int .i16 ver)).heap.size:=by simpa using hz1
 generalize w1.setCell ⟨W.heap.size,0,none⟩ (.int .i16 ver)=w2 at *
 generalize ha1:Act.put _ (some 11) _=a1
 have hf3:Fr (fun k=>k=0\/k=1) a a1:=by
  subst ha1
  exact ((((((((Fr.refl _ a).put _ zH).put _ zH).put _ zH).put _ zH).put _ zH).put _ zH).put _ zH).put _ zH
 have h6:a1.eval (.tmp 6)=.pointer (some ⟨W.heap.size,0,none⟩):=by subst ha1;exact zE
 have h11:a1.eval (.tmp 1)=sv:=by rw[hf3.slot 1 (.inr rfl)];exact e1
 have hsz1:=hf3.size
 have hdf1:=hf3.defers
 clear ha1
 refine vS (vX (rM (rM ?_)))
 refine xc (U:=w2.heap.size) (v:=.slice none 0 0) (n:=0) (xs:=[]) (u:=sv) (m:=l.length) (news:=l.map bv) HB rfl zA (World.ownsRow_nil _ _ _ _) (Nat.le_refl _) (hsrc _ hb2) zH ?_
 intro v3 w3 hown3 hb3
 rw[Nat.zero_add,List.nil_append] at hown3
 have hb03:Below W.heap.size W w3:=hb2.trans (hb3.mono (Nat.le_of_lt hz2))
 have hev3:w3.cell? ⟨E.vErr,0,none⟩=some ev:=by rw[hb03.cell (p:=⟨E.vErr,0,none⟩) hevlt];exact he
 have hz3:=hb3.size
 obtain ⟨sb,hsv,hsb,hsbc⟩:=own_src (d:=E.vErr) hown3 zH zH
 have hc3:qb w3 W.heap.size 0 (.int .i16 (ver:Int)::m.fs.dz):=hc2.below hb3 hz2
 have hf3':∀ i,i<m.fs.size+1->qt w3 W.heap.size i:=fun i hi=>(hf2 i hi).eff (Eff.of_below (M:=fun _ _=>False) hb3)
 have hrst:m.rst l=(l,false):=by simp[Msg.rst,hk]
 refine q8 (args:=#[.pointer (some ⟨W.heap.size,0,none⟩),v3]) ?_ (hR ver ver W.heap.size sb ev v3 l w3 (by simp[Msg.rver,hk]) hc3 hf3' hsv hsb hl hev3 hev zH zH) ?_
 ·simp only[lM]
  simp (disch:=(try simp only[sP]);omega) only[eV,h6]
 intro x w4 hx
 have hbw4:Below W.heap.size W w4:=hb03.trans (hx.2.1.below zH (by rintro k i hk rfl;omega))
 have hz4:=hx.2.1.size
 have hxv:=hx.1
 refine ki (v:=x) oE zE (by rw[hxv];split;exact .inr hev;exact .inl rfl) ?_
 refine dn ?_
 have hcv:isErr x=(m.rdv ver (m.rst l)).2.2.2:=by
  rw[hxv]
  obtain ⟨u,z,rfl⟩:=hev
  cases (m.rdv ver (m.rst l)).2.2.2<;>rfl
 rw[hcv]
 refine vS (vC (t:=(m.rdv ver (m.rst l)).2.2.2) zE ?_ ?_)
 ·intro h
  refine vX (rA (rA (dn (vS (vT ?_)))))
  refine ⟨by simp only[dF];rw[hdf1];exact hdf,.tuple #[.slice none 0 0,.bool false],qH zE zE,hbw4,?_⟩
  simp only[Msg.back,h,if_true]
 ·intro h
  refine vK (vN ?_)
  have hbk:m.back ver l=some (m.out ver (m.rdv ver (m.rst l)).1 (m.rdv ver (m.rst l)).2.1):=by simp[Msg.back,h]
  refine vX (rM ?_)
  refine q8 (args:=#[.pointer (some ⟨W.heap.size,0,none⟩),.slice none 0 0]) ?_ (rf_out HW HI ha hna hokw hv hx h (hb _ hbk)) ?_
  ·simp only[lM]
   simp (disch:=(try simp only[sP]);omega) only[eV,h6]
  rintro y w5 ⟨hy,hb5⟩
  refine rA (rA (dn (vS (vT ?_))))
  refine ⟨by simp only[dF];rw[hdf1];exact hdf,.tuple #[y,.bool true],qH zE zE,hbw4.trans (hb5.mono zH),?_⟩
  rw[hbk]
  exact ⟨y,rfl,jW hy zH⟩
end
end Go.Km
namespace Go.Km
open Go Go.RowKit
theorem o8_toNat (n:Int):(UInt8.ofNat (n % 256).toNat).toNat=(n % 256).toNat:=by
 have h1:0<=n % 256:=Int.emod_nonneg _ (by decide)
 have h2:n % 256<256:=Int.emod_lt_of_pos _ (by decide)
 simp only[UInt8.toNat_ofNat']
 omega
theorem emod_mul' (n m:Int) (hm:0<m):n % (m*256)=n % m+m*(n / m % 256):=by
 have h1:=Int.mul_ediv_add_emod n m
 have h2:=Int.mul_ediv_add_emod (n / m) 256
 have h3:0<=n % m:=Int.emod_nonneg _ zH
 have h4:n % m<m:=Int.emod_lt_of_pos _ hm
 have h5:0<=n / m % 256:=Int.emod_nonneg _ (by decide)
 have h6:n / m % 256<256:=Int.emod_lt_of_pos _ (by decide)
 generalize n % m=s at *
 generalize n / m % 256=r at *
 generalize n / m / 256=q at *
 generalize n / m=p at *
 subst h2
 have e:n=(s+m*r)+(m*256)*q:=by
  rw[← h1,Int.mul_add,Int.mul_assoc]
  omega
 rw[e,Int.add_mul_emod_self_left]
 have h7:0<=m*r:=Int.mul_nonneg zH h5
 have h8:m*r<=m*255:=Int.mul_le_mul_of_nonneg_left zH zH
 exact Int.emod_eq_of_lt zH zH
theorem be_foldl:∀ (k:Nat) (n:Int) (acc:Nat),(be k n).foldl (fun n b=>n*256+b.toNat) acc=acc*256 ^ k+(n % (256 ^ k:Nat)).toNat
 | 0,n,acc=>by
  simp[be]
 | k+1,n,acc=>by
  simp only[be,List.foldl_cons]
  rw[be_foldl k n,o8_toNat]
  have hp:(0:Int)<((256 ^ k:Nat):Int):=by exact_mod_cast Nat.pow_pos (by decide)
  have e1:(256:Int) ^ k=((256 ^ k:Nat):Int):=by simp
  have e2:((256 ^ (k+1):Nat):Int)=((256 ^ k:Nat):Int)*256:=by rw[Nat.pow_succ];simp
  rw[e1,e2,Int.fdiv_eq_ediv_of_nonneg _ (Int.le_of_lt hp),emod_mul' _ _ hp]
  have h1:0<=n % ((256 ^ k:Nat):Int):=Int.emod_nonneg _ zH
  have h2:0<=n / ((256 ^ k:Nat):Int) % 256:=Int.emod_nonneg _ (by decide)
  generalize n % ((256 ^ k:Nat):Int)=x at *
  generalize n / ((256 ^ k:Nat):Int) % 256=y at *
  obtain ⟨x,rfl⟩:∃ m:Nat,x=m:=⟨x.toNat,by omega⟩
  obtain ⟨y,rfl⟩:∃ m:Nat,y=m:=⟨y.toNat,by omega⟩
  have e3:(x:Int)+((256 ^ k:Nat):Int)*(y:Int)=((x+256 ^ k*y:Nat):Int):=by simp
  rw[e3]
  simp only[Int.toNat_natCast]
  rw[Nat.add_mul,Nat.pow_succ,Nat.mul_comm (256 ^ k) y,Nat.mul_comm (256 ^ k) 256,Nat.mul_assoc]
  omega
theorem jw (k:Nat) (n:Int) (r:List UInt8):rdN k (be k n++r,false)=((n % (256 ^ k:Nat)).toNat,r,false):=by
 have hl:(be k n).length=k:=qG k n
 unfold rdN
 rw[if_neg (by show ¬ (be k n++r).length<k;rw[List.length_append,hl];omega)]
 have h1:(be k n++r).take k=be k n:=by
  have:=List.take_left (l₁:=be k n) (l₂:=r)
  rwa [hl] at this
 have h2:(be k n++r).drop k=r:=by
  have:=List.drop_left (l₁:=be k n) (l₂:=r)
  rwa [hl] at this
 show (beN ((be k n++r).take k),(be k n++r).drop k,false)=_
 rw[h1,h2]
 unfold beN
 rw[be_foldl k n 0]
 simp
theorem j9 {k:Nat} {n:Int} (hk:0<k) (h1:-(2 ^ (8*k-1):Nat)<=n) (h2:n<(2 ^ (8*k-1):Nat)):sgn k (n % (256 ^ k:Nat)).toNat=n:=by
 have e:(256:Nat) ^ k=2 ^ (8*k-1)+2 ^ (8*k-1):=by
  rw[show 256=2 ^ 8 from rfl,← Nat.pow_mul,← Nat.mul_two,← Nat.pow_succ]
  congr 1
  omega
 have e2:(2:Int) ^ (8*k)=((256 ^ k:Nat):Int):=by
  rw[show 256=2 ^ 8 from rfl,← Nat.pow_mul]
  simp
 unfold sgn
 rw[e2,e]
 have hp:0<2 ^ (8*k-1):=Nat.pow_pos (by decide)
 generalize 2 ^ (8*k-1)=m at *
 rcases Int.lt_or_le n 0 with hn | hn
 ·have:n % ((m+m:Nat):Int)=n+((m+m:Nat):Int):=by
   rw[← Int.add_emod_right,Int.emod_eq_of_lt zH zH]
  rw[this,if_neg zH]
  omega
 ·rw[Int.emod_eq_of_lt hn zH,if_pos zH]
  omega
theorem Scal.rd_wr {k:Scal} {n:Int} (h:k.ok n) (r:List UInt8):k.rd (k.wr n++r,false)=(n,r,false):=by
 cases k with
 | bool =>
  have:n=0\/n=1:=h
  rcases this with rfl | rfl
  ·rfl
  ·rfl
 | i8 =>
  have h:-128<=n/\n<=127:=h
  simp only[Scal.rd,Scal.wr,jw]
  rw[j9 (k:=1) (by decide) (by simp;omega) (by simp;omega)]
 | i16 =>
  have h:-32768<=n/\n<=32767:=h
  simp only[Scal.rd,Scal.wr,jw]
  rw[j9 (k:=2) (by decide) (by simp;omega) (by simp;omega)]
 | u16 =>
  have h:0<=n/\n<=65535:=h
  simp only[Scal.rd,Scal.wr,jw]
  rw[Int.emod_eq_of_lt zH (by simp;omega),Int.toNat_of_nonneg zH]
 | i32 =>
  have h:-2147483648<=n/\n<=2147483647:=h
  simp only[Scal.rd,Scal.wr,jw]
  rw[j9 (k:=4) (by decide) (by simp;omega) (by simp;omega)]
 | i64 =>
  have h:-9223372036854775808<=n/\n<=9223372036854775807:=h
  simp only[Scal.rd,Scal.wr,jw]
  rw[j9 (k:=8) (by decide) (by simp;omega) (by simp;omega)]
 | f64 =>
  have h:0<=n/\n<18446744073709551616:=h
  simp only[Scal.rd,Scal.wr,jw]
  rw[Int.toNat_of_nonneg h.1,Int.emod_eq_of_lt zH (by simp;omega),Int.toNat_of_nonneg h.1]
theorem uvF_one {f n:Nat} (h:n<128):uvF (f+1) n=[UInt8.ofNat n]:=by simp[uvF,h]
theorem wy {f n:Nat} (h:128<=n):uvF (f+1) n=UInt8.ofNat (n % 128+128)::uvF f (n / 128):=by
 have:¬ n<128:=by omega
 simp[uvF,this]
theorem u8n {n:Nat} (h:n<256):(UInt8.ofNat n).toNat=n:=by
 simp only[UInt8.toNat_ofNat']
 omega
theorem uvDec_uvF:∀ (j f n acc:Nat) (r:List UInt8),j<=4->j<=f->n*2 ^ (7*(4-j))<4294967296->xU (4-j) acc (uvF (f+1) n++r)=some (acc+n*2 ^ (7*(4-j)),4-j+(uvF (f+1) n).length)
 | 0,f,n,acc,r,_,_,h=>by
  simp only[Nat.sub_zero] at h ⊢
  have e:(2:Nat) ^ (7*4)=268435456:=by decide
  have e2:(2:Nat) ^ 28=268435456:=by decide
  rw[e] at h
  have hn:n<128:=by omega
  rw[uvF_one hn]
  simp only[List.cons_append,List.nil_append,xU,if_true,u8n (show n<256 by omega),e,e2]
  rw[if_pos zH]
  rfl
 | j+1,f,n,acc,r,hj,hf,h=>by
  have hi:¬ (4-(j+1)=4):=by omega
  rcases Nat.lt_or_ge n 128 with hn | hn
  ·rw[uvF_one hn]
   simp only[List.cons_append,List.nil_append,xU,if_neg hi,u8n (show n<256 by omega),if_pos hn]
   rfl
  ·obtain ⟨f',rfl⟩:∃ f',f=f'+1:=⟨f-1,by omega⟩
   rw[wy hn]
   simp only[List.cons_append,xU,if_neg hi,u8n (show n % 128+128<256 by omega)]
   rw[if_neg zH]
   have e1:4-(j+1)+1=4-j:=by omega
   have e3:(n % 128+128) % 128=n % 128:=by omega
   have e4:(2:Nat) ^ (7*(4-j))=2 ^ (7*(4-(j+1)))*128:=by
    rw[show 7*(4-j)=7*(4-(j+1))+7 by omega,Nat.pow_add]
   have hd:n % 128+n / 128*128=n:=by omega
   have key:n % 128*2 ^ (7*(4-(j+1)))+n / 128*2 ^ (7*(4-j))=n*2 ^ (7*(4-(j+1))):=by
    rw[e4,Nat.mul_comm (2 ^ (7*(4-(j+1)))) 128,← Nat.mul_assoc,← Nat.add_mul,hd]
   rw[e1,e3,uvDec_uvF j f' (n / 128) _ r zH zH zH]
   simp only[Option.some.injEq,Prod.mk.injEq,List.length_cons]
   constructor
   ·omega
   ·omega
theorem zC {n:Nat} (h:n<4294967296) (r:List UInt8):qn (Go.Km.uvar n++r,false)=(n,r,false):=by
 have:=uvDec_uvF 4 8 n 0 r (by decide) (by decide) (by simpa using h)
 simp only[Nat.sub_self,Nat.mul_zero,Nat.pow_zero,Nat.mul_one,Nat.zero_add] at this
 unfold qn
 show (match xU 0 0 (uvF 9 n++r) with | none=>_ | some (v,k)=>_)=_
 rw[this]
 show (n,List.drop (uvF 9 n).length (uvF 9 n++r),false)=_
 rw[List.drop_left]
theorem uvF_le:∀ (f n k:Nat),n<2 ^ (7*(k+1))->(uvF f n).length<=k+1
 | 0,n,k,h=>by simp[uvF]
 | f+1,n,k,h=>by
  rcases Nat.lt_or_ge n 128 with hn | hn
  ·rw[uvF_one hn];simp
  ·rw[wy hn]
   cases k with
   | zero=>simp at h;omega
   | succ k =>
    have e:(2:Nat) ^ (7*(k+1+1))=2 ^ (7*(k+1))*128:=by rw[show 7*(k+1+1)=7*(k+1)+7 by omega,Nat.pow_add]
    have:=uvF_le f (n / 128) k (by rw[Nat.div_lt_iff_lt_mul (by decide)];omega)
    simp only[List.length_cons]
    omega
theorem vL:∀ (l:List UInt8) (i acc v n:Nat),acc<2 ^ (7*i)->i<=4->xU i acc l=some (v,n)->v<2 ^ (7*n)/\n<=i+l.length/\i<n
 | [],i,acc,v,n,_,_,h=>by cases h
 | b::r,i,acc,v,n,ha,hi,h=>by
  have hp:2 ^ (7*(i+1))=2 ^ (7*i)*128:=by rw[show 7*(i+1)=7*i+7 by omega,Nat.pow_add]
  have hmul:∀ x:Nat,x<128->acc+x*2 ^ (7*i)<2 ^ (7*(i+1)):=fun x hx=>by
   have:x*2 ^ (7*i)<=127*2 ^ (7*i):=Nat.mul_le_mul_right _ zH
   rw[hp]
   omega
  unfold xU at h
  split at h
  ·rename_i h4
   subst h4
   split at h
   ·rename_i hb
    simp only[Option.some.injEq,Prod.mk.injEq] at h
    obtain ⟨rfl,rfl⟩:=h
    simp only[List.length_cons]
    have:=hmul b.toNat zH
    exact ⟨by simpa using this,by omega,by omega⟩
   ·cases h
  ·split at h
   ·rename_i h1
    simp only[Option.some.injEq,Prod.mk.injEq] at h
    obtain ⟨rfl,rfl⟩:=h
    have:=hmul b.toNat h1
    simp only[List.length_cons]
    exact ⟨this,by omega,by omega⟩
   ·have:=vL r (i+1) _ v n (hmul (b.toNat % 128) (Nat.mod_lt _ (by decide))) zH h
    simp only[List.length_cons]
    exact ⟨this.1,by omega,by omega⟩
theorem jn {st:RSt} (h:(qn st).2.2=false):(Go.Km.uvar (qn st).1).length+(qn st).2.1.length<=st.1.length:=by
 unfold qn at h ⊢
 cases hu:xU 0 0 st.1 with
 | none=>simp[hu] at h
 | some x =>
  obtain ⟨v,n⟩:=x
  obtain ⟨h1,h2,h3⟩:=vL st.1 0 0 v n (by decide) (by decide) hu
  obtain ⟨k,rfl⟩:∃ k,n=k+1:=⟨n-1,by omega⟩
  have:=uvF_le 9 v k h1
  simp only[List.length_drop]
  show (uvF 9 v).length+_<=_
  omega
def Ext {α:Type} (g:RSt->α × RSt):Prop:=∀ l m:List UInt8,(g (l,false)).2.2=false->g (l++m,false)=((g (l,false)).1,(g (l,false)).2.1++m,false)
theorem jE (k:Nat):Ext (rdN k):=by
 intro l m h
 unfold rdN at h ⊢
 split at h
 ·cases h
 ·rename_i hl
  simp only at hl
  simp only[List.length_append]
  rw[if_neg zH,if_neg hl,List.take_append_of_le_length zH,List.drop_append_of_le_length zH]
theorem uvDec_ext:∀ (l m:List UInt8) (i acc:Nat) (x:Nat × Nat),xU i acc l=some x->xU i acc (l++m)=some x
 | [],m,i,acc,x,h=>by cases h
 | b::r,m,i,acc,x,h=>by
  simp only[List.cons_append]
  unfold xU at h ⊢
  split
  ·rename_i h4;rw[if_pos h4] at h;exact h
  ·rename_i h4
   rw[if_neg h4] at h
   split
   ·rename_i h1;rw[if_pos h1] at h;exact h
   ·rename_i h1
    rw[if_neg h1] at h
    exact uvDec_ext r m (i+1) _ x h
theorem kg:Ext qn:=by
 intro l m h
 unfold qn at h ⊢
 cases hu:xU 0 0 l with
 | none=>simp[hu] at h
 | some x =>
  obtain ⟨v,n⟩:=x
  have h2:=(vL l 0 0 v n (by decide) (by decide) hu).2.1
  simp only[uvDec_ext l m 0 0 _ hu]
  rw[List.drop_append_of_le_length zH]
theorem kh (n:Int):Ext (qq n):=by
 intro l m h
 unfold qq at h ⊢
 split at h
 ·cases h
 ·rename_i hl
  simp only at hl
  simp only[List.length_append]
  rw[if_neg zH,if_neg hl,List.take_append_of_le_length zH,List.drop_append_of_le_length zH]
theorem Ext.bind {α β:Type} {g:RSt->α × RSt} {f:α->RSt->β × RSt} (hg:Ext g) (hf:∀ x,Ext (f x)) (hm:∀ x st,(f x st).2.2=false->st.2=false):Ext fun st=>f (g st).1 (g st).2:=by
 intro l m h
 have h:(f (g (l,false)).1 (g (l,false)).2).2.2=false:=h
 have h1:=hm _ _ h
 have e:=hg l m h1
 show f (g (l++m,false)).1 (g (l++m,false)).2=((f (g (l,false)).1 (g (l,false)).2).1,(f (g (l,false)).1 (g (l,false)).2).2.1++m,false)
 rw[e]
 have e2:(g (l,false)).2=((g (l,false)).2.1,false):=Prod.ext rfl h1
 rw[e2] at h ⊢
 exact hf _ _ _ h
theorem Ext.map {α β:Type} {g:RSt->α × RSt} (hg:Ext g) (f:α->β):Ext fun st=>(f (g st).1,(g st).2):=by
 intro l m h
 show (f (g (l++m,false)).1,(g (l++m,false)).2)=_
 rw[hg l m h]
theorem Ext.pure {α:Type} (x:α):Ext fun st=>(x,st):=fun l m h=>rfl
theorem Scal.rd_ext (k:Scal):Ext k.rd:=by
 cases k with
 | bool=>exact (jE 1).map (fun n=>if n != 0 then (1:Int) else 0)
 | i8=>exact (jE 1).map (sgn 1)
 | i16=>exact (jE 2).map (sgn 2)
 | u16=>exact (jE 2).map (fun n=>(n:Int))
 | i32=>exact (jE 4).map (sgn 4)
 | i64=>exact (jE 8).map (sgn 8)
 | f64=>exact (jE 8).map (fun n=>(n:Int))
theorem rdL_ext (fx:Bool):Ext (rdL fx):=by
 cases fx with
 | true=>exact kg.map (fun n=>(n:Int)-1)
 | false=>exact (jE 2).map (sgn 2)
theorem rdLB_ext (fx:Bool):Ext (xX fx):=by
 cases fx with
 | true=>exact kg.map (fun n=>(n:Int)-1)
 | false=>exact (jE 4).map (sgn 4)
theorem rdNul_ext {g:RSt->Int × RSt} (hg:Ext g):Ext fun st=>qP (g st):=by
 refine Ext.bind (f:=fun n st=>qP (n,st)) hg (fun n=>?_) (fun n st h=>je h)
 intro l m h
 simp only[qP] at h ⊢
 by_cases hn:n<0
 ·simp only[if_pos hn]
 ·simp only[if_neg hn] at h ⊢
  rw[kh n l m h]
theorem rdOct_ext {g:RSt->Int × RSt} (hg:Ext g):Ext fun st=>xL (g st):=by
 refine Ext.bind (f:=fun n st=>xL (n,st)) hg (fun n=>?_) (fun n st h=>rdOct_mono h)
 intro l m h
 simp only[xL] at h ⊢
 by_cases hn:n = -1
 ·simp only[if_pos hn]
 ·simp only[if_neg hn] at h ⊢
  rw[kh n l m h]
theorem rdStr_ext {g:RSt->Int × RSt} (hg:Ext g):Ext fun st=>zp (g st) :=
 Ext.bind (f:=fun n st=>qq n st) hg (fun n=>kh n) (fun n st h=>qO h)
theorem rdCount_ext {g:RSt->Int × RSt} (hg:Ext g):Ext fun st=>z5 (g st):=by
 refine Ext.bind (f:=fun n st=>z5 (n,st)) hg (fun n=>?_) (fun n st h=>yg h)
 intro l m h
 simp only[z5] at h ⊢
 by_cases hn:(l.length:Int)<n
 ·rw[if_pos hn] at h;cases h
 ·rw[if_neg hn,if_neg (by simp only[List.length_append];omega)]
theorem rdCn_ext (fx:Bool):Ext (xp fx):=by
 cases fx with
 | true=>exact rdCount_ext (kg.map (fun n=>IntKind.i32.wrap (IntKind.i32.wrap (n:Int)-1)))
 | false=>exact rdCount_ext ((jE 4).map (sgn 4))
theorem rdMany_ext {f:RSt->D × RSt} (hf:Ext f) (hm:∀ st,(f st).2.2=false->st.2=false):∀ n,Ext (xf f n)
 | 0=>fun l m h=>rfl
 | n+1=>by
  have h1:=Ext.bind (f:=fun x st=>((x::(xf f n st).1:List D),(xf f n st).2)) hf (fun x=>(rdMany_ext hf hm n).map (fun r=>x::r)) (fun x st h=>yM hm n st h)
  exact h1
theorem rdTag_ext:Ext xn :=
 Ext.bind (f:=fun a st=>(((a,(qq ((qn st).1:Int) (qn st).2).1),(qq ((qn st).1:Int) (qn st).2).2):(Nat × List UInt8) × RSt)) kg
  (fun a=>(Ext.bind (f:=fun (n:Nat) st=>qq (n:Int) st) kg (fun n=>kh _) (fun n st h=>qO h)).map (fun x=>(a,x))) (fun a st h=>zk (qO h))
theorem wI (ck:Nat->List UInt8->Bool):∀ (n:Nat) (acc:List (Nat × List UInt8)),Ext (qC ck n acc)
 | 0,acc=>fun l m h=>rfl
 | n+1,acc=>by
  intro l m h
  simp only[qC] at h ⊢
  have h1:=zD n _ _ h
  simp only[Bool.or_eq_false_iff] at h1
  rw[rdTag_ext l m h1.1]
  have e:((xn (l,false)).2.1,(xn (l,false)).2.2 || !ck (xn (l,false)).1.1 (xn (l,false)).1.2)=((xn (l,false)).2.1,false):=by rw[h1.1,h1.2];rfl
  rw[e] at h ⊢
  simp only[h1.2,Bool.or_self]
  exact wI ck n _ _ _ h
theorem rdTagsK_ext (ck:Nat->List UInt8->Bool):Ext (zw ck):=Ext.bind (f:=fun n st=>qC ck n [] st) kg (fun n=>wI ck n []) (fun n st h=>zD n _ st h)
mutual
theorem Ty.rd_ext (fx:Bool) (ver:Nat):∀ t:Ty,Ext (t.rd fx ver)
 | .scal s _ | .named s _ _=>by
  have:=s.rd_ext.map (fun n=>D.int n)
  simpa only[Ext,Ty.rd] using this
 | .uuid=>by
  have:=(kh 16).map (fun l=>D.bytes (some l))
  simpa only[Ext,Ty.rd] using this
 | .text=>by
  have:=(rdStr_ext (rdL_ext fx)).map (fun l=>D.bytes (some l))
  simpa only[Ext,Ty.rd] using this
 | .ntext=>by
  have:=(rdNul_ext (rdL_ext fx)).map (fun l=>D.bytes l)
  simpa only[Ext,Ty.rd] using this
 | .ntextFrom N=>by
  by_cases hN:ver<N
  ·have:=(rdStr_ext (rdL_ext fx)).map (fun l=>D.bytes (some l))
   simpa only[Ext,Ty.rd,if_pos hN] using this
  ·have:=(rdNul_ext (rdL_ext fx)).map (fun l=>D.bytes l)
   simpa only[Ext,Ty.rd,if_neg hN] using this
 | .bytes=>by
  have:=(rdOct_ext (rdLB_ext fx)).map (fun l=>D.bytes l)
  simpa only[Ext,Ty.rd] using this
 | .nbytes=>by
  have:=(rdNul_ext (rdLB_ext fx)).map (fun l=>D.bytes l)
  simpa only[Ext,Ty.rd] using this
 | .list TS null e=>by
  have:=Ext.bind (f:=fun n st=>if st.2 then ((.list none:D),st) else if n<=0 then (if jB null ver n then (.list (some []):D) else .list none,st) else
    (.list (some (xf (fun s=>e.rd fx ver s) n.toNat st).1),(xf (fun s=>e.rd fx ver s) n.toNat st).2)) (rdCn_ext fx) (fun n=>?_) (fun n st h=>?_)
  ·simpa only[Ext,Ty.rd] using this
  ·intro l m h
   simp only[Bool.false_eq_true,if_false] at h ⊢
   split
   ·rename_i hn;simp only[if_pos hn]
   ·rename_i hn
    simp only[if_neg hn] at h ⊢
    rw[rdMany_ext (Ty.rd_ext fx ver e) (fun st h=>Ty.rd_mono fx ver e st h) n.toNat l m h]
  ·rcases Bool.eq_false_or_eq_true st.2 with hb | hb
   ·rw[if_pos hb] at h;exact h
   ·exact hb
 | .struct _ _ _ fs=>by
  have:=(Flds.rd_ext fx ver fs noK)
  intro l m h
  simp only[Ty.rd] at h ⊢
  rw[this l m h]
 | .nstruct _ _ _ fs _=>by
  have:=Ext.bind (f:=fun (n:Int) st=>if n = -1\/st.2=true then ((.list none:D),st) else (.list (some [.obj (fs.rd fx ver noK st).1 (fs.rd fx ver noK st).2.1]),(fs.rd fx ver noK st).2.2)) (Scal.rd_ext .i8) (fun n=>?_) (fun n st h=>?_)
  ·simpa only[Ext,Ty.rd] using this
  ·intro l m h
   simp only[Bool.false_eq_true,or_false] at h ⊢
   split
   ·rename_i hn;simp only[if_pos hn]
   ·rename_i hn
    simp only[if_neg hn] at h ⊢
    rw[Flds.rd_ext fx ver fs noK l m h]
  ·split at h
   ·exact h
   ·exact Flds.rd_mono fx ver fs _ h
theorem Flds.rd_ext (fx:Bool) (ver:Nat):∀ (fs:Flds) (ck:Nat->List UInt8->Bool) (l m:List UInt8),(fs.rd fx ver ck (l,false)).2.2.2=false->fs.rd fx ver ck (l++m,false)=((fs.rd fx ver ck (l,false)).1,(fs.rd fx ver ck (l,false)).2.1,(fs.rd fx ver ck (l,false)).2.2.1++m,false)
 | .nil _,ck,l,m,h=>by
  cases fx with
  | true =>
   simp only[Flds.rd,if_true] at h ⊢
   rw[rdTagsK_ext ck l m h]
  | false=>simp[Flds.rd]
 | .cons v t r,ck,l,m,h=>by
  simp only[Flds.rd] at h ⊢
  split
  ·rename_i hv
   simp only[if_pos hv] at h
   have h1:=Flds.rd_mono fx ver r _ h
   have e:=Ty.rd_ext fx ver t l m h1
   have e2:(t.rd fx ver (l,false)).2=((t.rd fx ver (l,false)).2.1,false):=Prod.ext rfl h1
   simp only[e]
   rw[e2] at h ⊢
   rw[Flds.rd_ext fx ver r ck _ m h]
  ·rename_i hv
   simp only[if_neg hv] at h
   rw[Flds.rd_ext fx ver r _ l m h]
end
end Go.Km
namespace Go.Km
open Go Go.RowKit
def wE (fx:Bool) (l:List UInt8):Prop:=if fx then l.length+1<4294967296 else l.length<=32767
def yQ (fx:Bool) (l:List UInt8):Prop:=if fx then l.length+1<4294967296 else l.length<2147483648
def kR (tags:List (Nat × List UInt8)):Prop:=TagsOk tags/\tags.length<4294967296/\∀ x ∈ tags,x.2.length<4294967296
def Ver.okD (v:Ver) (fx:Bool) (dd g:Prop) (isD:Bool) (tags:List (Nat × List UInt8)):Prop :=
 match v with
 | .tag k _=>(if fx then g/\(isD=true->dd) else dd)/\∀ x ∈ tags,x.1≠k
 | _=>dd
theorem Ver.okD_no {v:Ver} (h:v.isTag=false) {fx:Bool} {dd g:Prop} {isD:Bool} {tags:List (Nat × List UInt8)}:v.okD fx dd g isD tags ↔ dd:=by cases v<;>first | exact Iff.rfl | cases h
theorem Ver.has_noTag {v:Ver} {ver:Nat} (h:v.has ver=true):v.isTag=false:=by cases v<;>first | rfl | cases h
mutual
def Ty.good (fx:Bool) (ver:Nat):Ty->D->Prop
 | .scal s _,.int n | .named s _ _,.int n=>s.ok n
 | .uuid,.bytes (some l)=>l.length=16
 | .text,.bytes (some l)=>wE fx l
 | .ntext,.bytes none=>True
 | .ntext,.bytes (some l)=>wE fx l
 | .ntextFrom N,.bytes none=>N<=ver
 | .ntextFrom _,.bytes (some l)=>wE fx l
 | .bytes,.bytes (some l)=>yQ fx l
 | .nbytes,.bytes none=>True
 | .nbytes,.bytes (some l)=>yQ fx l
 | .list _ null _,.list none=>null=none\/∃ N,null=some N/\N<=ver
 | .list _ null e,.list (some l)=>(null=none->l≠[])/\l.length<2147483648/\∀ d ∈ l,e.good fx ver d
 | .struct _ _ _ fs,.obj l tags=>fs.good fx ver l tags
 | .nstruct _ _ _ _ _,.list none=>True
 | .nstruct _ _ _ fs _,.list (some [.obj l tags])=>fs.good fx ver l tags
 | _,_=>False
def Flds.good (fx:Bool) (ver:Nat):Flds->List D->List (Nat × List UInt8)->Prop
 | .nil _,[],tags=>if fx then kR tags else tags=[]
 | .cons v t r,d::l,tags=>(if v.has ver then t.good fx ver d else v.okD fx (d=t.dflt) (t.good fx ver d) (t.isD d) tags)/\r.good fx ver l (v.addTag fx (t.isD d) (t.wr fx ver d) tags)
 | _,_,_=>False
end
mutual
def Ty.pos (fx:Bool) (ver:Nat):Ty->Bool
 | .struct _ _ _ fs=>fs.pos fx ver
 | _=>true
def Flds.pos (fx:Bool) (ver:Nat):Flds->Bool
 | .nil _=>fx
 | .cons v t r=>(v.has ver&&t.pos fx ver)||r.pos fx ver
end
def Ty.dfG:Ty->Bool
 | .scal c df=>(c.rd (c.wr df,false)).1==df
 | .list _ none _=>true
 | _=>false
mutual
def Ty.lp (fx:Bool) (ver:Nat):Ty->Bool
 | .list _ _ e=>e.pos fx ver&&e.lp fx ver
 | .struct _ _ _ fs | .nstruct _ _ _ fs _=>fs.lp fx ver
 | _=>true
def Flds.lp (fx:Bool) (ver:Nat):Flds->Bool
 | .nil _=>true
 | .cons v t r=>((!v.has ver && !v.isTag)||t.lp fx ver)&&(!v.isTag||t.dfG)&&r.lp fx ver
end
theorem Scal.wr_pos (k:Scal) (n:Int):1<=(k.wr n).length:=by
 cases k<;>simp[Scal.wr,qG]
theorem jq (n:Nat):1<=(Go.Km.uvar n).length:=vh 9 n
theorem vf (fx:Bool) (l:List UInt8):1<=(xS fx l).length:=by
 unfold xS
 cases fx
 ·simp[qG];omega
 ·have:=jq (l.length+1)
  simp;omega
theorem wrBytes_pos (fx:Bool) (l:List UInt8):1<=(xa fx l).length:=by
 unfold xa
 cases fx
 ·simp[qG];omega
 ·have:=jq (l.length+1)
  simp;omega
theorem wrLen_pos (fx:Bool) (n:Nat):1<=(zg fx n).length:=by
 unfold zg
 cases fx
 ·simp[qG]
 ·exact jq _
theorem wrNull_pos (fx:Bool):1<=(j7 fx).length:=by
 cases fx<;>simp[j7,qG]
mutual
theorem Ty.wr_pos (fx:Bool) (ver:Nat):∀ (t:Ty) (d:D),t.pos fx ver=true->t.good fx ver d->1<=(t.wr fx ver d).length
 | .scal s _,d,hp,h | .named s _ _,d,hp,h=>by
  cases d<;>simp only[Ty.good] at h
  simp only[Ty.wr]
  exact s.wr_pos _
 | .uuid,d,hp,h=>by
  cases d with
  | bytes o =>
   cases o<;>simp only[Ty.good] at h
   simp only[Ty.wr];omega
  | _=>simp only[Ty.good] at h
 | .text,d,hp,h=>by
  cases d with
  | bytes o =>
   cases o<;>simp only[Ty.good] at h
   simp only[Ty.wr];exact vf _ _
  | _=>simp only[Ty.good] at h
 | .ntext,d,hp,h=>by
  cases d with
  | bytes o =>
   simp only[Ty.wr]
   cases o with
   | none=>cases fx<;>simp[xK,qG]
   | some l=>exact vf _ _
  | _=>simp only[Ty.good] at h
 | .ntextFrom N,d,hp,h=>by
  cases d with
  | bytes o =>
   simp only[Ty.wr]
   split
   ·exact vf _ _
   ·cases o with
    | none=>cases fx<;>simp[xK,qG]
    | some l=>exact vf _ _
  | _=>simp only[Ty.good] at h
 | .bytes,d,hp,h=>by
  cases d with
  | bytes o=>simp only[Ty.wr];exact wrBytes_pos _ _
  | _=>simp only[Ty.good] at h
 | .nbytes,d,hp,h=>by
  cases d with
  | bytes o =>
   simp only[Ty.wr]
   cases o with
   | none=>cases fx<;>simp[xj,qG]
   | some l=>exact wrBytes_pos _ _
  | _=>simp only[Ty.good] at h
 | .list _ null e,d,hp,h=>by
  cases d with
  | list o =>
   cases o with
   | none =>
    simp only[Ty.wr]
    split
    ·exact wrNull_pos _
    ·exact wrLen_pos _ _
   | some l =>
    simp only[Ty.wr,List.length_append]
    have:=wrLen_pos fx l.length
    omega
  | _=>simp only[Ty.good] at h
 | .struct _ _ _ fs,d,hp,h=>by
  cases d with
  | obj l tags =>
   simp only[Ty.good] at h
   simp only[Ty.pos] at hp
   simp only[Ty.wr]
   exact Flds.wr_pos fx ver fs l tags hp h
  | _=>simp only[Ty.good] at h
 | .nstruct _ _ _ fs _,d,hp,h=>by
  cases d with
  | list o =>
   rcases o with _ | ⟨_ | ⟨d0,_ | ⟨d1,r⟩⟩⟩
   ·simp[Ty.wr]
   ·simp only[Ty.good] at h
   ·cases d0<;>simp only[Ty.good] at h
    simp[Ty.wr]
   ·cases d0<;>simp only[Ty.good] at h
  | _=>simp only[Ty.good] at h
theorem Flds.wr_pos (fx:Bool) (ver:Nat):∀ (fs:Flds) (l:List D) (tags:List (Nat × List UInt8)),fs.pos fx ver=true->fs.good fx ver l tags->1<=(fs.wr fx ver l tags).length
 | .nil _,l,tags,hp,h=>by
  simp only[Flds.pos] at hp
  subst hp
  simp only[Flds.wr,if_true,zQ,List.length_append]
  have:=jq tags.length
  omega
 | .cons v t r,[],tags,hp,h=>by simp[Flds.good] at h
 | .cons v t r,d::l,tags,hp,h=>by
  simp only[Flds.good] at h
  simp only[Flds.pos,Bool.or_eq_true,Bool.and_eq_true] at hp
  simp only[Flds.wr,List.length_append]
  rcases hp with ⟨hv,hp⟩ | hp
  ·simp only[hv,if_true] at h ⊢
   have:=Ty.wr_pos fx ver t d hp h.1
   omega
  ·have:=Flds.wr_pos fx ver r l _ hp h.2
   omega
end
theorem jv (l r:List UInt8):qq (l.length:Int) (l++r,false)=(l,r,false):=by
 unfold qq
 rw[if_neg (by simp;omega)]
 simp
theorem rdL_wr {fx:Bool} {n:Nat} (h:if fx then n+1<4294967296 else n<=32767) (r:List UInt8):rdL fx ((if fx then Go.Km.uvar (n+1) else be 2 n)++r,false)=((n:Int),r,false):=by
 cases fx with
 | true =>
  simp only[if_true] at h ⊢
  simp only[rdL,if_true,zG,zC h]
  congr 1
  omega
 | false =>
  simp only[Bool.false_eq_true,if_false] at h ⊢
  simp only[rdL,Bool.false_eq_true,if_false,vW,jw]
  rw[j9 (k:=2) (by decide) zS (by simp;omega)]
theorem rdLB_wr {fx:Bool} {n:Nat} (h:if fx then n+1<4294967296 else n<2147483648) (r:List UInt8):xX fx ((if fx then Go.Km.uvar (n+1) else be 4 n)++r,false)=((n:Int),r,false):=by
 cases fx with
 | true =>
  simp only[if_true] at h ⊢
  simp only[xX,if_true,zG,zC h]
  congr 1
  omega
 | false =>
  simp only[Bool.false_eq_true,if_false] at h ⊢
  simp only[xX,Bool.false_eq_true,if_false,jy,jw]
  rw[j9 (k:=4) (by decide) zS (by simp;omega)]
theorem wrap_i32_ok {n:Nat} (h:n<2147483648):IntKind.i32.wrap (IntKind.i32.wrap ((n+1:Nat):Int)-1)=(n:Int):=by
 have h2:(2:Int) ^ 32=4294967296:=by decide
 have h3:(2:Int) ^ (32-1)=2147483648:=by decide
 simp only[IntKind.wrap,IntKind.bits,IntKind.signed,Bool.true_and,decide_eq_true_eq,h2,h3]
 split<;>split<;>omega
theorem rdCn_wr {fx:Bool} {n:Nat} (h:n<2147483648) {r:List UInt8} (hr:n<=r.length):xp fx (zg fx n++r,false)=((n:Int),r,false):=by
 cases fx with
 | true =>
  simp only[xp,zg,if_true,rdCc,zC (show n+1<4294967296 by omega)]
  rw[wrap_i32_ok h]
  simp only[z5]
  rw[if_neg zH]
 | false =>
  simp only[xp,zg,Bool.false_eq_true,if_false,rdC4,jy,jw]
  rw[j9 (k:=4) (by decide) zS (by simp;omega)]
  simp only[z5]
  rw[if_neg zH]
theorem rdCn_null {fx : Bool} {r : List UInt8} : xp fx (j7 fx ++ r, false) = (-1, r, false) := by
  cases fx with
  | true =>
    have e : ([0] : List UInt8) = Go.Km.uvar 0 := rfl
    simp only [xp, j7, if_true, rdCc, e, zC (show 0 < 4294967296 by omega)]
    simp only [z5]
    rw [if_neg (by have : IntKind.i32.wrap (IntKind.i32.wrap ((0 : Nat) : Int) - 1) = -1 := by decide
                   rw [this]; omega)]
    rfl
  | false =>
    simp only [xp, j7, Bool.false_eq_true, if_false, rdC4, jy, jw]
    rw [j9 (k := 4) (by decide) zS zS]
    simp only [z5]
    rw [if_neg zH]
theorem wrStr_rd {fx:Bool} {l:List UInt8} (h:wE fx l) (r:List UInt8):zp (rdL fx (xS fx l++r,false))=(l,r,false):=by
 unfold xS
 rw[List.append_assoc,rdL_wr h]
 exact jv l r
theorem wrNStr_rd {fx:Bool} {l:List UInt8} (h:wE fx l) (r:List UInt8):qP (rdL fx (xS fx l++r,false))=(some l,r,false):=by
 unfold xS
 rw[List.append_assoc,rdL_wr h]
 unfold qP
 rw[if_neg zS]
 simp only[jv]
theorem wrNStr_rd0 {fx:Bool} (r:List UInt8):qP (rdL fx (xK fx none++r,false))=(none,r,false):=by
 cases fx with
 | true =>
  have e:([0]:List UInt8)=Go.Km.uvar 0:=rfl
  simp only[rdL,xK,if_true,zG,e,zC (show 0<4294967296 by omega)]
  rfl
 | false =>
  simp only[rdL,xK,Bool.false_eq_true,if_false,vW,jw]
  rw[j9 (k:=2) (by decide) zS zS]
  rfl
theorem wrBytes_rd {fx:Bool} {l:List UInt8} (h:yQ fx l) (r:List UInt8):xL (xX fx (xa fx l++r,false))=(some l,r,false):=by
 unfold xa
 rw[List.append_assoc,rdLB_wr h]
 unfold xL
 rw[if_neg zS]
 simp only[jv]
theorem wrNBytes_rd {fx:Bool} {l:List UInt8} (h:yQ fx l) (r:List UInt8):qP (xX fx (xa fx l++r,false))=(some l,r,false):=by
 unfold xa
 rw[List.append_assoc,rdLB_wr h]
 unfold qP
 rw[if_neg zS]
 simp only[jv]
theorem wrNBytes_rd0 {fx:Bool} (r:List UInt8):qP (xX fx (xj fx none++r,false))=(none,r,false):=by
 cases fx with
 | true =>
  have e:([0]:List UInt8)=Go.Km.uvar 0:=rfl
  simp only[xX,xj,if_true,zG,e,zC (show 0<4294967296 by omega)]
  rfl
 | false =>
  simp only[xX,xj,Bool.false_eq_true,if_false,jy,jw]
  rw[j9 (k:=4) (by decide) zS zS]
  rfl
theorem yI:∀ (acc:List (Nat × List UInt8)) (k:Nat) (v:List UInt8),(∀ x ∈ acc,x.1<k)->qv k v acc=acc++[(k,v)]
 | [],k,v,h=>rfl
 | x::l,k,v,h=>by
  have h1:=h x zS
  simp only[qv]
  rw[if_neg zH,if_neg zH,yI l k v (fun y hy=>h y (by simp[hy]))]
  rfl
theorem rdTag_wr {x:Nat × List UInt8} (h1:x.1<4294967296) (h2:x.2.length<4294967296) (r:List UInt8):xn (qT x++r,false)=(x,r,false):=by
 unfold qT xn
 simp only[List.append_assoc,zC h1,zC h2,jv]
theorem kc (k:Nat) (v:List UInt8):∀ l x,x ∈ qv k v l->x=(k,v)\/x ∈ l
 | [],x,h=>by simpa [qv] using h
 | y::l,x,h=>by
  simp only[qv] at h
  split at h
  ·simpa using h
  ·split at h
   ·rcases List.mem_cons.1 h with h | h
    ·exact .inl h
    ·exact .inr (by simp[h])
   ·rcases List.mem_cons.1 h with h | h
    ·exact .inr (by simp[h])
    ·rcases kc k v l x h with h | h
     ·exact .inl h
     ·exact .inr (by simp[h])
theorem rdTagsNK_wr {ck:Nat->List UInt8->Bool}:∀ (tags acc:List (Nat × List UInt8)) (r:List UInt8),(∀ x ∈ tags,ck x.1 x.2=true)->(∀ x ∈ tags,x.1<4294967296)->(∀ x ∈ tags,x.2.length<4294967296)->tags.Pairwise (fun x y=>x.1<y.1)->(∀ x ∈ acc,∀ y ∈ tags,x.1<y.1) →
  qC ck tags.length acc ((tags.map qT).flatten++r,false)=(acc++tags,r,false)
 | [],acc,r,_,_,_,_,_=>by simp[qC]
 | x::tags,acc,r,h0,h1,h2,h3,h4=>by
  simp only[List.length_cons,List.map_cons,List.flatten_cons,List.append_assoc]
  unfold qC
  rw[rdTag_wr (h1 x zS) (h2 x zS)]
  simp only
  rw[yI acc x.1 x.2 (fun y hy=>h4 y hy x zS),h0 x zS]
  have h5:=List.pairwise_cons.1 h3
  simp only[Bool.not_true,Bool.or_self]
  rw[rdTagsNK_wr tags (acc++[(x.1,x.2)]) r (fun y hy=>h0 y (by simp[hy])) (fun y hy=>h1 y (by simp[hy])) (fun y hy=>h2 y (by simp[hy])) h5.2 ?_]
  ·simp
  ·intro y hy z hz
   rcases List.mem_append.1 hy with hy | hy
   ·exact h4 y hy z (by simp[hz])
   ·simp only[List.mem_cons,List.not_mem_nil,or_false] at hy
    subst hy
    exact h5.1 z hz
theorem rdTagsK_wr {ck:Nat->List UInt8->Bool} {tags:List (Nat × List UInt8)} (hc:∀ x ∈ tags,ck x.1 x.2=true) (h:kR tags) (r:List UInt8):zw ck (zQ tags++r,false)=(tags,r,false):=by
 obtain ⟨⟨h1,h2⟩,h3,h4⟩:=h
 unfold zw zQ
 simp only[List.append_assoc,zC h3]
 have:=rdTagsNK_wr tags [] r hc h2 h4 h1 (fun x hx=>by simp at hx)
 simpa using this
theorem setTag_find {k:Nat} {p:List UInt8}:∀ {l:List (Nat × List UInt8)},(∀ x ∈ l,x.1≠k)->(qv k p l).find? (fun x=>x.1==k)=some (k,p)/\(qv k p l).filter (fun x=>x.1 != k)=l
 | [],_=>by simp[qv]
 | x::l,h=>by
  have hx:=h x zS
  have hl:∀ y ∈ l,y.1≠k:=fun y hy=>h y (by simp[hy])
  have hfl:l.filter (fun x=>x.1 != k)=l:=List.filter_eq_self.2 (fun y hy=>by simpa using hl y hy)
  simp only[qv]
  split
  ·simp[hx,hfl]
  ·rw[if_neg (fun e=>hx e.symm)]
   have ih:=setTag_find (k:=k) (p:=p) hl
   simp[hx,ih.1,ih.2]
theorem noTag_find {k:Nat} {l:List (Nat × List UInt8)} (h:∀ x ∈ l,x.1≠k):l.find? (fun x=>x.1==k)=none/\l.filter (fun x=>x.1 != k)=l :=
 ⟨List.find?_eq_none.2 (fun y hy=>by simpa using h y hy),List.filter_eq_self.2 (fun y hy=>by simpa using h y hy)⟩
theorem rdMany_wr {f:RSt->D × RSt} {g:D->List UInt8}:∀ (l:List D) (r:List UInt8),(∀ d ∈ l,∀ r,f (g d++r,false)=(d,r,false))->xf f l.length ((l.map g).flatten++r,false)=(l,r,false)
 | [],r,_=>by simp[xf]
 | d::l,r,h=>by
  simp only[List.length_cons,List.map_cons,List.flatten_cons,List.append_assoc,xf]
  rw[h d zS]
  simp only
  rw[rdMany_wr l r (fun d hd=>h d (by simp[hd]))]
theorem flat_len {g:D->List UInt8}:∀ (l:List D),(∀ d ∈ l,1<=(g d).length)->l.length<=(l.map g).flatten.length
 | [],_=>by simp
 | d::l,h=>by
  have h1:=h d zS
  have h2:=flat_len l (fun d hd=>h d (by simp[hd]))
  simp only[List.length_cons,List.map_cons,List.flatten_cons,List.length_append]
  omega
mutual
theorem Ty.rd_wr (fx:Bool) (ver:Nat):∀ (t:Ty) (d:D) (r:List UInt8),t.lp fx ver=true->t.good fx ver d->t.rd fx ver (t.wr fx ver d++r,false)=(d,r,false)
 | .scal s _,d,r,hp,h | .named s _ _,d,r,hp,h=>by
  cases d<;>simp only[Ty.good] at h
  simp only[Ty.wr,Ty.rd,Scal.rd_wr h]
 | .uuid,d,r,hp,h=>by
  cases d with
  | bytes o =>
   cases o with
   | none=>simp only[Ty.good] at h
   | some l =>
    simp only[Ty.good] at h
    simp only[Ty.wr,Ty.rd]
    have:=jv l r
    rw[h] at this
    rw[show ((16:Nat):Int)=16 from rfl] at this
    rw[this]
  | _=>simp only[Ty.good] at h
 | .text,d,r,hp,h=>by
  cases d with
  | bytes o =>
   cases o with
   | none=>simp only[Ty.good] at h
   | some l =>
    simp only[Ty.good] at h
    simp only[Ty.wr,Ty.rd,wrStr_rd h]
  | _=>simp only[Ty.good] at h
 | .ntext,d,r,hp,h=>by
  cases d with
  | bytes o =>
   cases o with
   | none=>simp only[Ty.wr,Ty.rd,wrNStr_rd0]
   | some l =>
    simp only[Ty.good] at h
    simp only[Ty.wr,Ty.rd,xK,wrNStr_rd h]
  | _=>simp only[Ty.good] at h
 | .ntextFrom N,d,r,hp,h=>by
  cases d with
  | bytes o =>
   cases o with
   | none =>
    simp only[Ty.good] at h
    have hN:¬ ver<N:=by omega
    simp only[Ty.wr,Ty.rd,if_neg hN,wrNStr_rd0]
   | some l =>
    simp only[Ty.good] at h
    simp only[Ty.wr,Ty.rd]
    by_cases hN:ver<N
    ·simp only[if_pos hN,Option.getD_some,wrStr_rd h]
    ·simp only[if_neg hN,xK,wrNStr_rd h]
  | _=>simp only[Ty.good] at h
 | .bytes,d,r,hp,h=>by
  cases d with
  | bytes o =>
   cases o with
   | none=>simp only[Ty.good] at h
   | some l =>
    simp only[Ty.good] at h
    simp only[Ty.wr,Ty.rd,Option.getD_some,wrBytes_rd h]
  | _=>simp only[Ty.good] at h
 | .nbytes,d,r,hp,h=>by
  cases d with
  | bytes o =>
   cases o with
   | none=>simp only[Ty.wr,Ty.rd,wrNBytes_rd0]
   | some l =>
    simp only[Ty.good] at h
    simp only[Ty.wr,Ty.rd,xj,wrNBytes_rd h]
  | _=>simp only[Ty.good] at h
 | .list TS null e,d,r,hp,h=>by
  simp only[Ty.lp,Bool.and_eq_true] at hp
  cases d with
  | list o =>
   cases o with
   | none =>
    simp only[Ty.good] at h
    simp only[Ty.wr,Ty.rd]
    rcases h with rfl | ⟨N,rfl,hN⟩
    ·simp only[Option.isSome_none,Bool.false_eq_true,if_false]
     rw[rdCn_wr (by decide) (Nat.zero_le _)]
     simp[jB]
    ·simp only[Option.isSome_some,if_true,rdCn_null]
     have:¬ ver<N:=by omega
     simp[jB,this]
   | some l =>
    simp only[Ty.good] at h
    obtain ⟨h0,h1,h2⟩:=h
    have hfl:=flat_len (g:=fun d=>e.wr fx ver d) l (fun d hd=>Ty.wr_pos fx ver e d hp.1 (h2 d hd))
    simp only[Ty.wr,Ty.rd,List.append_assoc]
    rw[rdCn_wr h1 (by simp only[List.length_append];omega)]
    simp only[Bool.false_eq_true,if_false]
    cases l with
    | nil =>
     have hnl:null≠none:=fun hh=>h0 hh rfl
     obtain ⟨N,rfl⟩:=Option.ne_none_iff_exists'.1 hnl
     simp[jB]
    | cons d l =>
     rw[if_neg (by simp only[List.length_cons];omega),Int.toNat_natCast]
     rw[rdMany_wr (f:=fun s=>e.rd fx ver s) (g:=fun d=>e.wr fx ver d) (d::l) r (fun d hd r=>Ty.rd_wr fx ver e d r hp.2 (h2 d hd))]
  | _=>simp only[Ty.good] at h
 | .struct _ _ _ fs,d,r,hp,h=>by
  cases d with
  | obj l tags =>
   simp only[Ty.good] at h
   simp only[Ty.lp] at hp
   simp only[Ty.wr,Ty.rd,Flds.rd_wr fx ver fs l tags r noK hp h (fun _ _ _=>rfl)]
  | _=>simp only[Ty.good] at h
 | .nstruct _ _ _ fs _,d,r,hp,h=>by
  have e1:∀ (r:List UInt8),Scal.i8.rd (255::r,false)=(-1,(r,false)):=fun r=>by
   have:=Scal.rd_wr (k:=.i8) (n:=-1) (by simp[Scal.ok]) r
   rwa [show Scal.i8.wr (-1)=[255] by decide] at this
  have e2:∀ (r:List UInt8),Scal.i8.rd (1::r,false)=(1,(r,false)):=fun r=>by
   have:=Scal.rd_wr (k:=.i8) (n:=1) (by simp[Scal.ok]) r
   rwa [show Scal.i8.wr 1=[1] by decide] at this
  cases d with
  | list o =>
   rcases o with _ | ⟨_ | ⟨d0,_ | ⟨d1,r⟩⟩⟩
   ·simp only[Ty.wr,Ty.rd,List.cons_append,List.nil_append,e1,true_or,if_true]
   ·simp only[Ty.good] at h
   ·cases d0<;>simp only[Ty.good] at h
    simp only[Ty.lp] at hp
    simp only[Ty.wr,Ty.rd,List.cons_append,e2,Bool.false_eq_true,or_false]
    rw[if_neg (by decide),Flds.rd_wr fx ver fs _ _ r noK hp h (fun _ _ _=>rfl)]
   ·cases d0<;>simp only[Ty.good] at h
  | _=>simp only[Ty.good] at h
theorem Flds.rd_wr (fx:Bool) (ver:Nat):∀ (fs:Flds) (l:List D) (tags:List (Nat × List UInt8)) (r:List UInt8) (ck:Nat->List UInt8->Bool),fs.lp fx ver=true->fs.good fx ver l tags->(fx=true->∀ x ∈ tags,ck x.1 x.2=true)->fs.rd fx ver ck (fs.wr fx ver l tags++r,false)=(l,tags,r,false)
 | .nil _,[],tags,r,ck,hp,h,hck=>by
  simp only[Flds.good] at h
  cases fx with
  | true =>
   simp only[if_true] at h
   simp only[Flds.wr,Flds.rd,if_true,rdTagsK_wr (hck rfl) h]
  | false =>
   simp only[Bool.false_eq_true,if_false] at h
   subst h
   simp[Flds.wr,Flds.rd]
 | .nil _,_::_,tags,r,ck,hp,h,hck=>by simp[Flds.good] at h
 | .cons v t r',[],tags,r,ck,hp,h,hck=>by simp[Flds.good] at h
 | .cons v t r',d::l,tags,r,ck,hp,h,hck=>by
  simp only[Flds.good] at h
  simp only[Flds.lp,Bool.and_eq_true,Bool.or_eq_true,Bool.not_eq_true'] at hp
  obtain ⟨h1,h2⟩:=h
  simp only[Flds.wr,Flds.rd,List.append_assoc]
  cases hv:v.has ver with
  | true =>
   have hnt:=Ver.has_noTag hv
   simp only[hv,if_true,Ver.addTag_no hnt] at h1 h2 ⊢
   have hpt:t.lp fx ver=true:=by
    rcases hp.1.1 with h | h
    ·rw[hv] at h;cases h.1
    ·exact h
   rw[Ty.rd_wr fx ver t d _ hpt h1]
   simp only
   rw[Flds.rd_wr fx ver r' l tags r ck hp.2 h2 hck]
  | false =>
   simp only[hv,Bool.false_eq_true,if_false,List.nil_append] at h1 ⊢
   cases htg:v.isTag with
   | false =>
    rw[Ver.okD_no htg] at h1
    subst h1
    rw[Ver.addTag_no htg] at h2 ⊢
    simp only[Ver.ckT_no htg,Ver.getT_no htg,Ver.dropT_no htg]
    rw[Flds.rd_wr fx ver r' l tags r ck hp.2 h2 hck]
   | true =>
    cases v with
    | tag k lb =>
     simp only[Ver.okD] at h1
     obtain ⟨h1,hk⟩:=h1
     simp only[Ver.addTag] at h2 ⊢
     have hpt:t.lp fx ver=true:=by
      rcases hp.1.1 with h | h
      ·cases h.2
      ·exact h
     cases fx with
     | false =>
      simp only[Bool.false_eq_true,if_false] at h1
      simp only[Bool.false_and,Bool.false_eq_true,if_false] at h2 ⊢
      rw[Flds.rd_wr false ver r' l tags r _ hp.2 h2 (fun h=>by cases h)]
      simp only[Ver.getT,Ver.dropT,noTag_find hk,h1]
     | true =>
      simp only[if_true] at h1
      cases hD:t.isD d with
      | true =>
       simp only[hD,Bool.not_true,Bool.and_false,Bool.false_eq_true,if_false] at h2 ⊢
       rw[Flds.rd_wr true ver r' l tags r _ hp.2 h2 (fun _ x hx=>by simp only[Ver.ckT,if_neg (hk x hx)];exact hck rfl x hx)]
       simp only[Ver.getT,Ver.dropT,noTag_find hk,h1.2 hD]
      | false =>
       simp only[hD,Bool.not_false,Bool.and_true,if_true] at h2 ⊢
       have e0:=Ty.rd_wr true ver t d [] hpt h1.1
       rw[List.append_nil] at e0
       rw[Flds.rd_wr true ver r' l _ r _ hp.2 h2 (fun _ x hx=>by
        rcases kc _ _ _ x hx with rfl | hx
        ·simp only[Ver.ckT,if_true,e0,Bool.not_false]
        ·simp only[Ver.ckT,if_neg (hk x hx)];exact hck rfl x hx)]
       simp only[Ver.getT,Ver.dropT,setTag_find hk,e0]
    | _=>cases htg
end
end Go.Km
