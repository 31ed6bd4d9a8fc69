/- The reader's Uvarint, Span, Int8, Bool, Int64, Ok. The reader's other methods. The reader's methods for texts, octets, counts. The reader's methods for octets and counts. What the spec's functions compute, in plain Lean. The reader: a list is made; what is read, as a plain function. kmsg's Default: what it does to the cells of a struct. kmsg's small functions: Default, NewPtr, MaxVersion, SetVersion. The reader's walk: what is asked of the shapes, the state, the leaves. All of kbin's reading together. The reader's walk: the leaves. The reader's walk: a leaf into memory; a struct. The reader's Uuid. The reader's walk: a list's head. The reader's walk: a list. The reader's walk: a list's head and loop. The reader's walk: lists. The reader's walk: a list as a whole. Tags: the map of tags; Set. -/
import Derived.Test.YtlcamogfjoneiaaDoorKb01
import Derived.Test.YtlcamogfjoneiaaDoorKb02
import Derived.Lib.BufferRead
import Derived.Laws.IdiomStrings
import Derived.Laws.IdiomCopy
import Derived.Maps.RangeRun
set_option maxHeartbeats 4000000
set_option linter.unusedSimpArgs false
set_option linter.unusedVariables false
namespace Go.Km
open Go Go.RowKit
attribute [local irreducible] vc rO_ qz qI qF
def qr (l:Int) (st:RSt):List UInt8 × RSt:=if (st.1.length:Int)<l\/l<0 then ([],[],true) else (st.1.take l.toNat,st.1.drop l.toNat,st.2)
section
variable {P : Program} {E : Env}
theorem k_rUvar (H:REnv P E) (hu:qs P E.tW=some .u32) (hk:Text P E.kUv 1 87 #[.tmp 2,.tmp 3] (c_kUv E)) (ht:Text P E.rUvar 1 31 #[.tmp 2] (c_rUvar E)) {rb sb:Nat} {st:RSt} {W:World} (hr:RdS W rb sb st) :
  RdC P E.rUvar rb sb (qp st).2 (.int .u32 ((qp st).1:Int)) W:=by
 refine qa.enter ht (by simp) ?_
 intro a hsz hdf harg
 have e0:=harg 0 (.pointer (some ⟨rb,0,none⟩)) (by simp)
 obtain ⟨v,hc,hsv⟩:=hr.cells
 unfold c_rUvar
 refine vX (rA (dn (vX (rM ?_))))
 refine qV (ad:=⟨rb,0,none⟩) (by simp (disch:=(try simp only[sP]);omega) only[eV,e0]) ?_
 refine rF (b:=rb) (o:=0) (by simp (disch:=(try simp only[sP]);omega) only[eV]) H.f0 ?_
 refine rL (b:=rb) (o:=0+0) (v:=v) (by simp (disch:=(try simp only[sP]);omega) only[eV]) H.oBytes (hc 0 v rfl) ?_
 refine q8 (args:=#[v]) ?_ (k_uv H hu hk hsv) ?_
 ·simp only[lM]
  simp (disch:=(try simp only[sP]);omega) only[eV]
 rintro x w' ⟨rfl,va,n,rfl,hres⟩
 refine rM ?_
 refine qk (vs:=#[.int .u32 va,.int .i64 n]) (v:=.int .u32 va) (by simp (disch:=(try simp only[sP]);omega) only[eV]) rfl ?_
 refine qk (vs:=#[.int .u32 va,.int .i64 n]) (v:=.int .i64 n) (by simp (disch:=(try simp only[sP]);omega) only[eV]) rfl ?_
 refine rA (rA (dn (vS (vX (rM ?_)))))
 refine vO (k:=.i64) (m:=n) (n:=0) (by simp (disch:=(try simp only[sP]);omega) only[eV]) rfl ?_
 refine dn ?_
 cases hd:xU 0 0 st.1 with
 | none =>
  rw[hd] at hres
  simp only at hres
  obtain ⟨rfl,hn⟩:=hres
  have e:qp st=(0,[],true):=by simp[qp,hd]
  rw[e]
  refine vS (vC (t:=true) ?_ ?_ (fun h=>by cases h))
  ·simp (disch:=(try simp only[sP]);omega) only[eV]
   simp only[Value.bool.injEq,decide_eq_true_eq]
   omega
  intro _
  refine wZ (t:=15) (X:=2) (zv:=.int .u32 0) H (by simp only[zP];omega) (by simp only[zP];omega) (by decide) (by decide) rfl (by simp (disch:=(try simp only[sP]);omega) only[eV,e0]) hr ?_
  intro A' W' h1 h2 h3 h4
  exact ⟨by rw[h1];simp only[dF];exact hdf,_,rO h2,rfl,h3,h4,fun h=>by cases h⟩
 | some p =>
  obtain ⟨val,k⟩:=p
  rw[hd] at hres
  simp only at hres
  obtain ⟨rfl,rfl⟩:=hres
  have hlt:=uvDec_lt st.1 0 0 val k (by decide) (by decide) hd
  have e:qp st=(val,st.1.drop k,st.2):=by simp[qp,hd]
  rw[e]
  refine vS (vC (t:=false) ?_ (fun h=>by cases h) ?_)
  ·simp (disch:=(try simp only[sP]);omega) only[eV]
   simp only[Value.bool.injEq,decide_eq_false_iff_not]
   omega
  intro _
  refine vK (vN (vX ?_))
  refine r_skipT (t:=21) (x:=4) (n:=k) (kk:=.i64) H (by simp only[zP];omega) (by decide) (by decide) (by omega) (by simp (disch:=(try simp only[sP]);omega) only[eV]) (by simp (disch:=(try simp only[sP]);omega) only[eV,e0]) hr ?_
  intro A2 W2 p1 p2 p3 p4 p5 p6
  simp only[zP,dF] at p1 p2
  refine dn ?_
  have h3:A2.eval (.tmp 3)=.int .u32 (val:Int):=by
   rw[p3 3 (by omega)]
   simp (disch:=(try simp only[sP]);omega) only[eV]
  refine vX (rM (rA (dn (vS (vT ?_)))))
  exact ⟨by simp only[dF];rw[p2];exact hdf,.int .u32 (val:Int),rO (by simp (disch:=(try simp only[sP]);omega) only[eV,h3]),rfl,p4,p5,fun _=>p6 (.inl (by omega))⟩
theorem k_rSpan (H:REnv P E) (ht:Text P E.rSpan 2 40 #[.tmp 4] (c_rSpan E)) {rb sb:Nat} {st:RSt} {l:Int} {W:World} (hr:RdS W rb sb st) :
  qa P E.rSpan #[.pointer (some ⟨rb,0,none⟩),.int .i64 l] W fun x w'=>j5 w' sb x (qr l st).1/\RdS w' rb sb (qr l st).2/\Eff (RM rb) W w'/\(NN W rb->(qr l st).2.2=false->NN w' rb/\∃ a n c,x=.slice (some a) n c):=by
 refine qa.enter ht (by simp) ?_
 intro a hsz hdf harg
 have e0:=harg 0 (.pointer (some ⟨rb,0,none⟩)) (by simp)
 have e1:=harg 1 (.int .i64 l) (by simp)
 obtain ⟨v,hc,hsv⟩:=hr.cells
 obtain ⟨ad,cap,hv,hcap⟩:=hsv.form
 have hsl:=rB H.row
 unfold c_rSpan
 refine vX (rA (dn ?_))
 refine vS (vS (yL [0,1,2,3,4,5,6,7,8,9,10] rfl ?_))
 (refine rD rfl (wN rfl) ?_;refine rM ?_;refine dn (rT ?_))
 refine rD rfl (wN rfl) (qV (ad:=⟨rb,0,none⟩) (by simp (disch:=(try simp only[sP]);omega) only[eV,e0]) (dn (rT ?_)))
 refine rD rfl (wN rfl) (rF (b:=rb) (o:=0) (by simp (disch:=(try simp only[sP]);omega) only[eV]) H.f0 (dn (rT ?_)))
 refine rD rfl (wN rfl) (rL (b:=rb) (o:=0+0) (v:=v) (by simp (disch:=(try simp only[sP]);omega) only[eV]) H.oBytes (hc 0 v rfl) (dn (rT ?_)))
 refine rD rfl (wN rfl) (qY (ad:=ad) (n:=st.1.length) (c:=cap) hsl (by simp (disch:=(try simp only[sP]);omega) only[eV,hv]) (dn (rT ?_)))
 (refine rD rfl (wN rfl) ?_;refine rM ?_;refine dn (rT ?_))
 refine rD rfl (wN rfl) (qW (k:=.i64) (m:=(st.1.length:Int)) (n:=l) (by simp (disch:=(try simp only[sP]);omega) only[eV]) (by simp (disch:=(try simp only[sP]);omega) only[eV,e1]) (dn (rT ?_)))
 have short:∀ A:Act,A.tmps.size=40->A.defers=[]->A.eval (.tmp 0)=.pointer (some ⟨rb,0,none⟩)->((st.1.length:Int)<l\/l<0)->∀ Q:Exit->Act->World->Prop,(∀ A' W',Out P #[.tmp 4] (fun x w'=>j5 w' sb x (qr l st).1/\RdS w' rb sb (qr l st).2/\Eff (RM rb) W w'/\(NN W rb->(qr l st).2.2=false->NN w' rb/\∃ a n c,x=.slice (some a) n c)) .ret A' W'->Q .ret A' W') →
   vc P (sq [(rg [(oQ 17 (.move (.tmp 0)) E.tPRd),
      (oQ 18 (.nilCheck (.tmp 17)) 0),
      (oQ 19 (.fieldAddr E.tRd (.tmp 18) 1) 0),
      ⟨none,.store E.tO (.tmp 19) (.const (.bool true)),0,"",#[],none⟩]),
     (rg [(oQ 20 (.move (.tmp 0)) E.tPRd),
      (oQ 21 (.nilCheck (.tmp 20)) 0),
      (oQ 22 (.fieldAddr E.tRd (.tmp 21) 0) 0),
      ⟨none,.store E.tB (.tmp 22) (.const (.slice none 0 0)),0,"",#[],none⟩]),
     (rg [(oQ 4 (.assign (.const (.slice none 0 0))) E.tB)]),
     .ret]) Q A W:=by
  intro A hs hd h0 hcond Q hQ
  refine wZ (t:=17) (X:=4) (zv:=.slice none 0 0) H (by omega) (by omega) (by decide) (by decide) rfl h0 hr ?_
  intro A' W' h1 h2 h3 h4
  have e:qr l st=([],[],true):=by unfold qr;rw[if_pos hcond]
  rw[e] at hQ
  exact hQ _ _ ⟨by rw[h1];exact hd,_,rO h2,.inl ⟨rfl,rfl⟩,h3,h4,fun _ h=>by cases h⟩
 by_cases h1:(st.1.length:Int)<l
 ·rw[show decide ((st.1.length:Int)<l)=true by simpa using h1]
  (refine rD rfl (wN rfl) ?_;refine rM ?_;refine dn (rT ?_))
  (refine x6 rfl (by rw[wS (b:=true) rfl rfl (by (try simp (disch:=(try simp only[sP]);omega) only[eV])<;>(first | rfl | assumption))];rfl) ?_)
  (refine x6 rfl (by rw[wS (b:=true) rfl rfl (by (try simp (disch:=(try simp only[sP]);omega) only[eV])<;>(first | rfl | assumption))];rfl) ?_)
  refine rD rfl (wN rfl) (x7 (by simp (disch:=(try simp only[sP]);omega) only[eV]) (dn (rT ?_)))
  refine qy ?_
  refine vS (vC (t:=true) (by simp (disch:=(try simp only[sP]);omega) only[eV]) ?_ (fun h=>by cases h))
  intro _
  exact short _ (by simp only[zP];exact hsz) (by simp only[dF];exact hdf) (by simp (disch:=(try simp only[sP]);omega) only[eV,e0]) (.inl h1) _ (fun _ _ h=>h)
 ·rw[show decide ((st.1.length:Int)<l)=false by simpa using h1]
  (refine rD rfl (wN rfl) ?_;refine rM ?_;refine dn (rT ?_))
  refine rD rfl (by rw[wS (b:=false) rfl rfl (by (try simp (disch:=(try simp only[sP]);omega) only[eV])<;>(first | rfl | assumption))];rfl) (rM (dn (rT ?_)))
  refine rD rfl (by rw[wS (b:=false) rfl rfl (by (try simp (disch:=(try simp only[sP]);omega) only[eV])<;>(first | rfl | assumption))];rfl) (qW (k:=.i64) (m:=l) (n:=0) (by simp (disch:=(try simp only[sP]);omega) only[eV,e1]) rfl (dn (rT ?_)))
  refine rD rfl (wN rfl) (xz (by simp (disch:=(try simp only[sP]);omega) only[eV]) (dn (rT ?_)))
  refine qy ?_
  refine vS (vC (t:=decide (l<0)) (by simp (disch:=(try simp only[sP]);omega) only[eV]) ?_ ?_)
  ·intro h2
   exact short _ (by simp only[zP];exact hsz) (by simp only[dF];exact hdf) (by simp (disch:=(try simp only[sP]);omega) only[eV,e0]) (.inr (by simpa using h2)) _ (fun _ _ h=>h)
  ·intro h2
   have h2':¬ l<0:=by simpa using h2
   obtain ⟨n,rfl⟩:∃ n:Nat,l=(n:Int):=⟨l.toNat,by omega⟩
   have hn:n<=st.1.length:=by omega
   have e:qr (n:Int) st=(st.1.take n,st.1.drop n,st.2):=by
    unfold qr
    rw[if_neg (by omega)]
    simp
   rw[e]
   refine vK (vN (vX (rM ?_)))
   refine qV (ad:=⟨rb,0,none⟩) (by simp (disch:=(try simp only[sP]);omega) only[eV,e0]) ?_
   refine rF (b:=rb) (o:=0) (by simp (disch:=(try simp only[sP]);omega) only[eV]) H.f0 ?_
   refine rL (b:=rb) (o:=0+0) (v:=v) (by simp (disch:=(try simp only[sP]);omega) only[eV]) H.oBytes (hc 0 v rfl) ?_
   refine rM (rM ?_)
   refine jV (ad:=ad) (len:=st.1.length) (cap:=cap) 0 n n hsl (by simp (disch:=(try simp only[sP]);omega) only[eV,hv]) rfl ⟨.i64,(by simp (disch:=(try simp only[sP]);omega) only[eV,e1])⟩ ⟨.i64,(by simp (disch:=(try simp only[sP]);omega) only[eV,e1])⟩ (Nat.zero_le _) (Nat.le_refl _) (by omega) ?_
   refine rA (dn ?_)
   generalize hsp:Value.slice (if n=0 then ad else ad.map (·.add (0*1))) (n-0) (n-0)=sp
   have hspV:∀ W',W'.heap[sb]? = W.heap[sb]?->j5 W' sb sp (st.1.take n):=by
    intro W' hk
    have hsv':=hsv.heap hk
    rcases hsv' with ⟨h3,h4⟩ | ⟨o,c,h3,h4,h5⟩
    ·have:n=0:=by rw[h4] at hn;simpa using hn
     subst this
     rw[h3] at hv
     simp only[Value.slice.injEq] at hv
     obtain ⟨rfl,_⟩:=hv
     exact .inl ⟨by rw[← hsp];rfl,by simp⟩
    ·rw[h3] at hv
     simp only[Value.slice.injEq,true_and] at hv
     obtain ⟨rfl,rfl⟩:=hv
     refine .inr ⟨o,n,?_,by rw[List.length_take];omega,?_⟩
     ·rw[← hsp,List.length_take,Nat.min_eq_left hn]
      simp[Addr.add_lit]
     ·rw[List.map_take]
      exact h5.take n
   refine vX ?_
   refine r_skipT (t:=30) (x:=1) (n:=n) (kk:=.i64) H (by simp only[zP];omega) (by decide) (by decide) hn (by simp (disch:=(try simp only[sP]);omega) only[eV,e1]) (by simp (disch:=(try simp only[sP]);omega) only[eV,e0]) hr ?_
   intro A2 W2 p1 p2 p3 p4 p5 p6
   simp only[zP,dF] at p1 p2
   refine dn ?_
   have h3:A2.eval (.tmp 5)=sp:=by
    rw[p3 5 (by omega)]
    simp (disch:=(try simp only[sP]);omega) only[eV]
   refine vX (rM (rA (dn (vS (vT ?_)))))
   refine ⟨by simp only[dF];rw[p2];exact hdf,sp,rO (by simp (disch:=(try simp only[sP]);omega) only[eV,h3]),hspV W2 ?_,p4,p5,fun hN _=>⟨p6 (.inr hN),?_⟩⟩
   ·exact p5.blockEq hr.lt (fun i h=>hr.ne h.1.symm)
   ·obtain ⟨a1,n1,c1,y1,hcn⟩:=hN
    have e1:=hc 0 v rfl
    have e2:=hcn 0 _ rfl
    rw[e1] at e2
    simp only[Option.some.injEq] at e2
    rw[hv] at e2
    simp only[Value.slice.injEq] at e2
    obtain ⟨rfl,_⟩:=e2
    rw[← hsp]
    split
    ·exact ⟨_,_,_,rfl⟩
    ·exact ⟨_,_,_,rfl⟩
end
end Go.Km
namespace Go.Km
open Go Go.RowKit
attribute [local irreducible] vc rO_ qz qI qF
theorem wX {k:Nat} {st:RSt} (h:(rdN k st).2.2=false):st.2=false:=by
 unfold rdN at h
 split at h
 ·cases h
 ·exact h
theorem zp {st:RSt} (h:(qp st).2.2=false):st.2=false:=by
 unfold qp at h
 split at h
 ·cases h
 ·exact h
theorem qO {l:Int} {st:RSt} (h:(qr l st).2.2=false):st.2=false:=by
 unfold qr at h
 split at h
 ·cases h
 ·exact h
def wm (st:RSt):Int × RSt:=(sgn 2 (rdN 2 st).1,(rdN 2 st).2)
def jD (st:RSt):Int × RSt:=(sgn 4 (rdN 4 st).1,(rdN 4 st).2)
def zR (st:RSt):Int × RSt:=(((qp st).1:Int)-1,(qp st).2)
def zz (p:Int × RSt):List UInt8 × RSt:=qr p.1 p.2
def qP (p:Int × RSt):Option (List UInt8) × RSt:=if p.1<0 then (none,p.2) else (some (qr p.1 p.2).1,(qr p.1 p.2).2)
def xN (p:Int × RSt):Option (List UInt8) × RSt:=if p.1 = -1 then (some [],p.2) else (some (qr p.1 p.2).1,(qr p.1 p.2).2)
def z8 (p:Int × RSt):Int × RSt:=if (p.2.1.length:Int)<p.1 then (0,[],true) else p
def rdC4 (st:RSt):Int × RSt:=z8 (jD st)
def rdCc (st:RSt):Int × RSt:=z8 (IntKind.i32.wrap (IntKind.i32.wrap ((qp st).1:Int)-1),(qp st).2)
abbrev CI16 (P:Program) (E:Env):Prop:=∀ (rb sb:Nat) (st:RSt) (W:World),RdS W rb sb st->RdC P E.rI16 rb sb (rdN 2 st).2 (.int .i16 (sgn 2 (rdN 2 st).1)) W
abbrev CI32 (P:Program) (E:Env):Prop:=∀ (rb sb:Nat) (st:RSt) (W:World),RdS W rb sb st->RdC P E.rI32 rb sb (rdN 4 st).2 (.int .i32 (sgn 4 (rdN 4 st).1)) W
abbrev CUv (P:Program) (E:Env):Prop:=∀ (rb sb:Nat) (st:RSt) (W:World),RdS W rb sb st->RdC P E.rUvar rb sb (qp st).2 (.int .u32 ((qp st).1:Int)) W
abbrev yH (P:Program) (E:Env):Prop:=∀ (rb sb:Nat) (st:RSt) (l:Int) (W:World),RdS W rb sb st->qa P E.rSpan #[.pointer (some ⟨rb,0,none⟩),.int .i64 l] W fun x w'=>j5 w' sb x (qr l st).1/\RdS w' rb sb (qr l st).2/\Eff (RM rb) W w'/\(NN W rb->(qr l st).2.2=false->NN w' rb/\∃ a n c,x=.slice (some a) n c)
def OctV (W:World) (sb B:Nat) (v:Value):Option (List UInt8)->Prop
 | none=>v=.slice none 0 0
 | some l=>∃ q o cap,v=.slice (some ⟨q,o,none⟩) l.length cap/\(q=sb\/B<=q)/\qb W q o (l.map bv)/\q<W.heap.size
theorem j5.octV {W:World} {sb B:Nat} {v:Value} {l:List UInt8} (h:j5 W sb v l) (hs:sb<W.heap.size):∃ o,OctV W sb B v o/\((∃ a n c,v=.slice (some a) n c)->o=some l):=by
 rcases h with ⟨rfl,rfl⟩ | ⟨o,c,rfl,_,h⟩
 ·exact ⟨none,rfl,fun ⟨_,_,_,h⟩=>by cases h⟩
 ·exact ⟨some l,⟨sb,o,c,rfl,.inl rfl,h,hs⟩,fun _=>rfl⟩
section
variable {P : Program} {E : Env} {a : Act} {w : World} {r : List Oper} {Q : Exit → Act → World → Prop}
theorem ka {d s t x ty p af g e v sb} {l:List UInt8} (hB:xd P s e 1=true) (he:qs P e=some .u8) (ht:strB P t=true) (hx:a.eval x=v) (hv:j5 w sb v l) (h:rO_ P Q r (a.put (some d) (.string ⟨l.toArray⟩)) w) :
  rO_ P Q (⟨some d,.convert s t x,ty,p,af,g⟩::r) a w:=by
 refine st ?_
 obtain ⟨hu,_⟩:=xM hB
 have he':P.underlying e=some (.int .u8):=by
  unfold qs at he
  split at he
  ·simp_all
  ·cases he
 have hr:(convert s t (a.eval x)).run P w=.ok (.string ⟨l.toArray⟩) w:=by
  rw[hx]
  rcases hv with ⟨rfl,rfl⟩ | ⟨o,cap,rfl,_,hc⟩
  ·exact Go.Lib.run_convert_nil_bytes w s t e 0 hu he' (ki ht)
  ·refine run_convert_bytes_back w s t e ⟨sb,o,none⟩ cap l hu he' (ki ht) (fun j hj=>?_)
   rw[Addr.add_lit]
   exact hc j _ (by rw[List.getElem?_map,List.getElem?_eq_getElem hj];rfl)
 simp only[Oper.wp,execOp,Sem.run_bind,hr,Sem.run_pure,Result.andThen_ok,Oper.upon_value]
 exact h
end
section
variable {P : Program} {E : Env} {rb sb : Nat} {st : RSt} {W : World}
theorem k_rI8 (H:REnv P E) (hi:qs P E.tI8=some .i8) (ht:Text P E.rI8 1 32 #[.tmp 2] (c_rI8 E)) (hr:RdS W rb sb st):RdC P E.rI8 rb sb (rdN 1 st).2 (.int .i8 (sgn 1 (rdN 1 st).1)) W:=by
 refine qa.enter ht (by simp) ?_
 intro a hsz hdf harg
 have e0:=harg 0 (.pointer (some ⟨rb,0,none⟩)) (by simp)
 unfold c_rI8
 refine jZ (k:=1) (zv:=.int .i8 0) H (by omega) rfl e0 hr ?_ ?_
 ·intro hlt A' W' h1 h2 h3 h4
  have:rdN 1 st=(0,[],true):=by simp[rdN,hlt]
  rw[this]
  exact ⟨by rw[h1];exact hdf,_,rO h2,rfl,h3,h4,fun h=>by cases h⟩
 ·intro hle A h1 h2 h3
  obtain ⟨v,o,cap,hc,hv,hcap,hcs⟩:=y7 (k:=1) H (by decide) hr hle
  obtain ⟨l0,bad⟩:=st
  simp only at hle hv hcap hcs
  obtain ⟨b0,l,rfl⟩:∃ (b0:UInt8) (l:List UInt8),l0=b0::l:=by
   cases l0 with
   | nil=>simp at hle
   | cons b r=>exact ⟨b,r,rfl⟩
  have hN:rdN 1 (b0::l,bad)=(b0.toNat,l,bad):=by
   simp only[rdN]
   rw[if_neg (by simp only[List.length_cons];omega)]
   simp[beN]
  rw[hN]
  refine vX (rM ?_)
  refine qV (ad:=⟨rb,0,none⟩) (by simp (disch:=(try simp only[sP]);omega) only[eV,h3]) ?_
  refine rF (b:=rb) (o:=0) (by simp (disch:=(try simp only[sP]);omega) only[eV]) H.f0 ?_
  refine rL (b:=rb) (o:=0+0) (v:=v) (by simp (disch:=(try simp only[sP]);omega) only[eV]) H.oBytes (hc 0 v rfl) ?_
  refine qA (k:=.i64) (j:=0) (b:=sb) (o:=o) (len:=(b0::l).length) (cap:=cap) (rB H.row) (by simp (disch:=(try simp only[sP]);omega) only[eV,hv]) rfl hle ?_
  refine rL (b:=sb) (o:=o+0*1) (v:=bv b0) (by simp (disch:=(try simp only[sP]);omega) only[eV]) H.oU8 (hcs 0 _ rfl) ?_
  refine rA (dn (vX ?_))
  refine vz (t:=22) (n:=1) H (by simp only[zP];omega) (by decide) (by simp) (by simp (disch:=(try simp only[sP]);omega) only[eV,h3]) hr ?_
  intro A2 W2 p1 p2 p3 p4 p5 p6
  simp only[zP,dF] at p1 p2
  refine dn ?_
  have hv3:A2.eval (.tmp 3)=.int .u8 (b0.toNat:Int):=by
   rw[p3 3 (by omega)]
   simp (disch:=(try simp only[sP]);omega) only[eV]
   rfl
  refine vX (rM ?_)
  refine qM (k:=.u8) (k':=.i8) (m:=(b0.toNat:Int)) H.u8 hi (by simp (disch:=(try simp only[sP]);omega) only[eV,hv3]) ?_
  refine rA (dn (vS (vT ?_)))
  exact ⟨by simp only[dF];rw[p2,h2];exact hdf,.int .i8 (IntKind.i8.wrap (b0.toNat:Int)),rO (by simp (disch:=(try simp only[sP]);omega) only[eV]),by rw[sgn1 b0.toNat_lt],by simpa using p4,p5,fun _=>p6 (.inl (by decide))⟩
theorem k_rBool (H:REnv P E) (ht:Text P E.rBool 1 32 #[.tmp 2] (c_rBool E)) (hr:RdS W rb sb st):RdC P E.rBool rb sb (rdN 1 st).2 (.bool ((rdN 1 st).1 != 0)) W:=by
 refine qa.enter ht (by simp) ?_
 intro a hsz hdf harg
 have e0:=harg 0 (.pointer (some ⟨rb,0,none⟩)) (by simp)
 unfold c_rBool
 refine jZ (k:=1) (zv:=.bool false) H (by omega) rfl e0 hr ?_ ?_
 ·intro hlt A' W' h1 h2 h3 h4
  have:rdN 1 st=(0,[],true):=by simp[rdN,hlt]
  rw[this]
  exact ⟨by rw[h1];exact hdf,_,rO h2,rfl,h3,h4,fun h=>by cases h⟩
 ·intro hle A h1 h2 h3
  obtain ⟨v,o,cap,hc,hv,hcap,hcs⟩:=y7 (k:=1) H (by decide) hr hle
  obtain ⟨l0,bad⟩:=st
  simp only at hle hv hcap hcs
  obtain ⟨b0,l,rfl⟩:∃ (b0:UInt8) (l:List UInt8),l0=b0::l:=by
   cases l0 with
   | nil=>simp at hle
   | cons b r=>exact ⟨b,r,rfl⟩
  have hN:rdN 1 (b0::l,bad)=(b0.toNat,l,bad):=by
   simp only[rdN]
   rw[if_neg (by simp only[List.length_cons];omega)]
   simp[beN]
  rw[hN]
  refine vX (rM ?_)
  refine qV (ad:=⟨rb,0,none⟩) (by simp (disch:=(try simp only[sP]);omega) only[eV,h3]) ?_
  refine rF (b:=rb) (o:=0) (by simp (disch:=(try simp only[sP]);omega) only[eV]) H.f0 ?_
  refine rL (b:=rb) (o:=0+0) (v:=v) (by simp (disch:=(try simp only[sP]);omega) only[eV]) H.oBytes (hc 0 v rfl) ?_
  refine qA (k:=.i64) (j:=0) (b:=sb) (o:=o) (len:=(b0::l).length) (cap:=cap) (rB H.row) (by simp (disch:=(try simp only[sP]);omega) only[eV,hv]) rfl hle ?_
  refine rL (b:=sb) (o:=o+0*1) (v:=bv b0) (by simp (disch:=(try simp only[sP]);omega) only[eV]) H.oU8 (hcs 0 _ rfl) ?_
  refine r_neq (k:=.u8) (m:=(b0.toNat:Int)) (n:=0) (by (try simp (disch:=(try simp only[sP]);omega) only[eV])<;>(first | rfl | assumption)) rfl ?_
  refine rA (dn (vX ?_))
  refine vz (t:=23) (n:=1) H (by simp only[zP];omega) (by decide) (by simp) (by simp (disch:=(try simp only[sP]);omega) only[eV,h3]) hr ?_
  intro A2 W2 p1 p2 p3 p4 p5 p6
  simp only[zP,dF] at p1 p2
  refine dn ?_
  have hv3:A2.eval (.tmp 3)=.bool (b0.toNat != 0):=by
   rw[p3 3 (by omega)]
   simp (disch:=(try simp only[sP]);omega) only[eV]
   simp only[Value.bool.injEq]
   by_cases h:b0.toNat=0
   ·rw[h];rfl
   ·have:((b0.toNat:Int) != 0)=true:=by simp[bne_iff_ne];omega
    rw[this]
    simp[bne_iff_ne,h]
  refine vX (rM (rA (dn (vS (vT ?_)))))
  exact ⟨by simp only[dF];rw[p2,h2];exact hdf,.bool (b0.toNat != 0),rO (by simp (disch:=(try simp only[sP]);omega) only[eV,hv3]),rfl,by simpa using p4,p5,fun _=>p6 (.inl (by decide))⟩
theorem k_rI64 (hu:qs P E.tU64=some .u64) (hi:qs P E.tI64=some .i64) (h8:∀ (rb sb:Nat) (st:RSt) (W:World),RdS W rb sb st->RdC P E.rU64 rb sb (rdN 8 st).2 (.int .u64 ((rdN 8 st).1:Int)) W) (ht:Text P E.rI64 1 6 #[.tmp 2] (c_rI64 E)) (hr:RdS W rb sb st) :
  RdC P E.rI64 rb sb (rdN 8 st).2 (.int .i64 (sgn 8 (rdN 8 st).1)) W:=by
 refine qa.enter ht (by simp) ?_
 intro a hsz hdf harg
 have e0:=harg 0 (.pointer (some ⟨rb,0,none⟩)) (by simp)
 unfold c_rI64
 refine vX (rA (dn (vX (rM ?_))))
 refine q8 (args:=#[.pointer (some ⟨rb,0,none⟩)]) ?_ (h8 rb sb st W hr) ?_
 ·simp only[lM]
  simp (disch:=(try simp only[sP]);omega) only[eV,e0]
 rintro v w' ⟨rfl,h1,h2,h3⟩
 refine qM (k:=.u64) (k':=.i64) (m:=((rdN 8 st).1:Int)) hu hi (by simp (disch:=(try simp only[sP]);omega) only[eV]) ?_
 refine rA (dn (vS (vT ?_)))
 exact ⟨by simp only[dF];exact hdf,.int .i64 (IntKind.i64.wrap ((rdN 8 st).1:Int)),rO (by simp (disch:=(try simp only[sP]);omega) only[eV]),by rw[sgn8 (zQ 8 st)],h1,h2,h3⟩
theorem k_rOk (H:REnv P E) (ht:Text P E.rOk 1 8 #[.tmp 2] (c_rOk E)) (hr:RdS W rb sb st):qa P E.rOk #[.pointer (some ⟨rb,0,none⟩)] W fun x w'=>x=.bool (!st.2)/\w'=W:=by
 refine qa.enter ht (by simp) ?_
 intro a hsz hdf harg
 have e0:=harg 0 (.pointer (some ⟨rb,0,none⟩)) (by simp)
 obtain ⟨v,hc,_⟩:=hr.cells
 unfold c_rOk
 refine vX (rA (dn (vX (rM ?_))))
 refine qV (ad:=⟨rb,0,none⟩) (by simp (disch:=(try simp only[sP]);omega) only[eV,e0]) ?_
 refine rF (b:=rb) (o:=0) (by simp (disch:=(try simp only[sP]);omega) only[eV]) H.f1 ?_
 refine rL (b:=rb) (o:=0+1) (v:=.bool st.2) (by simp (disch:=(try simp only[sP]);omega) only[eV]) H.oBool (hc 1 _ rfl) ?_
 refine zq (b:=st.2) (by simp (disch:=(try simp only[sP]);omega) only[eV]) ?_
 refine rA (dn (vS (vT ?_)))
 exact ⟨by simp only[dF];exact hdf,.bool (!st.2),rO (by simp (disch:=(try simp only[sP]);omega) only[eV]),rfl,rfl⟩
theorem k_rComplete (H:REnv P E) (oE:qQ P E.tErr=true) (ht:Text P E.rComplete 1 8 #[.tmp 2] (vf E)) {ev:Value} (hg:W.cell? ⟨E.vErr,0,none⟩=some ev) (hr:RdS W rb sb st) :
  qa P E.rComplete #[.pointer (some ⟨rb,0,none⟩)] W fun x w'=>x=(if st.2 then ev else .nilIface)/\w'=W:=by
 refine qa.enter ht (by simp) ?_
 intro a hsz hdf harg
 have e0:=harg 0 (.pointer (some ⟨rb,0,none⟩)) (by simp)
 obtain ⟨v,hc,_⟩:=hr.cells
 unfold vf
 refine vX (rA (dn (vS (vX (rM ?_)))))
 refine qV (ad:=⟨rb,0,none⟩) (by simp (disch:=(try simp only[sP]);omega) only[eV,e0]) ?_
 refine rF (b:=rb) (o:=0) (by simp (disch:=(try simp only[sP]);omega) only[eV]) H.f1 ?_
 refine rL (b:=rb) (o:=0+1) (v:=.bool st.2) (by simp (disch:=(try simp only[sP]);omega) only[eV]) H.oBool (hc 1 _ rfl) ?_
 refine dn ?_
 refine vS (vC (t:=st.2) (by simp (disch:=(try simp only[sP]);omega) only[eV]) ?_ ?_)
 ·intro h
  rw[h]
  refine vX ?_
  refine rL (b:=E.vErr) (o:=0) (v:=ev) rfl oE hg ?_
  refine rA (dn (vS (vT ?_)))
  exact ⟨by simp only[dF];exact hdf,ev,rO (by simp (disch:=(try simp only[sP]);omega) only[eV]),rfl,rfl⟩
 ·intro h
  rw[h]
  refine vK (vN (vX (rA (dn (vS (vT ?_))))))
  exact ⟨by simp only[dF];exact hdf,.nilIface,rO (by simp (disch:=(try simp only[sP]);omega) only[eV]),rfl,rfl⟩
end
end Go.Km
namespace Go.Km
open Go Go.RowKit
attribute [local irreducible] vc rO_ qz qI qF
section
variable {P : Program} {E : Env} {rb sb : Nat} {st : RSt} {W : World}
theorem k_rStr (H:REnv P E) (i16:qs P E.tI16=some .i16) (hS:strB P E.tStr=true) (c16:CI16 P E) (cS:yH P E) (ht:Text P E.rStr 1 11 #[.tmp 2] (c_rStr E)) (hr:RdS W rb sb st) :
  RdC P E.rStr rb sb (zz (wm st)).2 (.string ⟨(zz (wm st)).1.toArray⟩) W:=by
 refine qa.enter ht (by simp) ?_
 intro a hsz hdf harg
 have e0:=harg 0 (.pointer (some ⟨rb,0,none⟩)) (by simp)
 unfold c_rStr
 refine vX (rA (dn (vX (rM ?_))))
 refine q8 (args:=#[.pointer (some ⟨rb,0,none⟩)]) ?_ (c16 rb sb st W hr) ?_
 ·simp only[lM]
  simp (disch:=(try simp only[sP]);omega) only[eV,e0]
 rintro v w1 ⟨rfl,h1,h2,h3⟩
 refine rA (dn (vX (rM (rM ?_))))
 have hlt:-32768<=sgn 2 (rdN 2 st).1/\sgn 2 (rdN 2 st).1<=32767:=by
  have:=zQ 2 st
  unfold sgn
  simp only[show (256:Nat) ^ 2=65536 by decide] at this
  have h4:(2:Nat) ^ (8*2-1)=32768:=by decide
  have h5:(2:Int) ^ (8*2)=65536:=by decide
  rw[h4,h5]
  split<;>omega
 refine qM (k:=.i16) (k':=.i64) (m:=sgn 2 (rdN 2 st).1) i16 H.int (by simp (disch:=(try simp only[sP]);omega) only[eV]) ?_
 rw[wrap_i64 (by omega) (by omega)]
 refine q8 (args:=#[.pointer (some ⟨rb,0,none⟩),.int .i64 (sgn 2 (rdN 2 st).1)]) ?_ (cS rb sb (rdN 2 st).2 (sgn 2 (rdN 2 st).1) w1 h1) ?_
 ·simp only[lM]
  simp (disch:=(try simp only[sP]);omega) only[eV,e0]
 rintro v w2 ⟨h4,h5,h6,h7⟩
 refine ka H.row H.u8 hS (by simp (disch:=(try simp only[sP]);omega) only[eV]) h4 ?_
 refine rA (dn (vS (vT ?_)))
 exact ⟨by simp only[dF];exact hdf,_,rO (by (try simp (disch:=(try simp only[sP]);omega) only[eV])<;>(first | rfl | assumption)),rfl,h5,h2.trans h6,fun h=>(h7 (h3 (qO h)) h).1⟩
theorem k_rCStr (H:REnv P E) (iu:qs P E.tW=some .u32) (hS:strB P E.tStr=true) (cU:CUv P E) (cS:yH P E) (ht:Text P E.rCStr 1 12 #[.tmp 2] (c_rCStr E)) (hlt:∀ st,(qp st).1<4294967296) (hr:RdS W rb sb st) :
  RdC P E.rCStr rb sb (zz (zR st)).2 (.string ⟨(zz (zR st)).1.toArray⟩) W:=by
 refine qa.enter ht (by simp) ?_
 intro a hsz hdf harg
 have e0:=harg 0 (.pointer (some ⟨rb,0,none⟩)) (by simp)
 have hlt:=hlt st
 unfold c_rCStr
 refine vX (rA (dn (vX (rM ?_))))
 refine q8 (args:=#[.pointer (some ⟨rb,0,none⟩)]) ?_ (cU rb sb st W hr) ?_
 ·simp only[lM]
  simp (disch:=(try simp only[sP]);omega) only[eV,e0]
 rintro v w1 ⟨rfl,h1,h2,h3⟩
 refine qM (k:=.u32) (k':=.i64) (m:=((qp st).1:Int)) iu H.int (by simp (disch:=(try simp only[sP]);omega) only[eV]) ?_
 rw[wrap_i64 (by omega) (by omega)]
 refine yE (k:=.i64) (m:=((qp st).1:Int)) (n:=1) (by simp (disch:=(try simp only[sP]);omega) only[eV]) rfl ?_
 rw[wrap_i64 (by omega) (by omega)]
 refine rA (dn (vX (rM (rM ?_))))
 refine q8 (args:=#[.pointer (some ⟨rb,0,none⟩),.int .i64 (((qp st).1:Int)-1)]) ?_ (cS rb sb (qp st).2 (((qp st).1:Int)-1) w1 h1) ?_
 ·simp only[lM]
  simp (disch:=(try simp only[sP]);omega) only[eV,e0]
 rintro v w2 ⟨h4,h5,h6,h7⟩
 refine ka H.row H.u8 hS (by simp (disch:=(try simp only[sP]);omega) only[eV]) h4 ?_
 refine rA (dn (vS (vT ?_)))
 exact ⟨by simp only[dF];exact hdf,_,rO (by (try simp (disch:=(try simp only[sP]);omega) only[eV])<;>(first | rfl | assumption)),rfl,h5,h2.trans h6,fun h=>(h7 (h3 (qO h)) h).1⟩
def PStr (W':World) (B:Nat) (v:Value):Option (List UInt8)->Prop
 | none=>v=.pointer none
 | some l=>∃ q,v=.pointer (some ⟨q,0,none⟩)/\B<=q/\W'.cell? ⟨q,0,none⟩=some (.string ⟨l.toArray⟩)
theorem box_str {w:World} {T:TypeId} (l:List UInt8) {z:Value} (hz:z.cells=#[z]):((w.alloc (.cells z.cells T)).setCell ⟨w.heap.size,0,none⟩ (.string ⟨l.toArray⟩)).cell? ⟨w.heap.size,0,none⟩=some (.string ⟨l.toArray⟩) :=
 qo _ (by rw[World.cell?_alloc_new,hz];rfl)
theorem yO (st:RSt):-32768<=sgn 2 (rdN 2 st).1/\sgn 2 (rdN 2 st).1<=32767:=by
 have:=zQ 2 st
 unfold sgn
 simp only[show (256:Nat) ^ 2=65536 by decide] at this
 have h4:(2:Nat) ^ (8*2-1)=32768:=by decide
 have h5:(2:Int) ^ (8*2)=65536:=by decide
 rw[h4,h5]
 split<;>omega
theorem kZ (st:RSt):-2147483648<=sgn 4 (rdN 4 st).1/\sgn 4 (rdN 4 st).1<=2147483647:=by
 have:=zQ 4 st
 unfold sgn
 simp only[show (256:Nat) ^ 4=4294967296 by decide] at this
 have h4:(2:Nat) ^ (8*4-1)=2147483648:=by decide
 have h5:(2:Int) ^ (8*4)=4294967296:=by decide
 rw[h4,h5]
 split<;>omega
theorem ze (st:RSt):(qp st).1<4294967296:=by
 unfold qp
 split
 ·decide
 ·rename_i v n h
  exact (uvDec_lt st.1 0 0 v n (by decide) (by decide) h).1
theorem k_rNStr (H:REnv P E) (i16:qs P E.tI16=some .i16) (hS:strB P E.tStr=true) (oS:qQ P E.tStr=true) {zs:Value} (hzs:qH P E.tStr=some zs) (hz1:zs.cells=#[zs]) (c16:CI16 P E) (cS:yH P E) (ht:Text P E.rNStr 1 14 #[.tmp 2] (c_rNStr E)) (hr:RdS W rb sb st) :
  qa P E.rNStr #[.pointer (some ⟨rb,0,none⟩)] W fun x w'=>PStr w' W.heap.size x (qP (wm st)).1/\RdS w' rb sb (qP (wm st)).2/\Eff (RM rb) W w'/\((qP (wm st)).2.2=false->NN w' rb):=by
 refine qa.enter ht (by simp) ?_
 intro a hsz hdf harg
 have e0:=harg 0 (.pointer (some ⟨rb,0,none⟩)) (by simp)
 have hlt:=yO st
 unfold c_rNStr
 refine vX (rA (dn (vX (rM ?_))))
 refine q8 (args:=#[.pointer (some ⟨rb,0,none⟩)]) ?_ (c16 rb sb st W hr) ?_
 ·simp only[lM]
  simp (disch:=(try simp only[sP]);omega) only[eV,e0]
 rintro v w1 ⟨rfl,h1,h2,h3⟩
 refine rA (dn (vS (vX (rM ?_))))
 refine qW (k:=.i16) (m:=sgn 2 (rdN 2 st).1) (n:=0) (by simp (disch:=(try simp only[sP]);omega) only[eV]) rfl ?_
 refine dn ?_
 refine vS (vC (t:=decide (sgn 2 (rdN 2 st).1<0)) (by simp (disch:=(try simp only[sP]);omega) only[eV]) ?_ ?_)
 ·intro h
  have h':sgn 2 (rdN 2 st).1<0:=by simpa using h
  have e:qP (wm st)=(none,(rdN 2 st).2):=by unfold qP wm;rw[if_pos h']
  rw[e]
  refine vX (rA (dn (vS (vT ?_))))
  exact ⟨by simp only[dF];exact hdf,.pointer none,rO (by simp (disch:=(try simp only[sP]);omega) only[eV]),rfl,h1,h2,h3⟩
 ·intro h
  have h':¬ sgn 2 (rdN 2 st).1<0:=by simpa using h
  have e:qP (wm st)=(some (qr (sgn 2 (rdN 2 st).1) (rdN 2 st).2).1,(qr (sgn 2 (rdN 2 st).1) (rdN 2 st).2).2):=by unfold qP wm;rw[if_neg h']
  rw[e]
  refine vK (vN (vX (rM (rM ?_))))
  refine qM (k:=.i16) (k':=.i64) (m:=sgn 2 (rdN 2 st).1) i16 H.int (by simp (disch:=(try simp only[sP]);omega) only[eV]) ?_
  rw[wrap_i64 (by omega) (by omega)]
  refine q8 (args:=#[.pointer (some ⟨rb,0,none⟩),.int .i64 (sgn 2 (rdN 2 st).1)]) ?_ (cS rb sb (rdN 2 st).2 (sgn 2 (rdN 2 st).1) w1 h1) ?_
  ·simp only[lM]
   simp (disch:=(try simp only[sP]);omega) only[eV,e0]
  rintro v w2 ⟨h4,h5,h6,h7⟩
  have hmono:(qr (sgn 2 (rdN 2 st).1) (rdN 2 st).2).2.2=false->(rdN 2 st).2.2=false:=qO
  generalize qr (sgn 2 (rdN 2 st).1) (rdN 2 st).2=p at *
  refine ka H.row H.u8 hS (by simp (disch:=(try simp only[sP]);omega) only[eV]) h4 ?_
  refine qK hzs ?_
  refine xq (b:=w2.heap.size) (o:=0) (v:=.string ⟨p.1.toArray⟩) (by simp (disch:=(try simp only[sP]);omega) only[eV]) (by simp (disch:=(try simp only[sP]);omega) only[eV]) rfl oS (qn w2 _ _ (by rw[hz1];simp)) ?_
  refine dn ?_
  have hb:Below w2.heap.size w2 ((w2.alloc (.cells zs.cells E.tStr)).setCell ⟨w2.heap.size,0,none⟩ (.string ⟨p.1.toArray⟩)):=((Below.refl w2.heap.size w2).alloc (o:=.cells _ _) (Nat.le_refl _)).setCell (p:=⟨w2.heap.size,0,none⟩) (Nat.le_refl _) _
  have hcs:=box_str (w:=w2) (T:=E.tStr) p.1 hz1
  refine vX (rA (dn (vS (vT ?_))))
  have hW2:W.heap.size<=w2.heap.size:=Nat.le_trans h2.size h6.size
  exact ⟨by simp only[dF];exact hdf,.pointer (some ⟨w2.heap.size,0,none⟩),rO (by simp (disch:=(try simp only[sP]);omega) only[eV]),⟨_,rfl,hW2,hcs⟩,h5.below hb h5.rb_lt h5.lt,(h2.trans h6).trans (Eff.of_below hb),fun h=>((h7 (h3 (hmono h)) h).1).below hb h5.rb_lt⟩
theorem k_rCNStr (H:REnv P E) (iu:qs P E.tW=some .u32) (hS:strB P E.tStr=true) (oS:qQ P E.tStr=true) {zs:Value} (hzs:qH P E.tStr=some zs) (hz1:zs.cells=#[zs]) (cU:CUv P E) (cS:yH P E) (ht:Text P E.rCNStr 1 15 #[.tmp 2] (c_rCNStr E)) (hr:RdS W rb sb st) :
  qa P E.rCNStr #[.pointer (some ⟨rb,0,none⟩)] W fun x w'=>PStr w' W.heap.size x (qP (zR st)).1/\RdS w' rb sb (qP (zR st)).2/\Eff (RM rb) W w'/\((qP (zR st)).2.2=false->NN w' rb):=by
 refine qa.enter ht (by simp) ?_
 intro a hsz hdf harg
 have e0:=harg 0 (.pointer (some ⟨rb,0,none⟩)) (by simp)
 have hlt:=ze st
 unfold c_rCNStr
 refine vX (rA (dn (vX (rM ?_))))
 refine q8 (args:=#[.pointer (some ⟨rb,0,none⟩)]) ?_ (cU rb sb st W hr) ?_
 ·simp only[lM]
  simp (disch:=(try simp only[sP]);omega) only[eV,e0]
 rintro v w1 ⟨rfl,h1,h2,h3⟩
 refine qM (k:=.u32) (k':=.i64) (m:=((qp st).1:Int)) iu H.int (by simp (disch:=(try simp only[sP]);omega) only[eV]) ?_
 rw[wrap_i64 (by omega) (by omega)]
 refine yE (k:=.i64) (m:=((qp st).1:Int)) (n:=1) (by simp (disch:=(try simp only[sP]);omega) only[eV]) rfl ?_
 rw[wrap_i64 (by omega) (by omega)]
 refine rA (dn (vS (vX (rM ?_))))
 refine qW (k:=.i64) (m:=((qp st).1:Int)-1) (n:=0) (by simp (disch:=(try simp only[sP]);omega) only[eV]) rfl ?_
 refine dn ?_
 refine vS (vC (t:=decide (((qp st).1:Int)-1<0)) (by simp (disch:=(try simp only[sP]);omega) only[eV]) ?_ ?_)
 ·intro h
  have h':((qp st).1:Int)-1<0:=by simpa using h
  have e:qP (zR st)=(none,(qp st).2):=by unfold qP zR;rw[if_pos h']
  rw[e]
  refine vX (rA (dn (vS (vT ?_))))
  exact ⟨by simp only[dF];exact hdf,.pointer none,rO (by simp (disch:=(try simp only[sP]);omega) only[eV]),rfl,h1,h2,h3⟩
 ·intro h
  have h':¬ ((qp st).1:Int)-1<0:=by simpa using h
  have e:qP (zR st)=(some (qr (((qp st).1:Int)-1) (qp st).2).1,(qr (((qp st).1:Int)-1) (qp st).2).2):=by unfold qP zR;rw[if_neg h']
  rw[e]
  refine vK (vN (vX (rM (rM ?_))))
  refine q8 (args:=#[.pointer (some ⟨rb,0,none⟩),.int .i64 (((qp st).1:Int)-1)]) ?_ (cS rb sb (qp st).2 (((qp st).1:Int)-1) w1 h1) ?_
  ·simp only[lM]
   simp (disch:=(try simp only[sP]);omega) only[eV,e0]
  rintro v w2 ⟨h4,h5,h6,h7⟩
  have hmono:(qr (((qp st).1:Int)-1) (qp st).2).2.2=false->(qp st).2.2=false:=qO
  generalize qr (((qp st).1:Int)-1) (qp st).2=p at *
  refine ka H.row H.u8 hS (by simp (disch:=(try simp only[sP]);omega) only[eV]) h4 ?_
  refine qK hzs ?_
  refine xq (b:=w2.heap.size) (o:=0) (v:=.string ⟨p.1.toArray⟩) (by simp (disch:=(try simp only[sP]);omega) only[eV]) (by simp (disch:=(try simp only[sP]);omega) only[eV]) rfl oS (qn w2 _ _ (by rw[hz1];simp)) ?_
  refine dn ?_
  have hb:Below w2.heap.size w2 ((w2.alloc (.cells zs.cells E.tStr)).setCell ⟨w2.heap.size,0,none⟩ (.string ⟨p.1.toArray⟩)):=((Below.refl w2.heap.size w2).alloc (o:=.cells _ _) (Nat.le_refl _)).setCell (p:=⟨w2.heap.size,0,none⟩) (Nat.le_refl _) _
  have hcs:=box_str (w:=w2) (T:=E.tStr) p.1 hz1
  refine vX (rA (dn (vS (vT ?_))))
  have hW2:W.heap.size<=w2.heap.size:=Nat.le_trans h2.size h6.size
  exact ⟨by simp only[dF];exact hdf,.pointer (some ⟨w2.heap.size,0,none⟩),rO (by simp (disch:=(try simp only[sP]);omega) only[eV]),⟨_,rfl,hW2,hcs⟩,h5.below hb h5.rb_lt h5.lt,(h2.trans h6).trans (Eff.of_below hb),fun h=>((h7 (h3 (hmono h)) h).1).below hb h5.rb_lt⟩
end
end Go.Km
namespace Go.Km
open Go Go.RowKit
attribute [local irreducible] vc rO_ qz qI qF
section
variable {P : Program} {a : Act} {w : World} {r : List Oper} {Q : Exit → Act → World → Prop}
theorem jJ {d t ty p af g e s} (hB:xd P t e s=true) (h:rO_ P Q r (a.put (some d) (.slice (some ⟨w.heap.size,0,none⟩) 0 0)) (w.alloc (.cells #[] e))) :
  rO_ P Q (⟨some d,.buildSlice t 0 #[],ty,p,af,g⟩::r) a w:=by
 refine st ?_
 obtain ⟨hu,i,z,hi,hsz,hs0,hz,hzs,_⟩:=xM hB
 have hr:(Instr.buildSlice t 0 (#[].map fun (x:Nat × Operand)=>(x.1,a.eval x.2))).run P w=.ok (.slice (some ⟨w.heap.size,0,none⟩) 0 0) (w.alloc (.cells #[] e)):=by
  simp[Instr.buildSlice,run_underlying hu,jh (rB hB),Instr.fill,run_newRow']
  rw[show (Array.map (fun _=>default) (Array.range 0):Array Value)=#[] by simp[Array.range]]
 simp only[Oper.wp,execOp,Sem.run_bind,hr,Sem.run_pure,Result.andThen_ok,Oper.upon_value]
 exact h
end
section
variable {P : Program} {E : Env} {rb sb : Nat} {st : RSt} {W : World}
theorem k_rBytes (H:REnv P E) (i32:qs P E.tI32=some .i32) (c32:CI32 P E) (cS:yH P E) (ht:Text P E.rBytes 1 13 #[.tmp 2] (c_rBytes E)) (hr:RdS W rb sb st) :
  qa P E.rBytes #[.pointer (some ⟨rb,0,none⟩)] W fun x w'=>(∃ o,OctV w' sb W.heap.size x o/\((xN (jD st)).2.2=false->o=(xN (jD st)).1))/\RdS w' rb sb (xN (jD st)).2/\Eff (RM rb) W w'/\((xN (jD st)).2.2=false->NN w' rb):=by
 refine qa.enter ht (by simp) ?_
 intro a hsz hdf harg
 have e0:=harg 0 (.pointer (some ⟨rb,0,none⟩)) (by simp)
 have hlt:=kZ st
 unfold c_rBytes
 refine vX (rA (dn (vX (rM ?_))))
 refine q8 (args:=#[.pointer (some ⟨rb,0,none⟩)]) ?_ (c32 rb sb st W hr) ?_
 ·simp only[lM]
  simp (disch:=(try simp only[sP]);omega) only[eV,e0]
 rintro v w1 ⟨rfl,h1,h2,h3⟩
 refine rA (dn (vS (vX (rM ?_))))
 refine xA (k:=.i32) (m:=(sgn 4 (rdN 4 st).1)) (n:=-1) (by simp (disch:=(try simp only[sP]);omega) only[eV]) rfl ?_
 refine dn ?_
 refine vS (vC (t:=((sgn 4 (rdN 4 st).1) == -1)) (by simp (disch:=(try simp only[sP]);omega) only[eV]) ?_ ?_)
 ·intro h
  have h':(sgn 4 (rdN 4 st).1) = -1:=by simpa using h
  have e:xN (jD st)=(some [],(rdN 4 st).2):=by unfold xN jD;rw[if_pos h']
  rw[e]
  refine vX ?_
  refine jJ H.row ?_
  refine rA (dn ?_)
  have hb:Below w1.heap.size w1 (w1.alloc (.cells #[] E.tU8)):=(Below.refl w1.heap.size w1).alloc (o:=.cells _ _) (Nat.le_refl _)
  refine vS (vT ?_)
  exact ⟨by simp only[dF];exact hdf,.slice (some ⟨w1.heap.size,0,none⟩) 0 0,rO (by simp (disch:=(try simp only[sP]);omega) only[eV]),⟨some [],⟨w1.heap.size,0,0,rfl,.inr h2.size,qb.nil _ _ _,by simp⟩,fun _=>rfl⟩,h1.below hb h1.rb_lt h1.lt,h2.trans (Eff.of_below hb),fun h=>(h3 h).below hb h1.rb_lt⟩
 ·intro h
  have h':¬ (sgn 4 (rdN 4 st).1) = -1:=by simpa using h
  have e:xN (jD st)=(some (qr (sgn 4 (rdN 4 st).1) (rdN 4 st).2).1,(qr (sgn 4 (rdN 4 st).1) (rdN 4 st).2).2):=by unfold xN jD;rw[if_neg h']
  rw[e]
  refine vK (vN (vX (rM (rM ?_))))
  refine qM (k:=.i32) (k':=.i64) (m:=(sgn 4 (rdN 4 st).1)) i32 H.int (by simp (disch:=(try simp only[sP]);omega) only[eV]) ?_
  rw[wrap_i64 (by omega) (by omega)]
  refine q8 (args:=#[.pointer (some ⟨rb,0,none⟩),.int .i64 (sgn 4 (rdN 4 st).1)]) ?_ (cS rb sb (rdN 4 st).2 (sgn 4 (rdN 4 st).1) w1 h1) ?_
  ·simp only[lM]
   simp (disch:=(try simp only[sP]);omega) only[eV,e0]
  rintro v w2 ⟨h4,h5,h6,h7⟩
  have hmono:(qr (sgn 4 (rdN 4 st).1) (rdN 4 st).2).2.2=false->(rdN 4 st).2.2=false:=qO
  generalize qr (sgn 4 (rdN 4 st).1) (rdN 4 st).2=p at *
  refine rA (dn (vS (vT ?_)))
  obtain ⟨oo,ho1,ho2⟩:=h4.octV (B:=W.heap.size) h5.lt
  exact ⟨by simp only[dF];exact hdf,v,rO (by simp (disch:=(try simp only[sP]);omega) only[eV]),⟨oo,ho1,fun h=>ho2 (h7 (h3 (hmono h)) h).2⟩,h5,h2.trans h6,fun h=>(h7 (h3 (hmono h)) h).1⟩
theorem k_rCBytes (H:REnv P E) (iu:qs P E.tW=some .u32) (cU:CUv P E) (cS:yH P E) (ht:Text P E.rCBytes 1 14 #[.tmp 2] (c_rCBytes E)) (hr:RdS W rb sb st) :
  qa P E.rCBytes #[.pointer (some ⟨rb,0,none⟩)] W fun x w'=>(∃ o,OctV w' sb W.heap.size x o/\((xN (zR st)).2.2=false->o=(xN (zR st)).1))/\RdS w' rb sb (xN (zR st)).2/\Eff (RM rb) W w'/\((xN (zR st)).2.2=false->NN w' rb):=by
 refine qa.enter ht (by simp) ?_
 intro a hsz hdf harg
 have e0:=harg 0 (.pointer (some ⟨rb,0,none⟩)) (by simp)
 have hlt:=ze st
 unfold c_rCBytes
 refine vX (rA (dn (vX (rM ?_))))
 refine q8 (args:=#[.pointer (some ⟨rb,0,none⟩)]) ?_ (cU rb sb st W hr) ?_
 ·simp only[lM]
  simp (disch:=(try simp only[sP]);omega) only[eV,e0]
 rintro v w1 ⟨rfl,h1,h2,h3⟩
 refine qM (k:=.u32) (k':=.i64) (m:=((qp st).1:Int)) iu H.int (by simp (disch:=(try simp only[sP]);omega) only[eV]) ?_
 rw[wrap_i64 (by omega) (by omega)]
 refine yE (k:=.i64) (m:=((qp st).1:Int)) (n:=1) (by simp (disch:=(try simp only[sP]);omega) only[eV]) rfl ?_
 rw[wrap_i64 (by omega) (by omega)]
 refine rA (dn (vS (vX (rM ?_))))
 refine xA (k:=.i64) (m:=((((qp st).1:Nat):Int)-1)) (n:=-1) (by simp (disch:=(try simp only[sP]);omega) only[eV]) rfl ?_
 refine dn ?_
 refine vS (vC (t:=(((((qp st).1:Nat):Int)-1) == -1)) (by simp (disch:=(try simp only[sP]);omega) only[eV]) ?_ ?_)
 ·intro h
  have h':((((qp st).1:Nat):Int)-1) = -1:=by simpa using h
  have e:xN (zR st)=(some [],(qp st).2):=by unfold xN zR;rw[if_pos h']
  rw[e]
  refine vX ?_
  refine jJ H.row ?_
  refine rA (dn ?_)
  have hb:Below w1.heap.size w1 (w1.alloc (.cells #[] E.tU8)):=(Below.refl w1.heap.size w1).alloc (o:=.cells _ _) (Nat.le_refl _)
  refine vS (vT ?_)
  exact ⟨by simp only[dF];exact hdf,.slice (some ⟨w1.heap.size,0,none⟩) 0 0,rO (by simp (disch:=(try simp only[sP]);omega) only[eV]),⟨some [],⟨w1.heap.size,0,0,rfl,.inr h2.size,qb.nil _ _ _,by simp⟩,fun _=>rfl⟩,h1.below hb h1.rb_lt h1.lt,h2.trans (Eff.of_below hb),fun h=>(h3 h).below hb h1.rb_lt⟩
 ·intro h
  have h':¬ ((((qp st).1:Nat):Int)-1) = -1:=by simpa using h
  have e:xN (zR st)=(some (qr ((((qp st).1:Nat):Int)-1) (qp st).2).1,(qr ((((qp st).1:Nat):Int)-1) (qp st).2).2):=by unfold xN zR;rw[if_neg h']
  rw[e]
  refine vK (vN (vX (rM (rM ?_))))
  refine q8 (args:=#[.pointer (some ⟨rb,0,none⟩),.int .i64 ((((qp st).1:Nat):Int)-1)]) ?_ (cS rb sb (qp st).2 ((((qp st).1:Nat):Int)-1) w1 h1) ?_
  ·simp only[lM]
   simp (disch:=(try simp only[sP]);omega) only[eV,e0]
  rintro v w2 ⟨h4,h5,h6,h7⟩
  have hmono:(qr ((((qp st).1:Nat):Int)-1) (qp st).2).2.2=false->(qp st).2.2=false:=qO
  generalize qr ((((qp st).1:Nat):Int)-1) (qp st).2=p at *
  refine rA (dn (vS (vT ?_)))
  obtain ⟨oo,ho1,ho2⟩:=h4.octV (B:=W.heap.size) h5.lt
  exact ⟨by simp only[dF];exact hdf,v,rO (by simp (disch:=(try simp only[sP]);omega) only[eV]),⟨oo,ho1,fun h=>ho2 (h7 (h3 (hmono h)) h).2⟩,h5,h2.trans h6,fun h=>(h7 (h3 (hmono h)) h).1⟩
theorem k_rNBytes (H:REnv P E) (i32:qs P E.tI32=some .i32) (c32:CI32 P E) (cS:yH P E) (ht:Text P E.rNBytes 1 14 #[.tmp 2] (c_rNBytes E)) (hr:RdS W rb sb st) :
  qa P E.rNBytes #[.pointer (some ⟨rb,0,none⟩)] W fun x w'=>(∃ o,OctV w' sb W.heap.size x o/\((qP (jD st)).2.2=false->o=(qP (jD st)).1))/\RdS w' rb sb (qP (jD st)).2/\Eff (RM rb) W w'/\((qP (jD st)).2.2=false->NN w' rb):=by
 refine qa.enter ht (by simp) ?_
 intro a hsz hdf harg
 have e0:=harg 0 (.pointer (some ⟨rb,0,none⟩)) (by simp)
 have hlt:=kZ st
 unfold c_rNBytes
 refine vX (rA (dn (vX (rM ?_))))
 refine q8 (args:=#[.pointer (some ⟨rb,0,none⟩)]) ?_ (c32 rb sb st W hr) ?_
 ·simp only[lM]
  simp (disch:=(try simp only[sP]);omega) only[eV,e0]
 rintro v w1 ⟨rfl,h1,h2,h3⟩
 refine rA (dn (vS (vX (rM ?_))))
 refine qW (k:=.i32) (m:=(sgn 4 (rdN 4 st).1)) (n:=0) (by simp (disch:=(try simp only[sP]);omega) only[eV]) rfl ?_
 refine dn ?_
 refine vS (vC (t:=decide ((sgn 4 (rdN 4 st).1)<0)) (by simp (disch:=(try simp only[sP]);omega) only[eV]) ?_ ?_)
 ·intro h
  have h':(sgn 4 (rdN 4 st).1)<0:=by simpa using h
  have e:qP (jD st)=(none,(rdN 4 st).2):=by unfold qP jD;rw[if_pos h']
  rw[e]
  refine vX (rA (dn (vS (vT ?_))))
  exact ⟨by simp only[dF];exact hdf,.slice none 0 0,rO (by simp (disch:=(try simp only[sP]);omega) only[eV]),⟨none,rfl,fun _=>rfl⟩,h1,h2,h3⟩
 ·intro h
  have h':¬ (sgn 4 (rdN 4 st).1)<0:=by simpa using h
  have e:qP (jD st)=(some (qr (sgn 4 (rdN 4 st).1) (rdN 4 st).2).1,(qr (sgn 4 (rdN 4 st).1) (rdN 4 st).2).2):=by unfold qP jD;rw[if_neg h']
  rw[e]
  refine vK (vN (vX (rM (rM ?_))))
  refine qM (k:=.i32) (k':=.i64) (m:=(sgn 4 (rdN 4 st).1)) i32 H.int (by simp (disch:=(try simp only[sP]);omega) only[eV]) ?_
  rw[wrap_i64 (by omega) (by omega)]
  refine q8 (args:=#[.pointer (some ⟨rb,0,none⟩),.int .i64 (sgn 4 (rdN 4 st).1)]) ?_ (cS rb sb (rdN 4 st).2 (sgn 4 (rdN 4 st).1) w1 h1) ?_
  ·simp only[lM]
   simp (disch:=(try simp only[sP]);omega) only[eV,e0]
  rintro v w2 ⟨h4,h5,h6,h7⟩
  have hmono:(qr (sgn 4 (rdN 4 st).1) (rdN 4 st).2).2.2=false->(rdN 4 st).2.2=false:=qO
  generalize qr (sgn 4 (rdN 4 st).1) (rdN 4 st).2=p at *
  refine rA (dn (vX (rM (rA (dn (vS (vT ?_)))))))
  obtain ⟨oo,ho1,ho2⟩:=h4.octV (B:=W.heap.size) h5.lt
  exact ⟨by simp only[dF];exact hdf,v,rO (by simp (disch:=(try simp only[sP]);omega) only[eV]),⟨oo,ho1,fun h=>ho2 (h7 (h3 (hmono h)) h).2⟩,h5,h2.trans h6,fun h=>(h7 (h3 (hmono h)) h).1⟩
theorem k_rCNBytes (H:REnv P E) (iu:qs P E.tW=some .u32) (cU:CUv P E) (cS:yH P E) (ht:Text P E.rCNBytes 1 15 #[.tmp 2] (wA E)) (hr:RdS W rb sb st) :
  qa P E.rCNBytes #[.pointer (some ⟨rb,0,none⟩)] W fun x w'=>(∃ o,OctV w' sb W.heap.size x o/\((qP (zR st)).2.2=false->o=(qP (zR st)).1))/\RdS w' rb sb (qP (zR st)).2/\Eff (RM rb) W w'/\((qP (zR st)).2.2=false->NN w' rb):=by
 refine qa.enter ht (by simp) ?_
 intro a hsz hdf harg
 have e0:=harg 0 (.pointer (some ⟨rb,0,none⟩)) (by simp)
 have hlt:=ze st
 unfold wA
 refine vX (rA (dn (vX (rM ?_))))
 refine q8 (args:=#[.pointer (some ⟨rb,0,none⟩)]) ?_ (cU rb sb st W hr) ?_
 ·simp only[lM]
  simp (disch:=(try simp only[sP]);omega) only[eV,e0]
 rintro v w1 ⟨rfl,h1,h2,h3⟩
 refine qM (k:=.u32) (k':=.i64) (m:=((qp st).1:Int)) iu H.int (by simp (disch:=(try simp only[sP]);omega) only[eV]) ?_
 rw[wrap_i64 (by omega) (by omega)]
 refine yE (k:=.i64) (m:=((qp st).1:Int)) (n:=1) (by simp (disch:=(try simp only[sP]);omega) only[eV]) rfl ?_
 rw[wrap_i64 (by omega) (by omega)]
 refine rA (dn (vS (vX (rM ?_))))
 refine qW (k:=.i64) (m:=((((qp st).1:Nat):Int)-1)) (n:=0) (by simp (disch:=(try simp only[sP]);omega) only[eV]) rfl ?_
 refine dn ?_
 refine vS (vC (t:=decide (((((qp st).1:Nat):Int)-1)<0)) (by simp (disch:=(try simp only[sP]);omega) only[eV]) ?_ ?_)
 ·intro h
  have h':((((qp st).1:Nat):Int)-1)<0:=by simpa using h
  have e:qP (zR st)=(none,(qp st).2):=by unfold qP zR;rw[if_pos h']
  rw[e]
  refine vX (rA (dn (vS (vT ?_))))
  exact ⟨by simp only[dF];exact hdf,.slice none 0 0,rO (by simp (disch:=(try simp only[sP]);omega) only[eV]),⟨none,rfl,fun _=>rfl⟩,h1,h2,h3⟩
 ·intro h
  have h':¬ ((((qp st).1:Nat):Int)-1)<0:=by simpa using h
  have e:qP (zR st)=(some (qr ((((qp st).1:Nat):Int)-1) (qp st).2).1,(qr ((((qp st).1:Nat):Int)-1) (qp st).2).2):=by unfold qP zR;rw[if_neg h']
  rw[e]
  refine vK (vN (vX (rM (rM ?_))))
  refine q8 (args:=#[.pointer (some ⟨rb,0,none⟩),.int .i64 ((((qp st).1:Nat):Int)-1)]) ?_ (cS rb sb (qp st).2 ((((qp st).1:Nat):Int)-1) w1 h1) ?_
  ·simp only[lM]
   simp (disch:=(try simp only[sP]);omega) only[eV,e0]
  rintro v w2 ⟨h4,h5,h6,h7⟩
  have hmono:(qr ((((qp st).1:Nat):Int)-1) (qp st).2).2.2=false->(qp st).2.2=false:=qO
  generalize qr ((((qp st).1:Nat):Int)-1) (qp st).2=p at *
  refine rA (dn (vX (rM (rA (dn (vS (vT ?_)))))))
  obtain ⟨oo,ho1,ho2⟩:=h4.octV (B:=W.heap.size) h5.lt
  exact ⟨by simp only[dF];exact hdf,v,rO (by simp (disch:=(try simp only[sP]);omega) only[eV]),⟨oo,ho1,fun h=>ho2 (h7 (h3 (hmono h)) h).2⟩,h5,h2.trans h6,fun h=>(h7 (h3 (hmono h)) h).1⟩
theorem wrap_i32_rng (n:Int):-2147483648<=IntKind.i32.wrap n/\IntKind.i32.wrap n<=2147483647:=by
 have h2:(2:Int) ^ 32=4294967296:=by decide
 have h3:(2:Int) ^ (32-1)=2147483648:=by decide
 simp only[IntKind.wrap,IntKind.bits,IntKind.signed,Bool.true_and,decide_eq_true_eq,h2,h3]
 split<;>omega
theorem k_rLen (H:REnv P E) (i32:qs P E.tI32=some .i32) (c32:CI32 P E) (ht:Text P E.rLen 1 21 #[.tmp 2] (c_rLen E)) (hr:RdS W rb sb st) :
  RdC P E.rLen rb sb (rdC4 st).2 (.int .i32 (rdC4 st).1) W:=by
 refine qa.enter ht (by simp) ?_
 intro a hsz hdf harg
 have e0:=harg 0 (.pointer (some ⟨rb,0,none⟩)) (by simp)
 unfold c_rLen
 refine vX (rA (dn (vX (rM ?_))))
 refine q8 (args:=#[.pointer (some ⟨rb,0,none⟩)]) ?_ (c32 rb sb st W hr) ?_
 ·simp only[lM]
  simp (disch:=(try simp only[sP]);omega) only[eV,e0]
 rintro v w1 ⟨rfl,h1,h2,h3⟩
 have hrng:=kZ st
 refine rA (dn ?_)
 have eR:rdC4 st=if ((rdN 4 st).2.1.length:Int)<(sgn 4 (rdN 4 st).1) then (0,[],true) else ((sgn 4 (rdN 4 st).1),(rdN 4 st).2):=rfl
 refine vS (vX ?_)
 refine r_srcLen (t:=6) H (by simp only[zP];omega) (by decide) (by simp (disch:=(try simp only[sP]);omega) only[eV,e0]) h1 ?_
 intro A1 a1 a2 a3 a4
 simp only[zP,dF] at a1 a2
 have b0:A1.eval (.tmp 0)=.pointer (some ⟨rb,0,none⟩):=by rw[a3 0 (by omega)];simp (disch:=(try simp only[sP]);omega) only[eV,e0]
 have b3:A1.eval (.tmp 3)=.int .i32 (sgn 4 (rdN 4 st).1):=by rw[a3 3 (by omega)];simp (disch:=(try simp only[sP]);omega) only[eV]
 have a4':A1.eval (.tmp 10)=.int .i64 ((rdN 4 st).2.1.length:Int):=a4
 refine rM ?_
 refine qM (k:=.i32) (k':=.i64) (m:=(sgn 4 (rdN 4 st).1)) i32 H.int (by simp (disch:=(try simp only[sP]);omega) only[eV,b3]) ?_
 rw[wrap_i64 (by omega) (by omega)]
 refine qW (k:=.i64) (m:=((rdN 4 st).2.1.length:Int)) (n:=(sgn 4 (rdN 4 st).1)) (by simp (disch:=(try simp only[sP]);omega) only[eV,a4']) (by simp (disch:=(try simp only[sP]);omega) only[eV]) ?_
 refine dn ?_
 refine vS (vC (t:=decide (((rdN 4 st).2.1.length:Int)<(sgn 4 (rdN 4 st).1))) (by simp (disch:=(try simp only[sP]);omega) only[eV]) ?_ ?_)
 ·intro h
  have h':((rdN 4 st).2.1.length:Int)<(sgn 4 (rdN 4 st).1):=by simpa using h
  rw[eR,if_pos h']
  refine wZ (t:=14) (X:=2) (zv:=.int .i32 0) H (by simp only[zP];omega) (by simp only[zP];omega) (by decide) (by decide) rfl (by simp (disch:=(try simp only[sP]);omega) only[eV,b0]) h1 ?_
  intro A' W' p1 p2 p3 p4
  exact ⟨by rw[p1];simp only[dF];rw[a2];exact hdf,_,rO p2,rfl,p3,h2.trans p4,fun h=>by cases h⟩
 ·intro h
  have h':¬ ((rdN 4 st).2.1.length:Int)<(sgn 4 (rdN 4 st).1):=by simpa using h
  rw[eR,if_neg h']
  refine vK (vN (vX (rM (rA (dn (vS (vT ?_)))))))
  exact ⟨by simp only[dF];rw[a2];exact hdf,.int .i32 (sgn 4 (rdN 4 st).1),rO (by simp (disch:=(try simp only[sP]);omega) only[eV,b3]),rfl,h1,h2,h3⟩
theorem k_rCLen (H:REnv P E) (iu:qs P E.tW=some .u32) (i32:qs P E.tI32=some .i32) (cU:CUv P E) (ht:Text P E.rCLen 1 23 #[.tmp 2] (c_rCLen E)) (hr:RdS W rb sb st) :
  RdC P E.rCLen rb sb (rdCc st).2 (.int .i32 (rdCc st).1) W:=by
 refine qa.enter ht (by simp) ?_
 intro a hsz hdf harg
 have e0:=harg 0 (.pointer (some ⟨rb,0,none⟩)) (by simp)
 unfold c_rCLen
 refine vX (rA (dn (vX (rM ?_))))
 refine q8 (args:=#[.pointer (some ⟨rb,0,none⟩)]) ?_ (cU rb sb st W hr) ?_
 ·simp only[lM]
  simp (disch:=(try simp only[sP]);omega) only[eV,e0]
 rintro v w1 ⟨rfl,h1,h2,h3⟩
 refine qM (k:=.u32) (k':=.i32) (m:=((qp st).1:Int)) iu i32 (by simp (disch:=(try simp only[sP]);omega) only[eV]) ?_
 refine yE (k:=.i32) (m:=IntKind.i32.wrap ((qp st).1:Int)) (n:=1) (by simp (disch:=(try simp only[sP]);omega) only[eV]) rfl ?_
 have hrng:=wrap_i32_rng (IntKind.i32.wrap ((qp st).1:Int)-1)
 refine rA (dn ?_)
 have eR:rdCc st=if ((qp st).2.1.length:Int)<(IntKind.i32.wrap (IntKind.i32.wrap ((qp st).1:Int)-1)) then (0,[],true) else ((IntKind.i32.wrap (IntKind.i32.wrap ((qp st).1:Int)-1)),(qp st).2):=rfl
 refine vS (vX ?_)
 refine r_srcLen (t:=8) H (by simp only[zP];omega) (by decide) (by simp (disch:=(try simp only[sP]);omega) only[eV,e0]) h1 ?_
 intro A1 a1 a2 a3 a4
 simp only[zP,dF] at a1 a2
 have b0:A1.eval (.tmp 0)=.pointer (some ⟨rb,0,none⟩):=by rw[a3 0 (by omega)];simp (disch:=(try simp only[sP]);omega) only[eV,e0]
 have b3:A1.eval (.tmp 3)=.int .i32 (IntKind.i32.wrap (IntKind.i32.wrap ((qp st).1:Int)-1)):=by rw[a3 3 (by omega)];simp (disch:=(try simp only[sP]);omega) only[eV]
 have a4':A1.eval (.tmp 12)=.int .i64 ((qp st).2.1.length:Int):=a4
 refine rM ?_
 refine qM (k:=.i32) (k':=.i64) (m:=(IntKind.i32.wrap (IntKind.i32.wrap ((qp st).1:Int)-1))) i32 H.int (by simp (disch:=(try simp only[sP]);omega) only[eV,b3]) ?_
 rw[wrap_i64 (by omega) (by omega)]
 refine qW (k:=.i64) (m:=((qp st).2.1.length:Int)) (n:=(IntKind.i32.wrap (IntKind.i32.wrap ((qp st).1:Int)-1))) (by simp (disch:=(try simp only[sP]);omega) only[eV,a4']) (by simp (disch:=(try simp only[sP]);omega) only[eV]) ?_
 refine dn ?_
 refine vS (vC (t:=decide (((qp st).2.1.length:Int)<(IntKind.i32.wrap (IntKind.i32.wrap ((qp st).1:Int)-1)))) (by simp (disch:=(try simp only[sP]);omega) only[eV]) ?_ ?_)
 ·intro h
  have h':((qp st).2.1.length:Int)<(IntKind.i32.wrap (IntKind.i32.wrap ((qp st).1:Int)-1)):=by simpa using h
  rw[eR,if_pos h']
  refine wZ (t:=16) (X:=2) (zv:=.int .i32 0) H (by simp only[zP];omega) (by simp only[zP];omega) (by decide) (by decide) rfl (by simp (disch:=(try simp only[sP]);omega) only[eV,b0]) h1 ?_
  intro A' W' p1 p2 p3 p4
  exact ⟨by rw[p1];simp only[dF];rw[a2];exact hdf,_,rO p2,rfl,p3,h2.trans p4,fun h=>by cases h⟩
 ·intro h
  have h':¬ ((qp st).2.1.length:Int)<(IntKind.i32.wrap (IntKind.i32.wrap ((qp st).1:Int)-1)):=by simpa using h
  rw[eR,if_neg h']
  refine vK (vN (vX (rM (rA (dn (vS (vT ?_)))))))
  exact ⟨by simp only[dF];rw[a2];exact hdf,.int .i32 (IntKind.i32.wrap (IntKind.i32.wrap ((qp st).1:Int)-1)),rO (by simp (disch:=(try simp only[sP]);omega) only[eV,b3]),rfl,h1,h2,h3⟩
end
end Go.Km
namespace Go.Km
open Go Go.RowKit
def Trs.toL:Trs->List Tr
 | .nil=>[]
 | .cons t r=>t::r.toL
def xR (kind:Int) (pt:Tr->List UInt8) (nl fx:Bool) (t:Tr):List UInt8 :=
 match t with
 | .mk n s _ _ _ =>
  if kind=0 then [o8 (n % 2)]
  else if kind=7 then s.take 16++List.replicate (16-s.length) 0
  else if kind=8 then (let s':=if nl then [] else s.take 32767;cnt fx nl s'.length 2++s')
  else if kind=9 then (let s':=if nl then [] else s.take 32767;cnt fx nl s'.length 4++s')
  else if kind=10 then pt t
  else be (xu kind.toNat) n
def jc (n:Nat) (b:List UInt8):List UInt8:=Go.Km.uvar n++Go.Km.uvar b.length++b
def zw (x:Nat × List UInt8):List (Nat × List UInt8)->List (Nat × List UInt8)
 | []=>[x]
 | y::r=>if y.1<x.1 then y::zw x r else if y.1=x.1 then y::r else x::y::r
def unk (least:Nat) (u:List (Nat × List UInt8)):List (Nat × List UInt8) :=
 (u.take 32767).foldl (fun l x=>if x.1<least then l else zw x l) []
abbrev Rec:=Int × Bool × Bool × List UInt8
def known (l:List Int):Nat:=l.foldl (fun n t=>if 0<=t then max n (t.toNat+1) else n) 0
def kI (fx:Bool) (rs:List Rec) (u:List (Nat × List UInt8)):List UInt8 :=
 let out:=(rs.map fun r=>if r.1<0&&r.2.1 then r.2.2.2 else []).flatten
 if fx then
  let kn:=known (rs.map (·.1))
  let tg:=(List.range kn).flatMap fun (k:Nat)=>rs.filterMap fun r=>if decide (r.1=((k:Nat):Int)) && !r.2.2.1 then some ((k:Nat),r.2.2.2) else none
  let un:=(unk kn u).map fun x=>(x.1,x.2.take 32767)
  out++Go.Km.uvar (tg.length+un.length)++((tg++un).map fun x=>jc x.1 x.2).flatten
 else out
def SFs.tags:SFs->List Int
 | .nil=>[]
 | .cons (.mk _ _ _ _ tag _ _ _) r=>tag::r.tags
mutual
def SF.usual:SF->Tr->Bool
 | .mk kind _ _ nul _ df _ sub,t =>
  match t with
  | .mk n s nl l u =>
   if kind=0 then n % 2==df
   else if kind=7 then (s.take 16).all (·==0)
   else if kind=8||kind=9 then (if nul ≥ 0 then nl else s.isEmpty)
   else if kind=11 then l.len==0
   else if kind=10 then sub.usual 0 (.mk n s nl l u)&&(unk (known sub.tags) u).isEmpty
   else be (xu kind.toNat) n==be (xu kind.toNat) df
def SFs.usual:SFs->Nat->Tr->Bool
 | .nil,_,_=>true
 | .cons f r,i,t=>f.usual (t.at i)&&r.usual (i+1) t
end
mutual
def SF.wr (v:Int) (fx:Bool):SF->Tr->List UInt8
 | .mk kind fr to nul tag df el sub,t =>
  let nl:=(SF.mk kind fr to nul tag df el sub).isNull v t
  let pt:Tr->List UInt8:=fun t=>kI fx (sub.recs v fx 0 t) (match t with | .mk _ _ _ _ u=>u)
  if kind=11 then
   let l:=if nl then [] else (match t with | .mk _ _ _ l _=>l.toL.take 32767)
   cnt fx nl l.length 4++(l.map fun t=>xR el pt false fx t).flatten
  else if kind=10&&nul ≥ 0 then (if nl then be 1 (-1) else be 1 1++pt t)
  else xR kind pt nl fx t
def SFs.recs (v:Int) (fx:Bool):SFs->Nat->Tr->List Rec
 | .nil,_,_=>[]
 | .cons f r,i,t=>((match f with | .mk _ _ _ _ tag _ _ _=>tag),f.has v,f.usual (t.at i),f.wr v fx (t.at i))::r.recs v fx (i+1) t
end
def SFs.part (v:Int) (fx:Bool) (fs:SFs) (t:Tr):List UInt8:=kI fx (fs.recs v fx 0 t) (match t with | .mk _ _ _ _ u=>u)
mutual
def SF.one:SF->Tr
 | .mk kind _ _ nul _ df _ sub=>.mk df [] (decide (nul ≥ 0)) (if kind=10 then sub.ones else .nil) []
def SFs.ones:SFs->Trs
 | .nil=>.nil
 | .cons f r=>.cons f.one r.ones
end
def SFs.dflt (fs:SFs):Tr:=.mk 0 [] false fs.ones []
mutual
def Ty.dflt:Ty->D
 | .scal _ df | .named _ _ df=>.int df
 | .uuid=>.bytes (some (List.replicate 16 0))
 | .text=>.bytes (some [])
 | .ntext | .ntextFrom _=>.bytes none
 | .bytes | .nbytes=>.bytes none
 | .list _ _ _ | .nstruct _ _ _ _ _=>.list none
 | .struct _ _ _ fs=>.obj fs.dflt []
def Flds.dflt:Flds->List D
 | .nil _=>[]
 | .cons _ t r=>t.dflt::r.dflt
end
end Go.Km
namespace Go.Km
open Go Go.RowKit
attribute [local irreducible] vc rO_ qz qI qF
section
variable {P : Program} {a : Act} {w : World} {r : List Oper} {Q : Exit → Act → World → Prop}
theorem wG (z:Array Value) (n j u:Nat) (hj:j<n) (hu:u<z.size):(Builtin.zeroCells z n)[j*z.size+u]? = z[u]?:=by
 have h:j*z.size+u<n*z.size:=by
  have:(j+1)*z.size<=n*z.size:=Nat.mul_le_mul_right _ hj
  rw[Nat.add_mul] at this
  omega
 have hm:(j*z.size+u) % z.size=u:=by rw[Nat.mul_comm,Nat.mul_add_mod];exact Nat.mod_eq_of_lt hu
 simp[Builtin.zeroCells,h,hm,hu]
theorem run_appendMake {t tx ty e k s z base} {n c:Nat} (hB:xd P t e s=true) (hi:qs P tx=some k) (hz:qH P e=some z) (h0:0<n) (hb:n<=big) (hc:c<n) :
  (Builtin.append_ #[t,tx] ty #[.slice base 0 c,.int k (n:Int)]).run P w=.ok (.slice (some ⟨w.heap.size,0,none⟩) n (grownCap w n c e))
   (w.drew.alloc (.cells (Builtin.zeroCells z.cells n++Builtin.zeroCells z.cells (grownCap w n c e-n)) e)):=by
 obtain ⟨hu,i,z',hi',hsize,hs0,hz',hzs,hby⟩:=xM hB
 have hzz:i.zero=some z:=by
  unfold qH at hz
  simpa [hi'] using hz
 have hk:=gn hi
 have hn0:¬ n=0:=by omega
 have hnc:¬ n<=c:=by omega
 have hw:IntKind.i64.wrap (n:Int)=(n:Int):=wrap_i64 (by omega) (by unfold big at hb;omega)
 have hbytes:n*i.bytes<=140737488355328:=by
  refine Nat.le_trans (Nat.mul_le_mul hb hby) ?_
  unfold big
  omega
 have h48:¬ (281474976710656<(n:Int)*(i.bytes:Int)):=by
  have:(n:Int)*(i.bytes:Int)=((n*i.bytes:Nat):Int):=by simp
  omega
 have hg:=growslice_fits (need:=n) (old:=c) (bytes:=i.bytes) hc hbytes
 have hg':¬ (281474976710656<Builtin.nextslicecap n c*i.bytes):=by omega
 have h63:¬ (9223372036854775807<(n:Int)):=by unfold big at hb;omega
 have hneg:¬ ((n:Int)<0):=by omega
 have hcells:(Builtin.firstCells s 0 (.slice base 0 c)).run P w.drew=.ok #[] w.drew:=by
  cases base<;>simp[Builtin.firstCells,loadCells,loadCellsFrom]
 have hsn:¬ s=0:=by omega
 simp[Builtin.append_,run_underlying hu,run_underlying hk,sizeOf,typeInfo,zeroValue,hi',hzz,hsize,asInt,asIntOf,hw,hneg,h48,hn0,hnc,hsn,hg',h63,hcells,Question.forced,newRow,grownCap]
 intro hns
 have:0<n*s:=Nat.mul_pos h0 hs0
 omega
theorem run_appendRoom {t tx ty e k s z q} {n c:Nat} (hB:xd P t e s=true) (hi:qs P tx=some k) (hz:qH P e=some z) (h0:0<n) (hb:n<=big) (hc:n<=c) (hf:∀ i,i<n*s->qq w q i) (h1:∀ v ∈ z.cells.toList,v.oneCell'=true) :
  (Builtin.append_ #[t,tx] ty #[.slice (some ⟨q,0,none⟩) 0 c,.int k (n:Int)]).run P w=.ok (.slice (some ⟨q,0,none⟩) n c) (setCells w q 0 (Builtin.zeroCells z.cells n).toList):=by
 obtain ⟨hu,i,z',hi',hsize,hs0,hz',hzs,hby⟩:=xM hB
 have hzz:i.zero=some z:=by
  unfold qH at hz
  simpa [hi'] using hz
 have hzs':z.cells.size=s:=by
  rw[hzz] at hz'
  cases hz'
  exact hzs
 have hk:=gn hi
 have hn0:¬ n=0:=by omega
 have hw:IntKind.i64.wrap (n:Int)=(n:Int):=wrap_i64 (by omega) (by unfold big at hb;omega)
 have hbytes:n*i.bytes<=140737488355328:=by
  refine Nat.le_trans (Nat.mul_le_mul hb hby) ?_
  unfold big
  omega
 have h48:¬ (281474976710656<(n:Int)*(i.bytes:Int)):=by
  have:(n:Int)*(i.bytes:Int)=((n*i.bytes:Nat):Int):=by simp
  omega
 have hneg:¬ ((n:Int)<0):=by omega
 have hsn:¬ s=0:=by omega
 have hlen:(Builtin.zeroCells z.cells n).toList.length=n*s:=by rw[Array.length_toList,size_zeroCells,hzs']
 have hr:=jq (P:=P) q (Builtin.zeroCells z.cells n).toList w 0 0 (fun j hj=>by rw[hlen] at hj;simpa using hf j hj) (by
  intro v hv
  obtain ⟨j,hj,rfl⟩:=List.getElem_of_mem hv
  have hj':j<n*z.cells.size:=by simpa [size_zeroCells] using hj
  have hm:j % z.cells.size<z.cells.size:=Nat.mod_lt _ (by omega)
  have:(Builtin.zeroCells z.cells n).toList[j]=z.cells[j % z.cells.size]:=by simp[Builtin.zeroCells,hm]
  rw[this]
  exact h1 _ (by simp))
 simp only[Nat.zero_add] at hr
 have hns:¬ n*s=0:=by
  have:0<n*s:=Nat.mul_pos h0 hs0
  omega
 simp[Builtin.append_,run_underlying hu,run_underlying hk,sizeOf,typeInfo,zeroValue,hi',hzz,hsize,asInt,asIntOf,hw,hneg,h48,hn0,hsn,hc,Addr.add_lit,hr]
 exact fun h=>absurd h hns
theorem r_appendMake {d t tx s x ty p af g e sz k z base} {n c:Nat} (hB:xd P t e sz=true) (hi:qs P tx=some k) (hz:qH P e=some z) (hs:a.eval s=.slice base 0 c) (hx:a.eval x=.int k (n:Int)) (h0:0<n) (hb:n<=big)
  (ho:c≠0->(∀ v ∈ z.cells.toList,v.oneCell'=true)/\∃ q,base=some ⟨q,0,none⟩/\∀ i,i<c*sz->qq w q i)
  (h:∀ q cap w',Eff (fun k _=>c≠0/\base=some ⟨k,0,none⟩) w w'->(q=w.heap.size\/(c≠0/\base=some ⟨q,0,none⟩))->q<w'.heap.size->n<=cap->(∀ j,j<n->qb w' q (j*sz) z.cells.toList)->(∀ i,i<cap*sz->qq w' q i)->rO_ P Q r (a.put (some d) (.slice (some ⟨q,0,none⟩) n cap)) w') :
  rO_ P Q (⟨some d,.call { callee:=.builtin .append,args:=#[s,x],argTypes:=#[t,tx] },ty,p,af,g⟩::r) a w:=by
 refine st ?_
 obtain ⟨_,i,z',hi',hsize,hs0,hz',hzs,hby⟩:=xM hB
 have hzz:z.cells.size=sz:=by
  unfold qH at hz
  simp only[hi',Option.bind_some] at hz
  rw[hz'] at hz
  cases hz
  exact hzs
 have hlt:∀ j u,j<n->u<z.cells.size->j*z.cells.size+u<n*z.cells.size:=by
  intro j u hj hus
  have:(j+1)*z.cells.size<=n*z.cells.size:=Nat.mul_le_mul_right _ hj
  rw[Nat.add_mul] at this
  omega
 have hat:∀ (u:Nat) (v:Value),z.cells.toList[u]? = some v->u<z.cells.size:=by
  intro u v hu
  rcases Nat.lt_or_ge u z.cells.size with h | h
  ·exact h
  ·rw[List.getElem?_eq_none (by simpa using h)] at hu;cases hu
 rcases Nat.lt_or_ge c n with hcn | hcn
 ·have hr:=run_appendMake (w:=w) (ty:=ty) (base:=base) hB hi hz h0 hb hcn
  simp only[Oper.wp,execOp,resolve,invoke,builtin,Sem.run_bind,Sem.run_pure,Result.andThen_ok,List.map_toArray,List.map_cons,List.map_nil,hs,hx,hr,Oper.upon_value]
  refine h _ _ _ ?_ (.inl rfl) (by simp) (grownCap_ge w n c e) ?_ ?_
  ·exact Eff.of_below ((show Below w.heap.size w w.drew from ⟨rfl,rfl,rfl,Nat.le_refl _,fun _ _=>rfl⟩).alloc (by simp) _)
  ·intro j hj u v hu
   have hus:=hat u v hu
   refine qt w.drew _ _ ?_
   rw[← hzz]
   rw[Array.getElem?_append_left (by rw[size_zeroCells];exact hlt j u hj hus),wG _ _ _ _ hj hus]
   simpa using hu
  ·intro i hi
   refine qn w.drew _ _ ?_
   rw[Array.size_append,size_zeroCells,size_zeroCells,hzz,← Nat.add_mul,Nat.add_sub_cancel' (grownCap_ge w n c e)]
   exact hi
 ·have hc0:c≠0:=by omega
  obtain ⟨h1,q,rfl,hf⟩:=ho hc0
  have hfn:∀ i,i<n*sz->qq w q i:=fun i hi=>hf i (by have:=Nat.mul_le_mul_right sz hcn;omega)
  have hr:=run_appendRoom (w:=w) (ty:=ty) hB hi hz h0 hb hcn hfn h1
  have hlen:(Builtin.zeroCells z.cells n).toList.length=n*sz:=by rw[Array.length_toList,size_zeroCells,hzz]
  have hE:=qe q (Builtin.zeroCells z.cells n).toList w 0
  simp only[Oper.wp,execOp,resolve,invoke,builtin,Sem.run_bind,Sem.run_pure,Result.andThen_ok,List.map_toArray,List.map_cons,List.map_nil,hs,hx,hr,Oper.upon_value]
  refine h q c _ (hE.mono (by rintro k i _ ⟨rfl,_⟩;exact ⟨hc0,rfl⟩)) (.inr ⟨hc0,rfl⟩) (Nat.lt_of_lt_of_le (hf 0 (Nat.mul_pos (by omega) hs0)).lt hE.size) hcn ?_ (fun i hi=>(hf i hi).eff hE)
  intro j hj u v hu
  have hus:=hat u v hu
  rw[← hzz]
  have:=qg q (Builtin.zeroCells z.cells n).toList w 0 (fun i hi=>by rw[hlen] at hi;simpa using (hfn i hi).1) (j*z.cells.size+u) v (by rw[Array.getElem?_toList,wG _ _ _ _ hj hus];simpa using hu)
  simpa using this
end
def Scal.rd:Scal->RSt->Int × RSt
 | .bool,st=>(if (rdN 1 st).1 != 0 then 1 else 0,(rdN 1 st).2)
 | .i8,st=>(sgn 1 (rdN 1 st).1,(rdN 1 st).2)
 | .i16,st=>(sgn 2 (rdN 2 st).1,(rdN 2 st).2)
 | .u16,st=>((rdN 2 st).1,(rdN 2 st).2)
 | .i32,st=>(sgn 4 (rdN 4 st).1,(rdN 4 st).2)
 | .i64,st=>(sgn 8 (rdN 8 st).1,(rdN 8 st).2)
 | .f64,st=>((rdN 8 st).1,(rdN 8 st).2)
def qX (f:RSt->D × RSt):Nat->RSt->List D × RSt
 | 0,st=>([],st)
 | n+1,st=>((f st).1::(qX f n (f st).2).1,(qX f n (f st).2).2)
def xp (st:RSt):(Nat × List UInt8) × RSt :=
 let p:=qp st
 let q:=qp p.2
 let s:=qr (q.1:Int) q.2
 ((p.1,s.1),s.2)
def qS:Nat->List (Nat × List UInt8)->RSt->List (Nat × List UInt8) × RSt
 | 0,l,st=>(l,st)
 | n+1,l,st=>qS n (qx (xp st).1.1 (xp st).1.2 l) (xp st).2
def zi (st:RSt):List (Nat × List UInt8) × RSt:=qS (qp st).1 [] (qp st).2
def qD (ck:Nat->List UInt8->Bool):Nat->List (Nat × List UInt8)->RSt->List (Nat × List UInt8) × RSt
 | 0,l,st=>(l,st)
 | n+1,l,st=>qD ck n (qx (xp st).1.1 (xp st).1.2 l) ((xp st).2.1,(xp st).2.2 || !ck (xp st).1.1 (xp st).1.2)
def zD (ck:Nat->List UInt8->Bool) (st:RSt):List (Nat × List UInt8) × RSt:=qD ck (qp st).1 [] (qp st).2
def noK:Nat->List UInt8->Bool:=fun _ _=>true
theorem rdTagsNK_no:∀ (n:Nat) (l:List (Nat × List UInt8)) (st:RSt),qD noK n l st=qS n l st
 | 0,_,_=>rfl
 | n+1,l,st=>by simp only[qD,qS,noK,Bool.not_true,Bool.or_false];exact rdTagsNK_no n _ _
theorem rdTagsK_no (st:RSt):zD noK st=zi st:=rdTagsNK_no _ _ _
def Ver.ckT (v:Ver) (f:List UInt8->Bool) (ck:Nat->List UInt8->Bool):Nat->List UInt8->Bool :=
 match v with
 | .tag k _=>fun j p=>if j=k then f p else ck j p
 | _=>ck
def Ver.getT (v:Ver) (d:D) (f:List UInt8->D) (tags:List (Nat × List UInt8)):D :=
 match v with
 | .tag k _=>match tags.find? (fun x=>x.1==k) with
  | some x=>f x.2
  | none=>d
 | _=>d
def Ver.dropT (v:Ver) (tags:List (Nat × List UInt8)):List (Nat × List UInt8) :=
 match v with
 | .tag k _=>tags.filter fun x=>x.1 != k
 | _=>tags
theorem Ver.ckT_no {v:Ver} (h:v.isTag=false) (f:List UInt8->Bool) (ck:Nat->List UInt8->Bool):v.ckT f ck=ck:=by cases v<;>first | rfl | cases h
theorem Ver.getT_no {v:Ver} (h:v.isTag=false) (d:D) (f:List UInt8->D) (tags:List (Nat × List UInt8)):v.getT d f tags=d:=by cases v<;>first | rfl | cases h
theorem Ver.dropT_no {v:Ver} (h:v.isTag=false) (tags:List (Nat × List UInt8)):v.dropT tags=tags:=by cases v<;>first | rfl | cases h
def rdL (fx:Bool) (st:RSt):Int × RSt:=if fx then zR st else wm st
def xX (fx:Bool) (st:RSt):Int × RSt:=if fx then zR st else jD st
def xl (fx:Bool) (st:RSt):Int × RSt:=if fx then rdCc st else rdC4 st
def j4 (null:Option Nat) (ver:Nat) (n:Int):Bool :=
 match null with
 | none=>false
 | some N=>decide (ver<N)||n==0
mutual
def Ty.rd (fx:Bool) (ver:Nat):Ty->RSt->D × RSt
 | .scal s _,st | .named s _ _,st=>(.int (s.rd st).1,(s.rd st).2)
 | .uuid,st=>(.bytes (some (qr 16 st).1),(qr 16 st).2)
 | .text,st=>(.bytes (some (zz (rdL fx st)).1),(zz (rdL fx st)).2)
 | .ntext,st=>(.bytes (qP (rdL fx st)).1,(qP (rdL fx st)).2)
 | .ntextFrom N,st=>if ver<N then (.bytes (some (zz (rdL fx st)).1),(zz (rdL fx st)).2) else (.bytes (qP (rdL fx st)).1,(qP (rdL fx st)).2)
 | .bytes,st=>(.bytes (xN (xX fx st)).1,(xN (xX fx st)).2)
 | .nbytes,st=>(.bytes (qP (xX fx st)).1,(qP (xX fx st)).2)
 | .list _ null e,st =>
  if (xl fx st).2.2 then (.list none,(xl fx st).2)
  else if (xl fx st).1<=0 then (if j4 null ver (xl fx st).1 then .list (some []) else .list none,(xl fx st).2)
  else (.list (some (qX (fun s=>e.rd fx ver s) (xl fx st).1.toNat (xl fx st).2).1),(qX (fun s=>e.rd fx ver s) (xl fx st).1.toNat (xl fx st).2).2)
 | .struct _ _ _ fs,st=>(.obj (fs.rd fx ver noK st).1 (fs.rd fx ver noK st).2.1,(fs.rd fx ver noK st).2.2)
 | .nstruct _ _ _ fs _,st =>
  if (Scal.i8.rd st).1 = -1\/(Scal.i8.rd st).2.2=true then (.list none,(Scal.i8.rd st).2)
  else (.list (some [.obj (fs.rd fx ver noK (Scal.i8.rd st).2).1 (fs.rd fx ver noK (Scal.i8.rd st).2).2.1]),(fs.rd fx ver noK (Scal.i8.rd st).2).2.2)
def Flds.rd (fx:Bool) (ver:Nat) (ck:Nat->List UInt8->Bool):Flds->RSt->List D × List (Nat × List UInt8) × RSt
 | .nil _,st=>if fx then ([],zD ck st) else ([],[],st)
 | .cons v t r,st =>
  if v.has ver then ((t.rd fx ver st).1::(Flds.rd fx ver ck r (t.rd fx ver st).2).1,(Flds.rd fx ver ck r (t.rd fx ver st).2).2)
  else (v.getT t.dflt (fun p=>(t.rd fx ver (p,false)).1) (Flds.rd fx ver (v.ckT (fun p=>!(t.rd fx ver (p,false)).2.2) ck) r st).2.1::(Flds.rd fx ver (v.ckT (fun p=>!(t.rd fx ver (p,false)).2.2) ck) r st).1,
   v.dropT (Flds.rd fx ver (v.ckT (fun p=>!(t.rd fx ver (p,false)).2.2) ck) r st).2.1,(Flds.rd fx ver (v.ckT (fun p=>!(t.rd fx ver (p,false)).2.2) ck) r st).2.2)
end
theorem Scal.rd_mono {k:Scal} {st:RSt} (h:(k.rd st).2.2=false):st.2=false:=by
 cases k<;>exact wX h
theorem yT {f:RSt->D × RSt} (hf:∀ st,(f st).2.2=false->st.2=false):∀ (n:Nat) (st:RSt),(qX f n st).2.2=false->st.2=false
 | 0,st,h=>h
 | n+1,st,h=>hf st (yT hf n _ h)
theorem yn {st:RSt} (h:(xp st).2.2=false):st.2=false:=zp (zp (qO h))
theorem j7:∀ (n:Nat) (l:List (Nat × List UInt8)) (st:RSt),(qS n l st).2.2=false->st.2=false
 | 0,l,st,h=>h
 | n+1,l,st,h=>yn (j7 n _ _ h)
theorem zL {ck:Nat->List UInt8->Bool}:∀ (n:Nat) (l:List (Nat × List UInt8)) (st:RSt),(qD ck n l st).2.2=false->st.2=false
 | 0,l,st,h=>h
 | n+1,l,st,h=>by
  have:=zL n _ _ h
  simp only[Bool.or_eq_false_iff] at this
  exact yn this.1
theorem rdTagsK_mono {ck:Nat->List UInt8->Bool} {st:RSt} (h:(zD ck st).2.2=false):st.2=false:=zp (zL _ _ _ h)
theorem wY {fx:Bool} {st:RSt} (h:(rdL fx st).2.2=false):st.2=false:=by
 unfold rdL at h
 split at h
 ·exact zp h
 ·exact wX h
theorem rdLB_mono {fx:Bool} {st:RSt} (h:(xX fx st).2.2=false):st.2=false:=by
 unfold xX at h
 split at h
 ·exact zp h
 ·exact wX h
theorem jj {p:Int × RSt} (h:(qP p).2.2=false):p.2.2=false:=by
 unfold qP at h
 split at h
 ·exact h
 ·exact qO h
theorem rdOct_mono {p:Int × RSt} (h:(xN p).2.2=false):p.2.2=false:=by
 unfold xN at h
 split at h
 ·exact h
 ·exact qO h
theorem yp {p:Int × RSt} (h:(z8 p).2.2=false):p.2.2=false:=by
 unfold z8 at h
 split at h
 ·cases h
 ·exact h
theorem rdCn_mono {fx:Bool} {st:RSt} (h:(xl fx st).2.2=false):st.2=false:=by
 unfold xl at h
 split at h
 ·exact zp (yp h)
 ·exact wX (yp h)
mutual
theorem Ty.rd_mono (fx:Bool) (ver:Nat):∀ (t:Ty) (st:RSt),(t.rd fx ver st).2.2=false->st.2=false
 | .scal s _,st,h | .named s _ _,st,h=>Scal.rd_mono (k:=s) (by simpa only[Ty.rd] using h)
 | .uuid,st,h=>qO (l:=16) (by simpa only[Ty.rd] using h)
 | .text,st,h=>wY (fx:=fx) (qO (l:=(rdL fx st).1) (by simpa only[Ty.rd,zz] using h))
 | .ntext,st,h=>wY (fx:=fx) (jj (by simpa only[Ty.rd] using h))
 | .ntextFrom N,st,h=>by
  simp only[Ty.rd] at h
  split at h
  ·exact wY (fx:=fx) (qO (l:=(rdL fx st).1) (by simpa only[zz] using h))
  ·exact wY (fx:=fx) (jj h)
 | .bytes,st,h=>rdLB_mono (fx:=fx) (rdOct_mono (by simpa only[Ty.rd] using h))
 | .nbytes,st,h=>rdLB_mono (fx:=fx) (jj (by simpa only[Ty.rd] using h))
 | .list _ null e,st,h=>by
  simp only[Ty.rd] at h
  split at h
  ·rename_i hh;rw[hh] at h;cases h
  ·rename_i hh
   exact rdCn_mono (by simpa using hh)
 | .struct _ _ _ fs,st,h=>Flds.rd_mono fx ver fs st (by simpa only[Ty.rd] using h)
 | .nstruct _ _ _ fs _,st,h=>by
  simp only[Ty.rd] at h
  split at h
  ·exact Scal.rd_mono (k:=.i8) h
  ·exact Scal.rd_mono (k:=.i8) (Flds.rd_mono fx ver fs _ h)
theorem Flds.rd_mono (fx:Bool) (ver:Nat):∀ (t:Flds) {ck:Nat->List UInt8->Bool} (st:RSt),(t.rd fx ver ck st).2.2.2=false->st.2=false
 | .nil _,ck,st,h=>by
  cases fx with
  | true=>exact rdTagsK_mono (by simpa [Flds.rd] using h)
  | false=>simpa [Flds.rd] using h
 | .cons v t r,ck,st,h=>by
  simp only[Flds.rd] at h
  split at h
  ·exact Ty.rd_mono fx ver t st (Flds.rd_mono fx ver r _ h)
  ·exact Flds.rd_mono fx ver r _ h
end
end Go.Km
namespace Go.Km
open Go Go.RowKit
attribute [local irreducible] vc rO_ qz
mutual
def Ty.okD (P:Program) (E:Env):Ty->Bool
 | .scal k df=>df==0||qQ P (E.tScal k)
 | .named k T df=>df==0||qQ P T
 | .struct _ TU _ fs=>fs.okD P E TU 0 0
 | _=>true
def Flds.okD (P:Program) (E:Env) (TU:TypeId) (idx off:Nat):Flds->Bool
 | .nil _=>true
 | .cons _ t r=>ql P TU idx==some off&&t.okD P E&&r.okD P E TU (idx+1) (off+t.size)
end
mutual
def Ty.over:Ty->List Value->List Value
 | .scal k df,cs=>if df=0 then cs else [k.val df]
 | .named k _ df,cs=>if df=0 then cs else [k.val df]
 | .struct _ _ _ fs,cs=>fs.over cs
 | _,cs=>cs
def Flds.over:Flds->List Value->List Value
 | .nil _,cs=>cs
 | .cons _ t r,cs=>t.over (cs.take t.size)++r.over (cs.drop t.size)
end
mutual
def Ty.zc:Ty->List Value
 | .scal k _ | .named k _ _=>[k.val 0]
 | .uuid=>List.replicate 16 (.int .u8 0)
 | .text=>[.string ⟨#[]⟩]
 | .ntext | .ntextFrom _ | .nstruct _ _ _ _ _=>[.pointer none]
 | .bytes | .nbytes=>[.slice none 0 0]
 | .list _ _ _=>[.slice none 0 0]
 | .struct _ _ _ fs=>fs.zc
def Flds.zc:Flds->List Value
 | .nil t=>if t then [.map none] else []
 | .cons _ t r=>t.zc++r.zc
end
mutual
def Ty.dz:Ty->List Value
 | .scal k df | .named k _ df=>[k.val df]
 | .uuid=>List.replicate 16 (.int .u8 0)
 | .text=>[.string ⟨#[]⟩]
 | .ntext | .ntextFrom _ | .nstruct _ _ _ _ _=>[.pointer none]
 | .bytes | .nbytes=>[.slice none 0 0]
 | .list _ _ _=>[.slice none 0 0]
 | .struct _ _ _ fs=>fs.dz
def Flds.dz:Flds->List Value
 | .nil t=>if t then [.map none] else []
 | .cons _ t r=>t.dz++r.dz
end
mutual
theorem Ty.zc_len:∀ t:Ty,t.zc.length=t.size
 | .scal _ _ | .named _ _ _ | .text | .ntext | .ntextFrom _ | .bytes | .nbytes | .list _ _ _ | .nstruct _ _ _ _ _=>by simp[Ty.zc,Ty.size]
 | .uuid=>by simp[Ty.zc,Ty.size]
 | .struct _ _ _ fs=>by simp[Ty.zc,Ty.size,Flds.zc_len fs]
theorem Flds.zc_len:∀ t:Flds,t.zc.length=t.size
 | .nil t=>by cases t<;>simp[Flds.zc,Flds.size]
 | .cons _ t r=>by simp[Flds.zc,Flds.size,Ty.zc_len t,Flds.zc_len r]
end
mutual
theorem Ty.dz_len:∀ t:Ty,t.dz.length=t.size
 | .scal _ _ | .named _ _ _ | .text | .ntext | .ntextFrom _ | .bytes | .nbytes | .list _ _ _ | .nstruct _ _ _ _ _=>by simp[Ty.dz,Ty.size]
 | .uuid=>by simp[Ty.dz,Ty.size]
 | .struct _ _ _ fs=>by simp[Ty.dz,Ty.size,Flds.dz_len fs]
theorem Flds.dz_len:∀ t:Flds,t.dz.length=t.size
 | .nil t=>by cases t<;>simp[Flds.dz,Flds.size]
 | .cons _ t r=>by simp[Flds.dz,Flds.size,Ty.dz_len t,Flds.dz_len r]
end
mutual
theorem Ty.over_len:∀ (t:Ty) (cs:List Value),cs.length=t.size->(t.over cs).length=t.size
 | .scal _ _,cs,h | .named _ _ _,cs,h=>by
  simp only[Ty.over]
  split
  ·exact h
  ·simp[Ty.size]
 | .struct _ _ _ fs,cs,h=>by simp only[Ty.over,Ty.size] at *;exact Flds.over_len fs cs h
 | .uuid,cs,h | .text,cs,h | .ntext,cs,h | .ntextFrom _,cs,h | .bytes,cs,h | .nbytes,cs,h | .list _ _ _,cs,h | .nstruct _ _ _ _ _,cs,h=>h
theorem Flds.over_len:∀ (t:Flds) (cs:List Value),cs.length=t.size->(t.over cs).length=t.size
 | .nil t,cs,h=>h
 | .cons _ t r,cs,h=>by
  simp only[Flds.size] at h
  simp only[Flds.over,Flds.size,List.length_append]
  rw[Ty.over_len t _ (by simp;omega),Flds.over_len r _ (by simp;omega)]
end
mutual
theorem Ty.over_zc:∀ t:Ty,t.over t.zc=t.dz
 | .scal _ df | .named _ _ df=>by
  simp only[Ty.over,Ty.zc,Ty.dz]
  split
  ·rename_i h;rw[h]
  ·rfl
 | .struct _ _ _ fs=>by simp only[Ty.over,Ty.zc,Ty.dz,Flds.over_zc fs]
 | .uuid | .text | .ntext | .ntextFrom _ | .bytes | .nbytes | .list _ _ _ | .nstruct _ _ _ _ _=>rfl
theorem Flds.over_zc:∀ t:Flds,t.over t.zc=t.dz
 | .nil t=>rfl
 | .cons _ t r=>by
  simp only[Flds.over,Flds.zc,Flds.dz]
  rw[← Ty.zc_len t,List.take_left,List.drop_left,Ty.over_zc t,Flds.over_zc r]
end
mutual
theorem Ty.over_dz:∀ t:Ty,t.over t.dz=t.dz
 | .scal _ df | .named _ _ df=>by
  simp only[Ty.over,Ty.dz]
  split<;>rfl
 | .struct _ _ _ fs=>by simp only[Ty.over,Ty.dz,Flds.over_dz fs]
 | .uuid | .text | .ntext | .ntextFrom _ | .bytes | .nbytes | .list _ _ _ | .nstruct _ _ _ _ _=>rfl
theorem Flds.over_dz:∀ t:Flds,t.over t.dz=t.dz
 | .nil t=>rfl
 | .cons _ t r=>by
  simp only[Flds.over,Flds.dz]
  rw[← Ty.dz_len t,List.take_left,List.drop_left,Ty.over_dz t,Flds.over_dz r]
end
theorem Scal.val_one (k:Scal) (n:Int):(k.val n).oneCell'=true:=by cases k<;>rfl
theorem qb.append {w:World} {b o:Nat} {xs ys:List Value} (h1:qb w b o xs) (h2:qb w b (o+xs.length) ys):qb w b o (xs++ys):=by
 intro i v hv
 rcases Nat.lt_or_ge i xs.length with h | h
 ·rw[List.getElem?_append_left h] at hv;exact h1 i v hv
 ·rw[List.getElem?_append_right h] at hv
  have:=h2 _ v hv
  rwa [show o+xs.length+(i-xs.length)=o+i by omega] at this
theorem qb.tk {w:World} {b o n:Nat} {xs:List Value} (h:qb w b o xs):qb w b o (xs.take n):=by
 intro i v hv
 rw[List.getElem?_take] at hv
 split at hv
 ·exact h i v hv
 ·cases hv
theorem qb.dp {w:World} {b o n:Nat} {xs:List Value} (h:qb w b o xs):qb w b (o+n) (xs.drop n):=by
 intro i v hv
 rw[List.getElem?_drop] at hv
 have:=h _ v hv
 rwa [show o+(n+i)=o+n+i by omega] at this
section
variable {P : Program} {E : Env}
def DQ (P:Program) (b o n L:Nat) (cs:List Value) (A:Act) (W:World) (rest:List Code) (Q:Exit->Act->World->Prop):Prop :=
 ∀ A' W',A'.tmps.size=A.tmps.size->A'.defers=A.defers->(∀ k:Nat,k<n->A'.eval (.tmp k)=A.eval (.tmp k))->Eff (fun k i=>k=b/\o<=i/\i<o+L) W W'->qb W' b o cs->vc P (sq rest) Q A' W'
theorem d_store {TP TU T:TypeId} {s idx n t b o0 off:Nat} {v:Value} {rest:List Code} {Q:Exit->Act->World->Prop} {A:Act} {W:World}
  (hs:A.eval (.tmp s)=.pointer (some ⟨b,o0,none⟩)) (ho:ql P TU idx=some off) (hT:qQ P T=true) (hv:v.oneCell'=true) (hsn:s<n) (hnt:n<=t) (hsz:t+3<=A.tmps.size) (hf:qq W b (o0+off))
  (h:DQ P b (o0+off) n 1 [v] A W rest Q):vc P (sq (rg [qd t (.tmp s) TP,jk (t+1) (.tmp t),xr (t+2) TU (.tmp (t+1)) idx,za T (.tmp (t+2)) (.const v)]::rest)) Q A W:=by
 refine vX (rM ?_)
 refine qV (ad:=⟨b,o0,none⟩) (by simp (disch:=(try simp only[sP]);omega) only[eV,hs]) ?_
 refine rF (b:=b) (o:=o0) (by simp (disch:=(try simp only[sP]);omega) only[eV]) ho ?_
 refine xq (b:=b) (o:=o0+off) (v:=v) (by simp (disch:=(try simp only[sP]);omega) only[eV]) rfl hv hT hf ?_
 refine dn ?_
 refine h _ _ (by simp only[zP]) (by simp only[dF]) (fun k hk=>(by simp (disch:=(try simp only[sP]);omega) only[eV])) ((Eff.refl _ W).setCell _ _ _ (fun _=>⟨rfl,Nat.le_refl _,by omega⟩)) ?_
 intro i u hu
 cases i with
 | zero =>
  simp only[List.getElem?_cons_zero,Option.some.injEq] at hu
  subst hu
  exact qo v hf.1
 | succ i=>simp at hu
mutual
theorem Ty.dc_ok:∀ (ty:Ty) {TP TU:TypeId} {s idx n t b o0 off:Nat} {cs:List Value} {rest:List Code} {Q:Exit->Act->World->Prop} {A:Act} {W:World},
  ty.okD P E=true->ql P TU idx=some off->A.eval (.tmp s)=.pointer (some ⟨b,o0,none⟩)->s<n->n+ty.dn<=t->t+ty.dt<=A.tmps.size->cs.length=ty.size->qb W b (o0+off) cs->(∀ i,i<ty.size->qq W b (o0+off+i)) →
  DQ P b (o0+off) n ty.size (ty.over cs) A W rest Q->vc P (sq (ty.dc E TP TU s idx n t++rest)) Q A W
 | .scal k df,TP,TU,s,idx,n,t,b,o0,off,cs,rest,Q,A,W,hok,ho,hs,hsn,hnt,hsz,hl,hc,hf,h=>by
  simp only[Ty.dc,Ty.over,Ty.dt,Ty.dn,Ty.okD] at *
  split at h
  ·rename_i h0
   rw[if_pos h0]
   exact h A W rfl rfl (fun _ _=>rfl) (Eff.refl _ W) hc
  ·rename_i h0
   rw[if_neg h0] at hsz ⊢
   simp only[Bool.or_eq_true,beq_iff_eq,h0,false_or] at hok
   exact d_store hs ho hok (k.val_one df) hsn (by omega) hsz (hf 0 (by simp[Ty.size])) h
 | .named k T df,TP,TU,s,idx,n,t,b,o0,off,cs,rest,Q,A,W,hok,ho,hs,hsn,hnt,hsz,hl,hc,hf,h=>by
  simp only[Ty.dc,Ty.over,Ty.dt,Ty.dn,Ty.okD] at *
  split at h
  ·rename_i h0
   rw[if_pos h0]
   exact h A W rfl rfl (fun _ _=>rfl) (Eff.refl _ W) hc
  ·rename_i h0
   rw[if_neg h0] at hsz ⊢
   simp only[Bool.or_eq_true,beq_iff_eq,h0,false_or] at hok
   exact d_store hs ho hok (k.val_one df) hsn (by omega) hsz (hf 0 (by simp[Ty.size])) h
 | .struct TP' TU' FD fs,TP,TU,s,idx,n,t,b,o0,off,cs,rest,Q,A,W,hok,ho,hs,hsn,hnt,hsz,hl,hc,hf,h=>by
  simp only[Ty.dc,Ty.over,Ty.dt,Ty.dn,Ty.okD,Ty.size] at *
  refine vc_sq_flat ?_
  simp only[List.cons_append,List.nil_append]
  refine vX (rM ?_)
  refine qV (ad:=⟨b,o0,none⟩) (by simp (disch:=(try simp only[sP]);omega) only[eV,hs]) ?_
  refine rF (b:=b) (o:=o0) (by simp (disch:=(try simp only[sP]);omega) only[eV]) ho ?_
  refine rA (dn (vX (rM (dn ?_))))
  refine Flds.dc_ok fs (b:=b) (o0:=o0+off) (off:=0) (cs:=cs) hok (by simp (disch:=(try simp only[sP]);omega) only[eV]) (by omega) (by omega) (by simp only[zP];omega) hl (by rw[Nat.add_zero];exact hc) (by rw[Nat.add_zero];exact hf) ?_
  rw[Nat.add_zero]
  intro A' W' a1 a2 a3 a4 a5
  refine h A' W' (by rw[a1];simp only[zP]) (by rw[a2];simp only[dF]) (fun k hk=>?_) a4 a5
  rw[a3 k (by omega)]
  simp (disch:=(try simp only[sP]);omega) only[eV]
 | .nstruct _ _ _ _ PP,TP,TU,s,idx,n,t,b,o0,off,cs,rest,Q,A,W,hok,ho,hs,hsn,hnt,hsz,hl,hc,hf,h=>by
  simp only[Ty.dc,Ty.over,Ty.dt,Ty.dn,Ty.okD,Ty.size] at *
  refine vc_sq_flat ?_
  simp only[List.cons_append,List.nil_append]
  refine vX (rM ?_)
  refine qV (ad:=⟨b,o0,none⟩) (by simp (disch:=(try simp only[sP]);omega) only[eV,hs]) ?_
  refine rF (b:=b) (o:=o0) (by simp (disch:=(try simp only[sP]);omega) only[eV]) ho ?_
  refine rA (dn (vX (rM (dn ?_))))
  exact h _ W (by simp only[zP]) (by simp only[dF]) (fun k hk=>(by simp (disch:=(try simp only[sP]);omega) only[eV])) (Eff.refl _ W) hc
 | .uuid,TP,TU,s,idx,n,t,b,o0,off,cs,rest,Q,A,W,hok,ho,hs,hsn,hnt,hsz,hl,hc,hf,h
 | .text,TP,TU,s,idx,n,t,b,o0,off,cs,rest,Q,A,W,hok,ho,hs,hsn,hnt,hsz,hl,hc,hf,h
 | .ntext,TP,TU,s,idx,n,t,b,o0,off,cs,rest,Q,A,W,hok,ho,hs,hsn,hnt,hsz,hl,hc,hf,h
 | .ntextFrom _,TP,TU,s,idx,n,t,b,o0,off,cs,rest,Q,A,W,hok,ho,hs,hsn,hnt,hsz,hl,hc,hf,h
 | .bytes,TP,TU,s,idx,n,t,b,o0,off,cs,rest,Q,A,W,hok,ho,hs,hsn,hnt,hsz,hl,hc,hf,h
 | .nbytes,TP,TU,s,idx,n,t,b,o0,off,cs,rest,Q,A,W,hok,ho,hs,hsn,hnt,hsz,hl,hc,hf,h
 | .list _ _ _,TP,TU,s,idx,n,t,b,o0,off,cs,rest,Q,A,W,hok,ho,hs,hsn,hnt,hsz,hl,hc,hf,h=>h A W rfl rfl (fun _ _=>rfl) (Eff.refl _ W) hc
theorem Flds.dc_ok:∀ (fs:Flds) {TP TU:TypeId} {s idx n t b o0 off:Nat} {cs:List Value} {rest:List Code} {Q:Exit->Act->World->Prop} {A:Act} {W:World},
  fs.okD P E TU idx off=true->A.eval (.tmp s)=.pointer (some ⟨b,o0,none⟩)->s<n->n+fs.dn<=t->t+fs.dt<=A.tmps.size->cs.length=fs.size->qb W b (o0+off) cs->(∀ i,i<fs.size->qq W b (o0+off+i)) →
  DQ P b (o0+off) n fs.size (fs.over cs) A W rest Q->vc P (sq (fs.dc E TP TU s idx n t++rest)) Q A W
 | .nil tg,TP,TU,s,idx,n,t,b,o0,off,cs,rest,Q,A,W,hok,hs,hsn,hnt,hsz,hl,hc,hf,h=>h A W rfl rfl (fun _ _=>rfl) (Eff.refl _ W) hc
 | .cons v ty r,TP,TU,s,idx,n,t,b,o0,off,cs,rest,Q,A,W,hok,hs,hsn,hnt,hsz,hl,hc,hf,h=>by
  simp only[Flds.okD,Bool.and_eq_true,beq_iff_eq] at hok
  simp only[Flds.dc,Flds.size,Flds.dn,Flds.dt,Flds.over,List.append_assoc] at *
  obtain ⟨⟨h1,h2⟩,h3⟩:=hok
  refine Ty.dc_ok ty (cs:=cs.take ty.size) h2 h1 hs hsn (by omega) (by omega) (by simp;omega) hc.tk (fun i hi=>hf i (by omega)) ?_
  intro A' W' a1 a2 a3 a4 a5
  have hc2:qb W' b (o0+(off+ty.size)) (cs.drop ty.size):=by
   rw[show o0+(off+ty.size)=o0+off+ty.size by omega]
   exact hc.dp.eff a4 (by rintro i hi ⟨_,_,h⟩;omega)
  refine Flds.dc_ok r (cs:=cs.drop ty.size) h3 (by rw[a3 s hsn];exact hs) (by omega) (by omega) (by rw[a1];omega) (by simp;omega) hc2 (fun i hi=>?_) ?_
  ·have:=(hf (ty.size+i) (by omega)).eff a4
   rwa [show o0+off+(ty.size+i)=o0+(off+ty.size)+i by omega] at this
  intro A2 W2 b1 b2 b3 b4 b5
  refine h A2 W2 (by rw[b1,a1]) (by rw[b2,a2]) (fun k hk=>by rw[b3 k (by omega),a3 k hk]) (a4.mono (fun k i _ ⟨x,y,z⟩=>⟨x,y,by omega⟩) |>.trans' b4 (fun k i _ ⟨x,y,z⟩=>⟨x,by omega,by omega⟩)) ?_
  have hol:=Ty.over_len ty (cs.take ty.size) (by simp;omega)
  refine (a5.eff b4 (by rintro i hi ⟨_,h,_⟩;omega)).append ?_
  rw[hol]
  rwa [show o0+(off+ty.size)=o0+off+ty.size by omega] at b5
end
end
end Go.Km
namespace Go.Km
open Go Go.RowKit
attribute [local irreducible] vc rO_ qz
def Scal.okB:Scal->Int->Bool
 | .bool,n=>n==0||n==1
 | .i8,n=>decide (-128<=n)&&decide (n<=127)
 | .i16,n=>decide (-32768<=n)&&decide (n<=32767)
 | .u16,n=>decide (0<=n)&&decide (n<=65535)
 | .i32,n=>decide (-2147483648<=n)&&decide (n<=2147483647)
 | .i64,n=>decide (-9223372036854775808<=n)&&decide (n<=9223372036854775807)
 | .f64,n=>decide (0<=n)&&decide (n<18446744073709551616)
theorem Scal.okB_ok {k:Scal} {n:Int} (h:k.okB n=true):k.ok n:=by
 cases k<;>simpa [Scal.okB,Scal.ok] using h
mutual
def Ty.okZ:Ty->Bool
 | .scal k df | .named k _ df=>k.okB df
 | .struct _ _ _ fs=>fs.okZ && !fs.tagged
 | _=>true
def Flds.okZ:Flds->Bool
 | .nil _=>true
 | .cons _ t r=>t.okZ&&r.okZ
def Flds.tagged:Flds->Bool
 | .nil _=>false
 | .cons _ _ r=>r.tagged
end
mutual
theorem Ty.dz_rep {w:World} {sb:Sb} (hT:sb.T []):∀ (t:Ty) (B:Nat),t.okZ=true->t.Rep w sb B t.dz t.dflt
 | .scal k df,B,h=>⟨rfl,k.okB_ok h⟩
 | .named k _ df,B,h=>⟨rfl,k.okB_ok h⟩
 | .uuid,B,_=>⟨by simp,by simp[Ty.dz,bv]⟩
 | .text,B,_=>rfl
 | .ntext,B,_=>rfl
 | .ntextFrom _,B,_=>rfl
 | .bytes,B,_=>rfl
 | .nbytes,B,_=>rfl
 | .list _ _ _,B,_=>.inl rfl
 | .nstruct _ _ _ _ _,B,_=>rfl
 | .struct _ _ _ fs,B,h=>by
  simp only[Ty.okZ,Bool.and_eq_true] at h
  exact Flds.dz_rep hT fs B h.1
theorem Flds.dz_rep {w:World} {sb:Sb} (hT:sb.T []):∀ (fs:Flds) (B:Nat),fs.okZ=true->fs.Rep w sb B fs.dz fs.dflt []
 | .nil t,B,_=>by
  cases t with
  | false=>exact ⟨rfl,rfl⟩
  | true=>exact ⟨.map none,rfl,⟨List.Pairwise.nil,by simp⟩,hT,.inl ⟨rfl,rfl⟩⟩
 | .cons v t r,B,h=>by
  simp only[Flds.okZ,Bool.and_eq_true] at h
  refine ⟨?_,?_,?_⟩
  ·simp only[Flds.dz]
   rw[← Ty.dz_len t,List.take_left]
   exact Ty.dz_rep hT t B h.1
  ·simp only[Flds.dz]
   rw[← Ty.dz_len t,List.drop_left]
   exact Flds.dz_rep hT r B h.2
  ·cases v<;>simp[Ver.tagOk]
end
section
variable {P : Program} {E : Env}
theorem c_dflt {TP TU:TypeId} {idx:Nat} {fs:Flds} {FD:FuncId} {np nt off:Nat} (ht:Text P FD np nt #[] (dcode E TP TU idx fs)) (hnt:2+fs.dn+fs.dt<=nt) (hok:fs.okD P E TU idx off=true)
  {b o:Nat} {cs:List Value} {W:World} (hl:cs.length=fs.size) (hc:qb W b (o+off) cs) (hf:∀ i,i<fs.size->qq W b (o+off+i)) :
  qa P FD #[.pointer (some ⟨b,o,none⟩)] W fun v w'=>Eff (fun k i=>k=b/\o+off<=i/\i<o+off+fs.size) W w'/\qb w' b (o+off) (fs.over cs):=by
 refine qa.enter ht (by simp;omega) ?_
 intro a hsz hdf harg
 have e0:=harg 0 (.pointer (some ⟨b,o,none⟩)) (by simp)
 unfold dcode
 have:=Flds.dc_ok fs (E:=E) (P:=P) (TP:=TP) (TU:=TU) (s:=0) (idx:=idx) (n:=2) (t:=2+fs.dn) (b:=b) (o0:=o) (off:=off) (cs:=cs) (rest:=[]) (Q:=Out P #[] fun v w'=>Eff (fun k i=>k=b/\o+off<=i/\i<o+off+fs.size) W w'/\qb w' b (o+off) (fs.over cs)) (A:=a) (W:=W) hok e0 (by omega) (Nat.le_refl _) (by omega) hl hc hf
 rw[List.append_nil] at this
 refine this ?_
 intro A' W' a1 a2 a3 a4 a5
 refine vN ?_
 exact ⟨by rw[a2];exact hdf,.tuple #[],by simp[results],a4,a5⟩
def gC (m:Msg):Code :=
 sq [rg [qc 0 (.const (.pointer none)) m.TP],rg [kV 1 m.TU],rg [xf (some 2) m.FD #[.tmp 1] #[m.TU] 0],rg [qc 0 (.tmp 1) m.TP],.ret]
def c_maxV (E:Env) (mx:Nat):Code:=sq [rg [qc 2 (.const (.int .i16 0)) E.tI16],rg [qc 2 (.const (.int .i16 mx)) E.tI16],.ret]
def c_setV (E:Env) (m:Msg):Code :=
 rg [qd 4 (.tmp 0) m.TP,qd 5 (.tmp 1) E.tI16,jk 6 (.tmp 4),xr 7 m.TU (.tmp 6) 0,za E.tI16 (.tmp 7) (.tmp 5)]
def NewC (P:Program) (f:FuncId) (m:Msg):Prop:=∀ w,qa P f #[] w fun v w'=>v=.pointer (some ⟨w.heap.size,0,none⟩)/\Below w.heap.size w w'/\w.heap.size<w'.heap.size ∧
 qb w' w.heap.size 0 (.int .i16 0::m.fs.dz)/\∀ i,i<m.fs.size+1->qq w' w.heap.size i
theorem c_newPtr_ok {m:Msg} {f:FuncId} {np nt npd ntd:Nat} (ht:Text P f np nt #[.tmp 0] (gC m)) (hn:3<=nt) (hd:Text P m.FD npd ntd #[] (dcode E m.TP m.TU 1 m.fs)) (hnd:2+m.fs.dn+m.fs.dt<=ntd) (hok:m.fs.okD P E m.TU 1 1=true)
  (hz:(qH P m.TU).map (·.cells.toList)=some (.int .i16 0::m.fs.zc)):NewC P f m:=by
 intro w
 obtain ⟨z,hz0,hzc⟩:∃ z,qH P m.TU=some z/\z.cells.toList=.int .i16 0::m.fs.zc:=by
  cases h:qH P m.TU with
  | none=>rw[h] at hz;cases hz
  | some z=>rw[h] at hz;exact ⟨z,rfl,by simpa using hz⟩
 have hzl:z.cells.size=m.fs.size+1:=by
  have:=congrArg List.length hzc
  simpa [Flds.zc_len] using this
 refine qa.enter ht (by simp) ?_
 intro a hsz hdf harg
 unfold gC
 refine vX (rA (dn (vX ?_)))
 refine qK hz0 ?_
 refine dn ?_
 have hb0:Below w.heap.size w (w.alloc (.cells z.cells m.TU)):=(Below.refl w.heap.size w).alloc (o:=.cells _ _) (Nat.le_refl _)
 have hfr:∀ i,i<m.fs.size+1->qq (w.alloc (.cells z.cells m.TU)) w.heap.size i:=fun i hi=>qn w _ m.TU (by omega)
 have hcz:qb (w.alloc (.cells z.cells m.TU)) w.heap.size 0 (.int .i16 0::m.fs.zc):=by
  intro i v hv
  rw[Nat.zero_add]
  refine qt w _ m.TU ?_
  rw[← hzc] at hv
  simpa using hv
 have hz1:w.heap.size<(w.alloc (.cells z.cells m.TU)).heap.size:=by simp
 generalize w.alloc (.cells z.cells m.TU)=W at *
 generalize w.heap.size=b at *
 refine vX ?_
 refine q8 (args:=#[.pointer (some ⟨b,0,none⟩)]) ?_ (c_dflt (b:=b) (o:=0) (cs:=m.fs.zc) hd hnd hok (Flds.zc_len _) (hcz.dp (n:=1)) (fun i hi=>by have:=hfr (i+1) (by omega);rwa [show 0+1+i=i+1 by omega])) ?_
 ·simp only[lM]
  simp (disch:=(try simp only[sP]);omega) only[eV]
 rintro v W1 ⟨h1,h2⟩
 refine dn (vX (rA (dn (vS (vT ?_)))))
 refine ⟨by simp only[dF];exact hdf,.pointer (some ⟨b,0,none⟩),rO ?_,rfl,hb0.trans (h1.below (by omega) (by rintro k i hk ⟨h,_⟩;omega)),Nat.lt_of_lt_of_le hz1 h1.size,?_,fun i hi=>(hfr i hi).eff h1⟩
 ·simp (disch:=(try simp only[sP]);omega) only[eV]
 ·rw[Flds.over_zc] at h2
  have h0:qb W1 b 0 [.int .i16 0]:=(hcz.tk (n:=1)).eff h1 (by intro i hi ⟨_,h,_⟩;simp at hi;omega)
  exact h0.append h2
theorem c_maxV_ok {f:FuncId} {np nt mx:Nat} (ht:Text P f np nt #[.tmp 2] (c_maxV E mx)) (hn:3<=nt) (x:Value) (w:World):qa P f #[x] w fun v w'=>v=.int .i16 mx/\w'=w:=by
 refine qa.enter ht (by simp;omega) ?_
 intro a hsz hdf harg
 unfold c_maxV
 refine vX (rA (dn (vX (rA (dn (vS (vT ?_)))))))
 exact ⟨by simp only[dF];exact hdf,.int .i16 mx,rO (by simp (disch:=(try simp only[sP]);omega) only[eV]),rfl,rfl⟩
theorem c_setV_ok {m:Msg} {f:FuncId} {np nt:Nat} (ht:Text P f np nt #[] (c_setV E m)) (hn:8<=nt) (ho:ql P m.TU 0=some 0) (hT:qQ P E.tI16=true) {b o:Nat} {ver:Int} {w:World} (hf:qq w b o) :
  qa P f #[.pointer (some ⟨b,o,none⟩),.int .i16 ver] w fun v w'=>w'=w.setCell ⟨b,o,none⟩ (.int .i16 ver):=by
 refine qa.enter ht (by simp;omega) ?_
 intro a hsz hdf harg
 have e0:=harg 0 (.pointer (some ⟨b,o,none⟩)) (by simp)
 have e1:=harg 1 (.int .i16 ver) (by simp)
 unfold c_setV
 refine vR (by simp) ?_
 refine rM (rM ?_)
 refine qV (ad:=⟨b,o,none⟩) (by simp (disch:=(try simp only[sP]);omega) only[eV,e0]) ?_
 refine rF (b:=b) (o:=o) (by simp (disch:=(try simp only[sP]);omega) only[eV]) ho ?_
 refine xq (b:=b) (o:=o+0) (v:=.int .i16 ver) (by simp (disch:=(try simp only[sP]);omega) only[eV]) (by simp (disch:=(try simp only[sP]);omega) only[eV,e1]) rfl hT (by simpa using hf) ?_
 refine dn ?_
 exact ⟨by simp only[dF];exact hdf,.tuple #[],by simp[results],by simp⟩
end
end Go.Km
namespace Go.Km
open Go Go.RowKit
attribute [local irreducible] vc rO_ qz qI qF
structure Blk (sb:Sb) (B:Nat) (w w':World):Prop where
 size:w.heap.size<=w'.heap.size
 sb:sb.b<w.heap.size->w'.heap[sb.b]? = w.heap[sb.b]?
 up:∀ k,B<=k->k<w.heap.size->w'.heap[k]? = w.heap[k]?
theorem Blk.mono {sb:Sb} {B B':Nat} {w w':World} (h:Blk sb B w w') (hB:B<=B'):Blk sb B' w w':=⟨h.size,h.sb,fun k hk=>h.up k (by omega)⟩
theorem yd {w w':World} {b o:Nat} {cs:List Value} (h:qb w b o cs) (he:b<w.heap.size->w'.heap[b]? = w.heap[b]?):qb w' b o cs:=fun i v hv=>by
 have hc:=h i v hv
 have:=he (qj hc)
 unfold World.cell? at hc ⊢
 rw[this]
 exact hc
theorem wD.blk {w w':World} {sb:Sb} {B B':Nat} {v:Value} {l:List UInt8} (he:Blk sb B w w') (hB:B'<=B) (h:wD w sb B v l):wD w' sb B' v l:=by
 rcases h with h | ⟨c,o,cap,hv,hc,hs,h⟩
 ·exact .inl h
 ·refine .inr ⟨c,o,cap,hv,hc.imp id (fun h=>by omega),Nat.lt_of_lt_of_le hs he.size,yd h (fun _=>?_)⟩
  rcases hc with rfl | hc
  ·exact he.sb hs
  ·exact he.up _ hc hs
theorem xG.blk {w w':World} {sb:Sb} {B B':Nat} {v:Value} {l:List (Nat × List UInt8)} (he:Blk sb B w w') (hB:B'<=B) (h:xG w sb B v l):xG w' sb B' v l:=by
 obtain ⟨h1,h2,h3⟩:=h
 refine ⟨h1,h2,?_⟩
 rcases h3 with h3 | ⟨q,es,clock,hv,hq,hs,hm,hb,hn,l',hl,hsz,hel⟩
 ·exact .inl h3
 ·refine .inr ⟨q,es,clock,hv,by omega,Nat.lt_of_lt_of_le hs he.size,?_,hb,hn,l',hl,hsz,fun i x hx=>?_⟩
  ·rw[he.up _ hq hs];exact hm
  ·obtain ⟨e,h1,h2,h3⟩:=hel i x hx
   exact ⟨e,h1,h2,h3.blk he hB⟩
mutual
theorem Ty.Rep.blk {w w':World} {sb:Sb}:∀ (t:Ty) (B B':Nat) (cs:List Value) (d:D),Blk sb B w w'->B'<=B->t.Rep w sb B cs d->t.Rep w' sb B' cs d
 | .scal _ _,B,B',cs,d,hM,hB,h | .named _ _ _,B,B',cs,d,hM,hB,h=>by
  cases d with
  | int n=>simpa only[Ty.Rep] using h
  | _=>exact absurd h (by simp[Ty.Rep])
 | .uuid,B,B',cs,d,hM,hB,h=>by
  cases d with
  | bytes o =>
   cases o with
   | some l=>simpa only[Ty.Rep] using h
   | none=>exact absurd h (by simp[Ty.Rep])
  | _=>exact absurd h (by simp[Ty.Rep])
 | .text,B,B',cs,d,hM,hB,h=>by
  cases d with
  | bytes o =>
   cases o with
   | some l=>simpa only[Ty.Rep] using h
   | none=>exact absurd h (by simp[Ty.Rep])
  | _=>exact absurd h (by simp[Ty.Rep])
 | .ntext,B,B',cs,d,hM,hB,h | .ntextFrom _,B,B',cs,d,hM,hB,h=>by
  cases d with
  | bytes o =>
   cases o with
   | some l =>
    simp only[Ty.Rep] at h ⊢
    obtain ⟨q,h1,h2,h3⟩:=h
    exact ⟨q,h1,by omega,(by have:=hM.up _ h2 (qj h3);unfold World.cell? at h3 ⊢;rw[this];exact h3)⟩
   | none=>simpa only[Ty.Rep] using h
  | _=>exact absurd h (by simp[Ty.Rep])
 | .bytes,B,B',cs,d,hM,hB,h | .nbytes,B,B',cs,d,hM,hB,h=>by
  cases d with
  | bytes o =>
   cases o with
   | some l =>
    simp only[Ty.Rep] at h ⊢
    obtain ⟨q,o,cap,h1,h2,h3,h4⟩:=h
    refine ⟨q,o,cap,h1,h2.imp id (fun h=>by omega),yd h3 (fun _=>?_),Nat.lt_of_lt_of_le h4 hM.size⟩
    rcases h2 with rfl | h2
    ·exact hM.sb h4
    ·exact hM.up _ h2 h4
   | none=>simpa only[Ty.Rep] using h
  | _=>exact absurd h (by simp[Ty.Rep])
 | .list _ _ e,B,B',cs,d,hM,hB,h=>by
  cases d with
  | list o =>
   cases o with
   | some l =>
    simp only[Ty.Rep] at h ⊢
    obtain ⟨q,cap,h1,h2,h3,h4,h5⟩:=h
    refine ⟨q,cap,h1,by omega,Nat.lt_of_lt_of_le h3 hM.size,h4,fun i d hd=>?_⟩
    obtain ⟨c,h6,h7,h8⟩:=h5 i d hd
    exact ⟨c,h6,yd h7 (fun _=>hM.up _ h2 h3),Ty.Rep.blk e (q+1) (q+1) c d (hM.mono (by omega)) (Nat.le_refl _) h8⟩
   | none =>
    simp only[Ty.Rep] at h ⊢
    exact h.imp id (fun ⟨h0,q,cap,h1,h2,h3⟩=>⟨h0,q,cap,h1,by omega,Nat.lt_of_lt_of_le h3 hM.size⟩)
  | _=>exact absurd h (by simp[Ty.Rep])
 | .struct _ _ _ fs,B,B',cs,d,hM,hB,h=>by
  cases d with
  | obj l tags=>simp only[Ty.Rep] at h ⊢;exact Flds.Rep.blk fs B B' cs l tags hM hB h
  | _=>exact absurd h (by simp[Ty.Rep])
 | .nstruct _ _ _ fs _,B,B',cs,d,hM,hB,h=>by
  cases d with
  | list o =>
   rcases o with _ | ⟨_ | ⟨d0,_ | ⟨d1,r⟩⟩⟩
   ·simpa only[Ty.Rep] using h
   ·exact absurd h (by simp[Ty.Rep])
   ·cases d0 with
    | obj l tags =>
     simp only[Ty.Rep] at h ⊢
     obtain ⟨q,c,h1,h2,h3,h4,h5,h6⟩:=h
     exact ⟨q,c,h1,by omega,Nat.lt_of_lt_of_le h3 hM.size,h4,yd h5 (fun _=>hM.up _ h2 h3),Flds.Rep.blk fs (q+1) (q+1) c l tags (hM.mono (by omega)) (Nat.le_refl _) h6⟩
    | _=>exact absurd h (by simp[Ty.Rep])
   ·exact absurd h (by cases d0<;>simp[Ty.Rep])
  | _=>exact absurd h (by simp[Ty.Rep])
theorem Flds.Rep.blk {w w':World} {sb:Sb}:∀ (t:Flds) (B B':Nat) (cs:List Value) (l:List D) (tags:List (Nat × List UInt8)),Blk sb B w w'->B'<=B->t.Rep w sb B cs l tags->t.Rep w' sb B' cs l tags
 | .nil b,B,B',cs,l,tags,hM,hB,h=>by
  cases l with
  | cons _ _=>exact absurd h (by simp[Flds.Rep])
  | nil =>
   simp only[Flds.Rep] at h ⊢
   cases b with
   | false=>simpa using h
   | true =>
    simp only[if_true] at h ⊢
    obtain ⟨v,h1,h2⟩:=h
    exact ⟨v,h1,h2.blk hM hB⟩
 | .cons _ t r,B,B',cs,l,tags,hM,hB,h=>by
  cases l with
  | nil=>exact absurd h (by simp[Flds.Rep])
  | cons d l =>
   simp only[Flds.Rep] at h ⊢
   exact ⟨Ty.Rep.blk t B B' _ d hM hB h.1,Flds.Rep.blk r B B' _ l tags hM hB h.2.1,h.2.2⟩
end
theorem Blk.of_eff {M:Nat->Nat->Prop} {w w':World} {sb:Sb} {B:Nat} (he:Eff M w w') (hsb:∀ i,¬ M sb.b i) (hM:∀ k i,B<=k->k<w.heap.size->¬ M k i):Blk sb B w w' :=
 ⟨he.size,fun h=>he.blockEq h hsb,fun k h1 h2=>he.blockEq h2 (fun i=>hM k i h1 h2)⟩
theorem xG.eff {M:Nat->Nat->Prop} {w w':World} {sb:Sb} {B B':Nat} {v:Value} {l:List (Nat × List UInt8)} (he:Eff M w w') (hsb:∀ i,¬ M sb.b i) (hM:∀ k i,B<=k->k<w.heap.size->¬ M k i) (hB:B'<=B) (h:xG w sb B v l):xG w' sb B' v l:=h.blk (.of_eff he hsb hM) hB
theorem Ty.Rep.eff {M:Nat->Nat->Prop} {w w':World} {sb:Sb} (he:Eff M w w') (hsb:∀ i,¬ M sb.b i) (t:Ty) (B B':Nat) (cs:List Value) (d:D) (hM:∀ k i,B<=k->k<w.heap.size->¬ M k i) (hB:B'<=B) (h:t.Rep w sb B cs d):t.Rep w' sb B' cs d:=Ty.Rep.blk t B B' cs d (.of_eff he hsb hM) hB h
theorem Flds.Rep.eff {M:Nat->Nat->Prop} {w w':World} {sb:Sb} (he:Eff M w w') (hsb:∀ i,¬ M sb.b i) (t:Flds) (B B':Nat) (cs:List Value) (l:List D) (tags:List (Nat × List UInt8)) (hM:∀ k i,B<=k->k<w.heap.size->¬ M k i) (hB:B'<=B) (h:t.Rep w sb B cs l tags):t.Rep w' sb B' cs l tags:=Flds.Rep.blk t B B' cs l tags (.of_eff he hsb hM) hB h
abbrev RdV (P:Program) (F:FuncId) (rb sb:Nat) (W:World) (st':RSt) (S:Value->World->Prop):Prop :=
 qa P F #[.pointer (some ⟨rb,0,none⟩)] W fun x w'=>S x w'/\RdS w' rb sb st'/\Eff (RM rb) W w'
structure EnvR (P:Program) (E:Env) (T:List (Nat × List UInt8)->Prop):Prop where
 i32:qs P E.tI32=some .i32
 scal:∀ s,E.rScal s≠0->∀ rb sb st W,RdS W rb sb st->RdV P (E.rScal s) rb sb W (s.rd st).2 fun x _=>x=s.val (s.rd st).1/\s.ok (s.rd st).1
 uuid:E.rUuid≠0->∀ rb sb st W,RdS W rb sb st->RdV P E.rUuid rb sb W (qr 16 st).2 fun x _=>∃ l:List UInt8,l.length=16/\x=.agg (l.map bv).toArray/\((qr 16 st).2.2=false->l=(qr 16 st).1)
 str:∀ fx,(if fx then E.rCStr else E.rStr)≠0->∀ rb sb st W,RdS W rb sb st->RdV P (if fx then E.rCStr else E.rStr) rb sb W (zz (rdL fx st)).2 fun x _=>x=.string ⟨(zz (rdL fx st)).1.toArray⟩
 nstr:∀ fx,(if fx then E.rCNStr else E.rNStr)≠0->∀ rb sb st W,RdS W rb sb st->RdV P (if fx then E.rCNStr else E.rNStr) rb sb W (qP (rdL fx st)).2 fun x w'=>PStr w' W.heap.size x (qP (rdL fx st)).1
 octs:∀ fx,(if fx then E.rCBytes else E.rBytes)≠0->∀ rb sb st W,RdS W rb sb st->RdV P (if fx then E.rCBytes else E.rBytes) rb sb W (xN (xX fx st)).2 fun x w'=>∃ o,OctV w' sb W.heap.size x o/\((xN (xX fx st)).2.2=false->o=(xN (xX fx st)).1)
 nocts:∀ fx,(if fx then E.rCNBytes else E.rNBytes)≠0->∀ rb sb st W,RdS W rb sb st->RdV P (if fx then E.rCNBytes else E.rNBytes) rb sb W (qP (xX fx st)).2 fun x w'=>∃ o,OctV w' sb W.heap.size x o/\((qP (xX fx st)).2.2=false->o=(qP (xX fx st)).1)
 len:∀ fx,(if fx then E.rCLen else E.rLen)≠0->∀ rb sb st W,RdS W rb sb st->RdV P (if fx then E.rCLen else E.rLen) rb sb W (xl fx st).2 fun x _=>x=.int .i32 (xl fx st).1
 ok:∀ rb sb st W,RdS W rb sb st->qa P E.rOk #[.pointer (some ⟨rb,0,none⟩)] W fun x w'=>x=.bool (!st.2)/\w'=W
 complete:∀ rb sb st W ev,RdS W rb sb st->W.cell? ⟨E.vErr,0,none⟩=some ev->qa P E.rComplete #[.pointer (some ⟨rb,0,none⟩)] W fun x w'=>x=(if st.2 then ev else .nilIface)/\w'=W
 tags:E.rTags≠0->∀ rb sb st W,RdS W rb sb st->RdV P E.rTags rb sb W (zi st).2 fun x w'=>∃ v tags,x=.agg #[v]/\v.oneCell'=true/\xG w' ⟨sb,T⟩ W.heap.size v tags/\((zi st).2.2=false->tags=(zi st).1)
def Ty.isList:Ty->Bool
 | .list _ _ _=>true
 | _=>false
def zero1 (P:Program) (t:TypeId):Bool :=
 match qH P t with
 | some z=>z.cells.size==1
 | none=>false
theorem zero1_inv {P:Program} {t} (h:zero1 P t=true):∃ z,qH P t=some z/\z.cells.size=1:=by
 unfold zero1 at h
 split at h
 ·rename_i z hz
  exact ⟨z,hz,by simpa using h⟩
 ·cases h
def Ty.isScal:Ty->Bool
 | .scal _ _ | .list _ none _=>true
 | _=>false
def Ver.okT (E:Env) (m:Nat) (t:Ty):Ver->Bool
 | .tag k _=>k==m&&decide (k<4294967296)&&t.isScal&&E.rTags != 0
 | _=>true
def Ver.nextT (m:Nat):Ver->Nat
 | .tag _ _=>m+1
 | _=>m
theorem Ver.nextT_no {v:Ver} (h:v.isTag=false) (m:Nat):v.nextT m=m:=by cases v<;>first | rfl | cases h
mutual
def Ty.okR (P:Program) (E:Env) (x:Cx):Ty->Bool
 | .scal s _=>E.rScal s != 0&&qQ P (E.tScal s)
 | .named s T _=>E.rScal s != 0&&qQ P T
 | .uuid=>E.rUuid != 0&&zb P E.tUuid==some 16&&wH P E.tUuid 16
 | .text=>x.ok E.rCStr E.rStr&&qQ P E.tStr
 | .ntext=>x.ok E.rCNStr E.rNStr&&qQ P E.tPStr
 | .ntextFrom _=>x.ok E.rCStr E.rStr&&x.ok E.rCNStr E.rNStr&&qQ P E.tPStr&&qQ P E.tStr&&zero1 P E.tStr
 | .bytes=>x.ok E.rCBytes E.rBytes&&qQ P E.tB
 | .nbytes=>x.ok E.rCNBytes E.rNBytes&&qQ P E.tB
 | .list TS null e=>x.ok E.rCLen E.rLen&&qQ P TS && !e.isList && !e.np&&e.okR P E x
 | .struct _ TU _ fs=>fs.okR P E x TU 0 0&&fs.okD P E TU 0 0
 | .nstruct TP TU _ fs PP=>E.rI8 != 0&&qQ P TP&&fs.okR P E x TU 0 0&&fs.okD P E TU 0 0
def Flds.okR (P:Program) (E:Env) (x:Cx) (TU:TypeId) (idx off:Nat) (m:Nat:=0):Flds->Bool
 | .nil tags=>x.fl.isNone||(tags&&ql P TU idx==some off&&E.rTags != 0&&zb P E.tTags==some 1)
 | .cons v t r=>v.okT E m t&&ql P TU idx==some off&&t.okR P E x&&t.okZ&&Flds.okR P E x TU (idx+1) (off+t.size) (v.nextT m) r
end
mutual
def Ty.txR (P:Program) (E:Env):Ty->Prop
 | .list TS _ e=>(∃ te,xd P TS te e.size=true/\(qH P te).map (·.cells.toList)=some e.zc)/\e.txR P E
 | .struct TP TU FD fs=>(∃ np nt,Text P FD np nt #[] (dcode E TP TU 0 fs)/\2+fs.dn+fs.dt<=nt)/\fs.txR P E
 | .nstruct TP TU FD fs PP=>(∃ np nt,Text P FD np nt #[] (dcode E TP TU 0 fs)/\2+fs.dn+fs.dt<=nt)/\(qH P TU).map (·.cells.toList)=some fs.zc/\fs.txR P E
 | _=>True
def Flds.txR (P:Program) (E:Env):Flds->Prop
 | .nil _=>True
 | .cons _ t r=>t.txR P E/\r.txR P E
end
structure RSta (E:Env) (x:Cx) (ver:Nat) (fx:Bool) (rb sb:Nat) (ev:Value) (a:Act) (w:World) (st:RSt):Prop where
 rd:RdS w rb sb st
 p7:a.eval (.tmp x.rd)=.pointer (some ⟨rb,0,none⟩)
 us:a.eval (.tmp 2)=.bool false
 ver:a.eval (.tmp x.vs)=.int .i16 (ver:Int)
 fl:∀ f,x.fl=some f->a.eval (.tmp f)=.bool fx
 err:w.cell? ⟨E.vErr,0,none⟩=some ev
 evr:E.vErr≠rb
 evi:∃ u z,ev=.iface u z
def KR (L n t:Nat) (k:Nat):Prop:=k<n\/(L<=k/\k<t)
theorem KR.mono {L n n' t t':Nat} (hn:n<=n') (ht:t<=t'):∀ k,KR L n t k->KR L n' t' k:=fun k h=>h.elim (fun h=>.inl (by omega)) (fun h=>.inr ⟨h.1,by omega⟩)
structure RSl (x:Cx) (L n t:Nat) (fx:Bool):Prop where
 seven:7<n
 rd:x.rd<n
 vs:x.vs<n
 fl:∀ f,x.fl=some f->f<n
 no:x.fl=none->fx=false
 nL:n<=L
 Lt:L<=t
theorem RSl.kt {x:Cx} {L n t:Nat} {fx:Bool} (h:RSl x L n t fx):∀ d,t<=d->¬ KR L n t d:=by
 rintro d hd h2
 have:=h.nL;have:=h.Lt
 unfold KR at h2
 omega
theorem RSl.kn {x:Cx} {L n t:Nat} {fx:Bool} (h:RSl x L n t fx):∀ d,n<=d->d<L->¬ KR L n t d:=by
 rintro d hd hl h2
 unfold KR at h2
 omega
theorem RSl.up {x:Cx} {L n t n' t':Nat} {fx:Bool} (h:RSl x L n t fx) (hn:n<=n') (hL:n'<=L) (ht:t<=t'):RSl x L n' t' fx :=
 ⟨by have:=h.seven;omega,by have:=h.rd;omega,by have:=h.vs;omega,fun f hf=>by have:=h.fl f hf;omega,h.no,hL,by have:=h.Lt;omega⟩
section
variable {P : Program} {E : Env} {x : Cx} {ver : Nat} {fx : Bool} {rb sb : Nat} {ev : Value} {a a' : Act} {w w' : World} {st st' : RSt} {L n t : Nat} {Q : Exit → Act → World → Prop}
theorem RSta.fr (h:RSta E x ver fx rb sb ev a w st) (hs:RSl x L n t fx) (hf:Fr (KR L n t) a a'):RSta E x ver fx rb sb ev a' w st :=
 ⟨h.rd,by rw[hf.slot _ (.inl hs.rd)];exact h.p7,by rw[hf.slot 2 (.inl (by have:=hs.seven;omega))];exact h.us,by rw[hf.slot _ (.inl hs.vs)];exact h.ver,fun f hh=>by rw[hf.slot _ (.inl (hs.fl f hh))];exact h.fl f hh,h.err,h.evr,h.evi⟩
theorem RSta.step (h:RSta E x ver fx rb sb ev a w st) (hs:RSl x L n t fx) (hf:Fr (KR L n t) a a') (hr:RdS w' rb sb st') (he:Eff (RM rb) w w'):RSta E x ver fx rb sb ev a' w' st' :=
 ⟨hr,(h.fr hs hf).p7,(h.fr hs hf).us,(h.fr hs hf).ver,(h.fr hs hf).fl,he.cellSome h.err (fun hh=>h.evr hh.1),h.evr,h.evi⟩
theorem ja {F:FuncId} {T:TypeId} {y t:Nat} {S:Value->World->Prop} {p:Value} {K:Nat->Prop} (hp:a.eval (.tmp x.rd)=p) (hc:qa P F #[p] w S) (ht:∀ d,t<=d->¬ K d) (hy:¬ K y) (hyt:y<t) (hsz:t+1<=a.tmps.size)
  (k:∀ a' v w',Fr K a a'->a'.eval (.tmp y)=v->S v w'->Q .normal a' w'):vc P (qU E x F T y t) Q a w:=by
 refine vR (by simp) ?_
 refine q8 (args:=#[p]) ?_ hc ?_
 ·simp only[lM]
  simp (disch:=(try simp only[sP]);omega) only[eV,hp]
 intro v w' hs
 refine rA (dn ?_)
 refine k _ v w' ?_ (by simp (disch:=(try simp only[sP]);omega) only[eV]) hs
 exact ((Fr.refl K a).put _ (ht _ (by omega))).put _ hy
theorem yY {c t:Nat} {b:Bool} {A B:Code} {K:Nat->Prop} (hc:a.eval (.tmp c)=.bool b) (ht:¬ K t) (hct:c≠t) (hsz:t+1<=a.tmps.size)
  (hA:b=true->∀ a',Fr K a a'->(∀ k:Nat,k≠t->a'.eval (.tmp k)=a.eval (.tmp k))->vc P A Q a' w)
  (hB:b=false->∀ a',Fr K a a'->(∀ k:Nat,k≠t->a'.eval (.tmp k)=a.eval (.tmp k))->vc P B Q a' w):vc P (rIf E t c A B) Q a w:=by
 unfold rIf
 refine vX (rM (dn ?_))
 have hf:Fr K a (a.put (some t) (a.eval (.tmp c))):=(Fr.refl K a).put _ ht
 have he:∀ k:Nat,k≠t->(a.put (some t) (a.eval (.tmp c))).eval (.tmp k)=a.eval (.tmp k):=fun k hk=>qi _ _ _ _ (by omega)
 refine vS (vC (t:=b) (by simp (disch:=(try simp only[sP]);omega) only[eV,hc]) ?_ ?_)
 ·exact fun h=>qZ _ (hA h _ hf he) (fun e a w h=>by cases e<;>first | exact vN h | exact h)
 ·exact fun h=>qZ _ (hB h _ hf he) (fun e a w h=>by cases e<;>first | exact vN h | exact h)
theorem m_rflex {FC F:FuncId} {T:TypeId} {y t t1 t2 fl:Nat} {S:Value->World->Prop} {p:Value} {K:Nat->Prop} (hp:a.eval (.tmp x.rd)=p) (hfl:a.eval (.tmp fl)=.bool fx) (hc:qa P (if fx then FC else F) #[p] w S) (ht:∀ d,t<=d->¬ K d) (hy:¬ K y) (hyt:y<t) (h7:x.rd<t) (hf:fl<t) (ht1:t<t1) (ht2:t<t2) (hsz1:t1+1<=a.tmps.size) (hsz2:t2+1<=a.tmps.size)
  (k:∀ a' v w',Fr K a a'->a'.eval (.tmp y)=v->S v w'->Q .normal a' w'):vc P (rIf E t fl (qU E x FC T y t1) (qU E x F T y t2)) Q a w:=by
 refine yY (K:=K) hfl (ht _ (Nat.le_refl _)) (by omega) (by omega) ?_ ?_
 ·intro h a' hf' he
  subst h
  exact ja (K:=K) (by rw[he x.rd (by omega)];exact hp) hc (fun d hd=>ht d (by omega)) hy (by omega) (by rw[hf'.size];omega) (fun a2 v w' hf2=>k a2 v w' (hf'.trans hf2))
 ·intro h a' hf' he
  subst h
  exact ja (K:=K) (by rw[he x.rd (by omega)];exact hp) hc (fun d hd=>ht d (by omega)) hy (by omega) (by rw[hf'.size];omega) (fun a2 v w' hf2=>k a2 v w' (hf'.trans hf2))
end
end Go.Km
namespace Go.Km
open Go Go.RowKit
structure RTexts (P:Program) (E:Env):Prop where
 mixed:P.follows .mixedOrders=true
 row:xd P E.tB E.tU8 1=true
 u8:qs P E.tU8=some .u8
 int:qs P E.tI=some .i64
 oBytes:qQ P E.tB=true
 oBool:qQ P E.tO=true
 oU8:qQ P E.tU8=true
 f0:ql P E.tRd 0=some 0
 f1:ql P E.tRd 1=some 1
 i32:qs P E.tI32=some .i32
 oE:qQ P E.tErr=true
 rOk:Text P E.rOk 1 8 #[.tmp 2] (c_rOk E)
 rComplete:Text P E.rComplete 1 8 #[.tmp 2] (vf E)
 rI8:E.rI8≠0->qs P E.tI8=some .i8/\Text P E.rI8 1 32 #[.tmp 2] (c_rI8 E)
 rBool:E.rBool≠0->Text P E.rBool 1 32 #[.tmp 2] (c_rBool E)
 rI16:E.rI16≠0->zb P E.tBE=some 0/\qs P E.tU16=some .u16/\qs P E.tI16=some .i16/\Text P E.bU16 2 18 #[.tmp 4] (c_bU16 E)/\Text P E.rI16 1 32 #[.tmp 2] (c_rI16 E)
 rU16:E.rU16≠0->zb P E.tBE=some 0/\qs P E.tU16=some .u16/\Text P E.bU16 2 18 #[.tmp 4] (c_bU16 E)/\Text P E.rU16 1 31 #[.tmp 2] (c_rU16 E)
 rI32:E.rI32≠0->zb P E.tBE=some 0/\qs P E.tW=some .u32/\Text P E.bU32 2 30 #[.tmp 4] (c_bU32 E)/\Text P E.rI32 1 32 #[.tmp 2] (c_rI32 E)
 rI64:E.rI64≠0->zb P E.tBE=some 0/\qs P E.tU64=some .u64/\qs P E.tI64=some .i64/\Text P E.bU64 2 54 #[.tmp 4] (c_bU64 E)/\Text P E.rU64 1 31 #[.tmp 2] (c_rU64 E)/\Text P E.rI64 1 6 #[.tmp 2] (c_rI64 E)
 rUvar:E.rUvar≠0->qs P E.tW=some .u32/\Text P E.kUv 1 87 #[.tmp 2,.tmp 3] (c_kUv E)/\Text P E.rUvar 1 31 #[.tmp 2] (c_rUvar E)
 rSpan:E.rSpan≠0->Text P E.rSpan 2 40 #[.tmp 4] (c_rSpan E)
 rStr:E.rStr≠0->strB P E.tStr=true/\E.rI16≠0/\E.rSpan≠0/\Text P E.rStr 1 11 #[.tmp 2] (c_rStr E)
 rCStr:E.rCStr≠0->strB P E.tStr=true/\E.rUvar≠0/\E.rSpan≠0/\Text P E.rCStr 1 12 #[.tmp 2] (c_rCStr E)
 rNStr:E.rNStr≠0->strB P E.tStr=true/\qQ P E.tStr=true/\qH P E.tStr=some (.string ⟨#[]⟩)/\E.rI16≠0/\E.rSpan≠0/\Text P E.rNStr 1 14 #[.tmp 2] (c_rNStr E)
 rCNStr:E.rCNStr≠0->strB P E.tStr=true/\qQ P E.tStr=true/\qH P E.tStr=some (.string ⟨#[]⟩)/\E.rUvar≠0/\E.rSpan≠0/\Text P E.rCNStr 1 15 #[.tmp 2] (c_rCNStr E)
 rBytes:E.rBytes≠0->E.rI32≠0/\E.rSpan≠0/\Text P E.rBytes 1 13 #[.tmp 2] (c_rBytes E)
 rCBytes:E.rCBytes≠0->E.rUvar≠0/\E.rSpan≠0/\Text P E.rCBytes 1 14 #[.tmp 2] (c_rCBytes E)
 rNBytes:E.rNBytes≠0->E.rI32≠0/\E.rSpan≠0/\Text P E.rNBytes 1 14 #[.tmp 2] (c_rNBytes E)
 rCNBytes:E.rCNBytes≠0->E.rUvar≠0/\E.rSpan≠0/\Text P E.rCNBytes 1 15 #[.tmp 2] (wA E)
 rLen:E.rLen≠0->E.rI32≠0/\Text P E.rLen 1 21 #[.tmp 2] (c_rLen E)
 rCLen:E.rCLen≠0->E.rUvar≠0/\Text P E.rCLen 1 23 #[.tmp 2] (c_rCLen E)
section
variable {P : Program} {E : Env}
theorem RTexts.env (K:RTexts P E):REnv P E:=⟨K.row,K.u8,K.int,K.oBytes,K.oBool,K.oU8,K.f0,K.f1⟩
theorem RTexts.c16 (K:RTexts P E) (h:E.rI16≠0):CI16 P E:=fun rb sb st W hr=>by
 obtain ⟨h1,h2,h3,h4,h5⟩:=K.rI16 h
 exact k_rI16 K.env K.mixed h1 h2 h3 h4 h5 hr
theorem RTexts.c32 (K:RTexts P E) (h:E.rI32≠0):CI32 P E:=fun rb sb st W hr=>by
 obtain ⟨h1,h2,h4,h5⟩:=K.rI32 h
 exact k_rI32 K.env K.mixed h1 h2 K.i32 h4 h5 hr
theorem RTexts.cU (K:RTexts P E) (h:E.rUvar≠0):CUv P E:=fun rb sb st W hr=>by
 obtain ⟨h1,h2,h3⟩:=K.rUvar h
 exact k_rUvar K.env h1 h2 h3 hr
theorem RTexts.cS (K:RTexts P E) (h:E.rSpan≠0):yH P E:=fun rb sb st l W hr=>k_rSpan K.env (K.rSpan h) hr
theorem RdC.rdv {F:FuncId} {rb sb:Nat} {st':RSt} {v:Value} {W:World} {S:Value->World->Prop} (h:RdC P F rb sb st' v W) (hS:∀ w',S v w'):RdV P F rb sb W st' S :=
 h.mono fun x w' ⟨h1,h2,h3,_⟩=>⟨by rw[h1];exact hS w',h2,h3⟩
def UuidR (P:Program) (E:Env):Prop:=E.rUuid≠0->∀ rb sb st W,RdS W rb sb st->RdV P E.rUuid rb sb W (qr 16 st).2 fun x _=>∃ l:List UInt8,l.length=16/\x=.agg (l.map bv).toArray/\((qr 16 st).2.2=false->l=(qr 16 st).1)
def TagsR (P:Program) (E:Env) (T:List (Nat × List UInt8)->Prop):Prop:=E.rTags≠0->∀ rb sb st W,RdS W rb sb st->RdV P E.rTags rb sb W (zi st).2 fun x w'=>∃ v tags,x=.agg #[v]/\v.oneCell'=true/\xG w' ⟨sb,T⟩ W.heap.size v tags/\((zi st).2.2=false->tags=(zi st).1)
theorem envR (K:RTexts P E) (hF:E.rF64=0) {T:List (Nat × List UInt8)->Prop} (hU:UuidR P E) (hT:TagsR P E T):EnvR P E T where
 i32:=K.i32
 scal:=by
  intro k hk rb sb st W hr
  cases k with
  | bool=>exact (k_rBool K.env (K.rBool hk) hr).rdv fun _=>⟨by simp only[Scal.rd,Scal.val];cases (rdN 1 st).1 != 0<;>rfl,by simp only[Scal.rd,Scal.ok];split<;>simp⟩
  | i8 =>
   obtain ⟨h1,h2⟩:=K.rI8 hk
   have hrg:=zQ 1 st
   exact (k_rI8 K.env h1 h2 hr).rdv fun _=>⟨rfl,by simp only[Scal.rd,Scal.ok,sgn];split<;>omega⟩
  | i16=>exact (K.c16 hk rb sb st W hr).rdv fun _=>⟨rfl,yO st⟩
  | u16 =>
   obtain ⟨h1,h2,h3,h4⟩:=K.rU16 hk
   have hrg:=zQ 2 st
   exact (k_rU16 K.env K.mixed h1 h2 h3 h4 hr).rdv fun _=>⟨rfl,by simp only[Scal.rd,Scal.ok];omega⟩
  | i32=>exact (K.c32 hk rb sb st W hr).rdv fun _=>⟨rfl,kZ st⟩
  | i64 =>
   obtain ⟨h1,h2,h3,h4,h5,h6⟩:=K.rI64 hk
   have hrg:=zQ 8 st
   refine (k_rI64 h2 h3 (fun rb sb st W hr=>k_rU64 K.env K.mixed h1 h2 h4 h5 hr) h6 hr).rdv fun _=>⟨rfl,?_⟩
   simp only[Scal.rd,Scal.ok,sgn]
   split<;>omega
  | f64=>exact absurd hF hk
 uuid:=hU
 str:=by
  intro fx hk rb sb st W hr
  cases fx with
  | false =>
   obtain ⟨h1,h2,h3,h4⟩:=K.rStr hk
   exact (k_rStr K.env (K.rI16 h2).2.2.1 h1 (K.c16 h2) (K.cS h3) h4 hr).rdv fun _=>rfl
  | true =>
   obtain ⟨h1,h2,h3,h4⟩:=K.rCStr hk
   exact (k_rCStr K.env (K.rUvar h2).1 h1 (K.cU h2) (K.cS h3) h4 ze hr).rdv fun _=>rfl
 nstr:=by
  intro fx hk rb sb st W hr
  cases fx with
  | false =>
   obtain ⟨h1,h2,h3,h4,h5,h6⟩:=K.rNStr hk
   exact (k_rNStr K.env (K.rI16 h4).2.2.1 h1 h2 h3 rfl (K.c16 h4) (K.cS h5) h6 hr).mono fun x w' ⟨g1,g2,g3,_⟩=>⟨g1,g2,g3⟩
  | true =>
   obtain ⟨h1,h2,h3,h4,h5,h6⟩:=K.rCNStr hk
   exact (k_rCNStr K.env (K.rUvar h4).1 h1 h2 h3 rfl (K.cU h4) (K.cS h5) h6 hr).mono fun x w' ⟨g1,g2,g3,_⟩=>⟨g1,g2,g3⟩
 octs:=by
  intro fx hk rb sb st W hr
  cases fx with
  | false =>
   obtain ⟨h1,h2,h3⟩:=K.rBytes hk
   exact (k_rBytes K.env K.i32 (K.c32 h1) (K.cS h2) h3 hr).mono fun x w' ⟨g1,g2,g3,_⟩=>⟨g1,g2,g3⟩
  | true =>
   obtain ⟨h1,h2,h3⟩:=K.rCBytes hk
   exact (k_rCBytes K.env (K.rUvar h1).1 (K.cU h1) (K.cS h2) h3 hr).mono fun x w' ⟨g1,g2,g3,_⟩=>⟨g1,g2,g3⟩
 nocts:=by
  intro fx hk rb sb st W hr
  cases fx with
  | false =>
   obtain ⟨h1,h2,h3⟩:=K.rNBytes hk
   exact (k_rNBytes K.env K.i32 (K.c32 h1) (K.cS h2) h3 hr).mono fun x w' ⟨g1,g2,g3,_⟩=>⟨g1,g2,g3⟩
  | true =>
   obtain ⟨h1,h2,h3⟩:=K.rCNBytes hk
   exact (k_rCNBytes K.env (K.rUvar h1).1 (K.cU h1) (K.cS h2) h3 hr).mono fun x w' ⟨g1,g2,g3,_⟩=>⟨g1,g2,g3⟩
 len:=by
  intro fx hk rb sb st W hr
  cases fx with
  | false =>
   obtain ⟨h1,h2⟩:=K.rLen hk
   exact (k_rLen K.env K.i32 (K.c32 h1) h2 hr).rdv fun _=>rfl
  | true =>
   obtain ⟨h1,h2⟩:=K.rCLen hk
   exact (k_rCLen K.env (K.rUvar h1).1 K.i32 (K.cU h1) h2 hr).rdv fun _=>rfl
 ok:=fun rb sb st W hr=>k_rOk K.env K.rOk hr
 complete:=fun rb sb st W ev hr he=>k_rComplete K.env K.oE K.rComplete he hr
 tags:=hT
end
end Go.Km
namespace Go.Km
open Go Go.RowKit
attribute [local irreducible] vc rO_ qz qI qF
def Ty.Val (w:World) (a:Act) (s:Nat) (ty:Ty) (cs:List Value):Prop:=if ty.arr then ∃ q,a.eval (.tmp s)=.pointer (some ⟨q,0,none⟩)/\qb w q 0 cs else cs=[a.eval (.tmp s)]
def Ty.RVal (P:Program) (E:Env) (T:List (Nat × List UInt8)->Prop) (ty:Ty):Prop :=
 ∀ (x:Cx) (ver:Nat) (fx:Bool) (L TP TU s f n t b rb sb:Nat) (ev:Value) (a:Act) (w:World) (st:RSt) (Q:Exit->Act->World->Prop),
  ty.okR P E x=true->ty.txR P E->RSl x L n t fx->n+1+ty.rn<=L->t+ty.rt x<=a.tmps.size->RSta E x ver fx rb sb ev a w st →
  (ty.isList=true->∃ pb po off,a.eval (.tmp s)=.pointer (some ⟨pb,po,none⟩)/\s<n/\ql P TU f=some off/\w.cell? ⟨pb,po+off,none⟩=some (.slice none 0 0)) →
  (∀ a' w' cs d,Fr (KR L n t) a a'->RSta E x ver fx rb sb ev a' w' (ty.rd fx ver st).2->ty.Val w' a' (n+ty.rslot) cs->ty.Rep w' ⟨sb,T⟩ w.heap.size cs d->Eff (RM rb) w w'->((ty.rd fx ver st).2.2=false->d=(ty.rd fx ver st).1)->Q .normal a' w') →
  (∀ a' w',a'.defers=a.defers->a'.tmps.size=a.tmps.size->a'.eval (.tmp 6)=ev->Eff (RM rb) w w'->(ty.rd fx ver st).2.2=true->Q .ret a' w') →
  vc P (sq (ty.rc E x TP TU s f n t b)) Q a w
theorem Cx.ok_fx {x:Cx} {FC F:FuncId} {fx:Bool} (h:x.ok FC F=true) (hno:x.fl=none->fx=false):(if fx then FC else F)≠0:=by
 unfold Cx.ok at h
 simp only[Bool.and_eq_true,bne_iff_ne,Bool.or_eq_true] at h
 cases fx with
 | false=>simpa using h.1
 | true =>
  simp only[if_true]
  rcases h.2 with h | h
  ·cases hf:x.fl with
   | none=>exact absurd (hno hf) (by simp)
   | some f=>rw[hf] at h;cases h
  ·exact h
section
variable {P : Program} {E : Env} {T : List (Nat × List UInt8) → Prop}
theorem rv_scal (H:EnvR P E T) (k:Scal) (df:Int):(Ty.scal k df).RVal P E T:=by
 intro x ver fx L TP TU s f n t b rb sb ev a w st Q hok htx hs hn ht hst hl kn kr
 have h2:=hs.nL;have h3:=hs.Lt;have h7:=hs.seven;have hrd:=hs.rd
 simp only[Ty.okR,Bool.and_eq_true,bne_iff_ne] at hok
 simp only[Ty.rt] at ht
 simp only[Ty.rn] at hn
 simp only[Ty.rc]
 refine vS (ja (K:=KR L n t) hst.p7 (H.scal k hok.1 rb sb st w hst.rd) hs.kt (hs.kn n (Nat.le_refl _) (by omega)) (by omega) ht ?_)
 rintro a1 v w1 hf he ⟨⟨hv,hvo⟩,hr,hE⟩
 refine vN (kn a1 w1 [v] (.int (k.rd st).1) hf (hst.step hs hf hr hE) ?_ ?_ hE (fun _=>rfl))
 ·simp only[Ty.Val,Ty.arr,Ty.rslot,Bool.false_eq_true,if_false,Nat.add_zero,he]
 ·rw[hv];exact ⟨rfl,hvo⟩
theorem rv_uuid (H:EnvR P E T):Ty.uuid.RVal P E T:=by
 intro x ver fx L TP TU s f n t b rb sb ev a w st Q hok htx hs hn ht hst hl kn kr
 have h2:=hs.nL;have h3:=hs.Lt;have h7:=hs.seven;have hrd:=hs.rd
 simp only[Ty.okR,Bool.and_eq_true,bne_iff_ne,beq_iff_eq] at hok
 obtain ⟨⟨hok,hagg⟩,hz⟩:=hok
 obtain ⟨z,hz,hzl⟩:=zeroAgg_inv hz
 simp only[Ty.rt] at ht
 simp only[Ty.rn] at hn
 simp only[Ty.rc]
 refine vX ?_
 refine q8 (args:=#[.pointer (some ⟨rb,0,none⟩)]) ?_ (H.uuid hok rb sb st w hst.rd) ?_
 ·simp only[lM]
  simp (disch:=(try simp only[sP]);omega) only[eV,hst.p7]
 rintro v w1 ⟨⟨l,hl16,rfl,hlv⟩,hr,hE⟩
 refine qK hz ?_
 have hfree:∀ i,i<(l.map bv).length->qq (w1.alloc (.cells (Value.agg z.toArray).cells E.tUuid)) w1.heap.size (0+i):=by
  exact fun i hi=>qn w1 _ E.tUuid (by simp[Value.cells];simp at hi;omega)
 refine qu (b:=w1.heap.size) (o:=0) (cs:=l.map bv) (by simp (disch:=(try simp only[sP]);omega) only[eV]) (by simp (disch:=(try simp only[sP]);omega) only[eV]) (xo l) (by rw[List.length_map,hl16];exact hagg) hfree ?_
 refine dn ?_
 have hg:Eff (RM rb) w1 (setCells (w1.alloc (.cells (Value.agg z.toArray).cells E.tUuid)) w1.heap.size 0 (l.map bv)):=by
  refine ((Eff.refl _ w1).alloc _).trans' (qe _ _ _ _) ?_
  rintro k i hk ⟨rfl,_⟩
  omega
 have hb:Below w1.heap.size w1 (setCells (w1.alloc (.cells (Value.agg z.toArray).cells E.tUuid)) w1.heap.size 0 (l.map bv)):=by
  refine Eff.below (M:=fun k i=>k=w1.heap.size) ?_ (Nat.le_refl _) (by rintro k i hk rfl;omega)
  refine ((Eff.refl _ w1).alloc _).trans' (qe _ _ _ _) ?_
  rintro k i hk ⟨rfl,_⟩
  rfl
 have hfr:Fr (KR L n t) a ((a.put (some t) (.agg (l.map bv).toArray)).put (some n) (.pointer (some ⟨w1.heap.size,0,none⟩))):=((Fr.refl _ a).put _ (hs.kt _ (by omega))).put _ (hs.kn n (Nat.le_refl _) (by omega))
 refine vN (kn _ _ (l.map bv) (.bytes (some l)) hfr (hst.step hs hfr (hr.below hb hr.rb_lt hr.lt) (hE.trans hg)) ?_ ?_ (hE.trans hg) ?_)
 ·simp only[Ty.Val,Ty.arr,if_true,Ty.rslot,Nat.add_zero]
  refine ⟨w1.heap.size,(by simp (disch:=(try simp only[sP]);omega) only[eV]),?_⟩
  intro i v hv
  exact qg _ _ _ _ (fun j hj=>(hfree j hj).1) i v hv
 ·exact ⟨hl16,rfl⟩
 ·intro h
  rw[hlv (by simpa only[Ty.rd] using h)]
  rfl
theorem rv_named (H:EnvR P E T) (k:Scal) (N:TypeId) (df:Int):(Ty.named k N df).RVal P E T:=by
 intro x ver fx L TP TU s f n t b rb sb ev a w st Q hok htx hs hn ht hst hl kn kr
 have h2:=hs.nL;have h3:=hs.Lt;have h7:=hs.seven;have hrd:=hs.rd
 simp only[Ty.okR,Bool.and_eq_true,bne_iff_ne] at hok
 simp only[Ty.rt] at ht
 simp only[Ty.rn] at hn
 simp only[Ty.rc]
 refine vX (rA (dn ?_))
 have hf0:∀ v,Fr (KR L n t) a (a.put (some n) v):=fun v=>(Fr.refl _ a).put _ (hs.kn n (Nat.le_refl _) (by omega))
 refine vS (vS (ja (K:=KR L n t) ((hst.fr hs (hf0 _)).p7) (H.scal k hok.1 rb sb st w hst.rd) hs.kt (hs.kn (n+1) (by omega) (by omega)) (by omega) (by rw[zP];omega) ?_))
 rintro a1 v w1 hf he ⟨⟨hv,hvo⟩,hr,hE⟩
 have hf1:=(hf0 _).trans hf
 have hz1:=hf1.size
 refine vX (rM (rA (dn (vN (vX (rM (rA (dn ?_))))))))
 have hf2:∀ u1 u2 u3 u4,Fr (KR L n t) a ((((a1.put (some (t+1)) u1).put (some n) u2).put (some (t+2)) u3).put (some (n+2)) u4):=fun _ _ _ _ =>
  (((hf1.put _ (hs.kt _ (by omega))).put _ (hs.kn n (Nat.le_refl _) (by omega))).put _ (hs.kt _ (by omega))).put _ (hs.kn (n+2) (by omega) (by omega))
 refine vN (kn _ w1 [v] (.int (k.rd st).1) (hf2 _ _ _ _) (hst.step hs (hf2 _ _ _ _) hr hE) ?_ ?_ hE (fun _=>rfl))
 ·simp only[Ty.Val,Ty.arr,Ty.rslot,Bool.false_eq_true,if_false]
  rw[← he]
  simp (disch:=(try simp only[sP]);omega) only[eV]
 ·rw[hv];exact ⟨rfl,hvo⟩
theorem m_way1 {x:Cx} {ver:Nat} {fx:Bool} {L n t rb sb:Nat} {ev:Value} {a:Act} {w:World} {st:RSt} {Q:Exit->Act->World->Prop} {FC F:FuncId} {T0:TypeId} {S:Value->World->Prop} (hs:RSl x L n t fx) (hn:n+1<=L) (hst:RSta E x ver fx rb sb ev a w st) (ht:t+(match x.fl with | none=>1 | some _=>3)<=a.tmps.size)
  (hc:qa P (if fx then FC else F) #[.pointer (some ⟨rb,0,none⟩)] w S) (k:∀ a' v w',Fr (KR L n t) a a'->a'.eval (.tmp n)=v->S v w'->Q .normal a' w') :
  vc P (match x.fl with | none=>qU E x F T0 n t | some fl=>rIf E t fl (qU E x FC T0 n (t+1)) (qU E x F T0 n (t+2))) Q a w:=by
 have h2:=hs.nL;have h3:=hs.Lt;have h7:=hs.seven;have hrd:=hs.rd
 cases hx:x.fl with
 | none =>
  simp only[hx] at ht ⊢
  have hfx:=hs.no hx
  subst hfx
  exact ja (K:=KR L n t) hst.p7 hc hs.kt (hs.kn n (Nat.le_refl _) (by omega)) (by omega) ht k
 | some fl =>
  simp only[hx] at ht ⊢
  have hfl:=hs.fl fl hx
  exact m_rflex (K:=KR L n t) hst.p7 (hst.fl fl hx) hc hs.kt (hs.kn n (Nat.le_refl _) (by omega)) (by omega) (by omega) (by omega) (by omega) (by omega) (by omega) (by omega) k
theorem m_way2 {x:Cx} {ver:Nat} {fx:Bool} {L n t rb sb:Nat} {ev:Value} {a:Act} {w:World} {st:RSt} {Q:Exit->Act->World->Prop} {FC F U1 U2 U3:FuncId} {T0:TypeId} {S:Value->World->Prop} (hs:RSl x L n t fx) (hn:n+1<=L) (hst:RSta E x ver fx rb sb ev a w st) (ht:t+(match x.fl with | none=>3 | some _=>7)<=a.tmps.size)
  (hc:qa P (if fx then FC else F) #[.pointer (some ⟨rb,0,none⟩)] w S) (k:∀ a' v w',Fr (KR L n t) a a'->a'.eval (.tmp n)=v->S v w'->Q .normal a' w') :
  vc P (match x.fl with
   | none=>rIf E t 2 (qU E x U1 T0 n (t+1)) (qU E x F T0 n (t+2))
   | some fl=>rIf E t 2 (rIf E (t+1) fl (qU E x U2 T0 n (t+2)) (qU E x U3 T0 n (t+3))) (rIf E (t+4) fl (qU E x FC T0 n (t+5)) (qU E x F T0 n (t+6)))) Q a w:=by
 have h2:=hs.nL;have h3:=hs.Lt;have h7:=hs.seven;have hrd:=hs.rd
 have hkn:=hs.kn n (Nat.le_refl _) (by omega)
 cases hx:x.fl with
 | none =>
  simp only[hx] at ht ⊢
  have hfx:=hs.no hx
  subst hfx
  refine yY (K:=KR L n t) hst.us (hs.kt _ (Nat.le_refl _)) (by omega) (by omega) (fun h=>by cases h) (fun _ a' hf he=>?_)
  exact ja (K:=KR L n t) (by rw[he x.rd (by omega)];exact hst.p7) hc (fun d hd=>hs.kt d (by omega)) hkn (by omega) (by rw[hf.size];omega) (fun a2 v w' hf2=>k a2 v w' (hf.trans hf2))
 | some fl =>
  simp only[hx] at ht ⊢
  have hfl:=hs.fl fl hx
  refine yY (K:=KR L n t) hst.us (hs.kt _ (Nat.le_refl _)) (by omega) (by omega) (fun h=>by cases h) (fun _ a' hf he=>?_)
  exact m_rflex (K:=KR L n t) (by rw[he x.rd (by omega)];exact hst.p7) (by rw[he fl (by omega)];exact hst.fl fl hx) hc (fun d hd=>hs.kt d (by omega)) hkn (by omega) (by omega) (by omega) (by omega) (by omega) (by rw[hf.size];omega) (by rw[hf.size];omega) (fun a2 v w' hf2=>k a2 v w' (hf.trans hf2))
theorem m_way3 {x:Cx} {ver:Nat} {fx:Bool} {L n t rb sb:Nat} {ev:Value} {a:Act} {w:World} {st:RSt} {Q:Exit->Act->World->Prop} {FC F U1 U2 U3:FuncId} {T0:TypeId} {S:Value->World->Prop} (hs:RSl x L n t fx) (hn:n+1<=L) (hst:RSta E x ver fx rb sb ev a w st) (ht:t+(match x.fl with | none=>3 | some _=>7)<=a.tmps.size)
  (hc:qa P (if fx then FC else F) #[.pointer (some ⟨rb,0,none⟩)] w S) (k:∀ a' v w',Fr (KR L n t) a a'->a'.eval (.tmp n)=v->S v w'->Q .normal a' w') :
  vc P (match x.fl with
   | none=>rIf E t 2 (qU E x U1 T0 n (t+1)) (qU E x F T0 n (t+2))
   | some fl=>rIf E t fl (rIf E (t+1) 2 (qU E x U2 T0 n (t+2)) (qU E x FC T0 n (t+3))) (rIf E (t+4) 2 (qU E x U3 T0 n (t+5)) (qU E x F T0 n (t+6)))) Q a w:=by
 have h2:=hs.nL;have h3:=hs.Lt;have h7:=hs.seven;have hrd:=hs.rd
 have hkn:=hs.kn n (Nat.le_refl _) (by omega)
 cases hx:x.fl with
 | none =>
  simp only[hx] at ht ⊢
  have hfx:=hs.no hx
  subst hfx
  refine yY (K:=KR L n t) hst.us (hs.kt _ (Nat.le_refl _)) (by omega) (by omega) (fun h=>by cases h) (fun _ a' hf he=>?_)
  exact ja (K:=KR L n t) (by rw[he x.rd (by omega)];exact hst.p7) hc (fun d hd=>hs.kt d (by omega)) hkn (by omega) (by rw[hf.size];omega) (fun a2 v w' hf2=>k a2 v w' (hf.trans hf2))
 | some fl =>
  simp only[hx] at ht ⊢
  have hfl:=hs.fl fl hx
  refine yY (K:=KR L n t) (hst.fl fl hx) (hs.kt _ (Nat.le_refl _)) (by omega) (by omega) ?_ ?_
  ·intro h a' hf he
   subst h
   refine yY (K:=KR L n t) (b:=false) (by rw[he 2 (by omega)];exact hst.us) (hs.kt _ (by omega)) (by omega) (by rw[hf.size];omega) (fun h=>by cases h) (fun _ a2 hf2 he2=>?_)
   exact ja (K:=KR L n t) (by rw[he2 x.rd (by omega),he x.rd (by omega)];exact hst.p7) hc (fun d hd=>hs.kt d (by omega)) hkn (by omega) (by rw[hf2.size,hf.size];omega) (fun a3 v w' hf3=>k a3 v w' ((hf.trans hf2).trans hf3))
  ·intro h a' hf he
   subst h
   refine yY (K:=KR L n t) (b:=false) (by rw[he 2 (by omega)];exact hst.us) (hs.kt _ (by omega)) (by omega) (by rw[hf.size];omega) (fun h=>by cases h) (fun _ a2 hf2 he2=>?_)
   exact ja (K:=KR L n t) (by rw[he2 x.rd (by omega),he x.rd (by omega)];exact hst.p7) hc (fun d hd=>hs.kt d (by omega)) hkn (by omega) (by rw[hf2.size,hf.size];omega) (fun a3 v w' hf3=>k a3 v w' ((hf.trans hf2).trans hf3))
theorem rv_text (H:EnvR P E T):Ty.text.RVal P E T:=by
 intro x ver fx L TP TU s f n t b rb sb ev a w st Q hok htx hs hn ht hst hl kn kr
 have h2:=hs.nL;have h3:=hs.Lt;have h7:=hs.seven;have hrd:=hs.rd
 simp only[Ty.okR,Bool.and_eq_true] at hok
 have hF:=Cx.ok_fx hok.1 hs.no
 simp only[Ty.rn] at hn
 simp only[Ty.rt] at ht
 have hf0:∀ v,Fr (KR L n t) a (a.put (some n) v):=fun v=>(Fr.refl _ a).put _ (hs.kn n (Nat.le_refl _) (by omega))
 have fin:∀ a1 v w1,Fr (KR L n t) a a1->a1.eval (.tmp n)=v->((v=.string ⟨(zz (rdL fx st)).1.toArray⟩)/\RdS w1 rb sb (zz (rdL fx st)).2/\Eff (RM rb) w w1)->Q .normal a1 w1:=by
  rintro a1 v w1 hf he ⟨hv,hr,hE⟩
  refine kn a1 w1 [v] (.bytes (some (zz (rdL fx st)).1)) hf (hst.step hs hf hr hE) ?_ ?_ hE (fun _=>rfl)
  ·simp only[Ty.Val,Ty.arr,Ty.rslot,Bool.false_eq_true,if_false,Nat.add_zero,he]
  ·rw[hv];rfl
 simp only[Ty.rc]
 refine vX (rA (dn ?_))
 exact vS (m_way2 hs (by omega) (hst.fr hs (hf0 _)) (by rw[zP];exact ht) (H.str fx hF rb sb st w hst.rd) (fun a1 v w1 hf he hS=>vN (fin a1 v w1 ((hf0 _).trans hf) he hS)))
theorem rv_ntext (H:EnvR P E T):Ty.ntext.RVal P E T:=by
 intro x ver fx L TP TU s f n t b rb sb ev a w st Q hok htx hs hn ht hst hl kn kr
 have h2:=hs.nL;have h3:=hs.Lt;have h7:=hs.seven;have hrd:=hs.rd
 simp only[Ty.okR,Bool.and_eq_true] at hok
 have hF:=Cx.ok_fx hok.1 hs.no
 simp only[Ty.rn] at hn
 simp only[Ty.rt] at ht
 have hf0:∀ v,Fr (KR L n t) a (a.put (some n) v):=fun v=>(Fr.refl _ a).put _ (hs.kn n (Nat.le_refl _) (by omega))
 have fin:∀ a1 v w1,Fr (KR L n t) a a1->a1.eval (.tmp n)=v->((PStr w1 w.heap.size v (qP (rdL fx st)).1)/\RdS w1 rb sb (qP (rdL fx st)).2/\Eff (RM rb) w w1)->Q .normal a1 w1:=by
  rintro a1 v w1 hf he ⟨hv,hr,hE⟩
  refine kn a1 w1 [v] (.bytes (qP (rdL fx st)).1) hf (hst.step hs hf hr hE) ?_ ?_ hE (fun _=>rfl)
  ·simp only[Ty.Val,Ty.arr,Ty.rslot,Bool.false_eq_true,if_false,Nat.add_zero,he]
  ·revert hv
   generalize (qP (rdL fx st)).1=o
   intro hv
   cases o with
   | none=>simp only[PStr] at hv;rw[hv];rfl
   | some l =>
    obtain ⟨q,h1,h2,h3⟩:=hv
    exact ⟨q,by rw[h1],h2,h3⟩
 simp only[Ty.rc]
 refine vX (rA (dn ?_))
 exact vS (m_way3 hs (by omega) (hst.fr hs (hf0 _)) (by rw[zP];exact ht) (H.nstr fx hF rb sb st w hst.rd) (fun a1 v w1 hf he hS=>vN (fin a1 v w1 ((hf0 _).trans hf) he hS)))
theorem rv_bytes (H:EnvR P E T):Ty.bytes.RVal P E T:=by
 intro x ver fx L TP TU s f n t b rb sb ev a w st Q hok htx hs hn ht hst hl kn kr
 have h2:=hs.nL;have h3:=hs.Lt;have h7:=hs.seven;have hrd:=hs.rd
 simp only[Ty.okR,Bool.and_eq_true] at hok
 have hF:=Cx.ok_fx hok.1 hs.no
 simp only[Ty.rn] at hn
 simp only[Ty.rt] at ht
 have hf0:∀ v,Fr (KR L n t) a (a.put (some n) v):=fun v=>(Fr.refl _ a).put _ (hs.kn n (Nat.le_refl _) (by omega))
 have fin:∀ a1 v w1,Fr (KR L n t) a a1->a1.eval (.tmp n)=v->((∃ o,OctV w1 sb w.heap.size v o/\((xN (xX fx st)).2.2=false->o=(xN (xX fx st)).1))/\RdS w1 rb sb (xN (xX fx st)).2/\Eff (RM rb) w w1)->Q .normal a1 w1:=by
  rintro a1 v w1 hf he ⟨⟨o,hv,ho⟩,hr,hE⟩
  refine kn a1 w1 [v] (.bytes o) hf (hst.step hs hf hr hE) ?_ ?_ hE (fun h=>by rw[ho (by simpa only[Ty.rd] using h)];rfl)
  ·simp only[Ty.Val,Ty.arr,Ty.rslot,Bool.false_eq_true,if_false,Nat.add_zero,he]
  ·cases o with
   | none=>simp only[OctV] at hv;rw[hv];rfl
   | some l =>
    obtain ⟨q,o,cap,h1,h2,h3,h4⟩:=hv
    exact ⟨q,o,cap,by rw[h1],h2,h3,h4⟩
 have hgo:=m_way1 (P:=P) (Q:=Exit.then (vc P (sq []) Q) Q) (T0:=E.tB) hs (by omega) (hst.fr hs (hf0 (.slice none 0 0))) (by rw[zP];exact ht) (H.octs fx hF rb sb st w hst.rd) (fun a1 v w1 hf he hS=>vN (fin a1 v w1 ((hf0 _).trans hf) he hS))
 simp only[Ty.rc]
 cases hx:x.fl with
 | none =>
  simp only[hx] at hgo ⊢
  refine vX (rA (dn ?_))
  exact vS hgo
 | some fl =>
  simp only[hx] at hgo ⊢
  refine vX (rA (dn ?_))
  exact vS hgo
theorem rv_nbytes (H:EnvR P E T):Ty.nbytes.RVal P E T:=by
 intro x ver fx L TP TU s f n t b rb sb ev a w st Q hok htx hs hn ht hst hl kn kr
 have h2:=hs.nL;have h3:=hs.Lt;have h7:=hs.seven;have hrd:=hs.rd
 simp only[Ty.okR,Bool.and_eq_true] at hok
 have hF:=Cx.ok_fx hok.1 hs.no
 simp only[Ty.rn] at hn
 simp only[Ty.rt] at ht
 have hf0:∀ v,Fr (KR L n t) a (a.put (some n) v):=fun v=>(Fr.refl _ a).put _ (hs.kn n (Nat.le_refl _) (by omega))
 have fin:∀ a1 v w1,Fr (KR L n t) a a1->a1.eval (.tmp n)=v->((∃ o,OctV w1 sb w.heap.size v o/\((qP (xX fx st)).2.2=false->o=(qP (xX fx st)).1))/\RdS w1 rb sb (qP (xX fx st)).2/\Eff (RM rb) w w1)->Q .normal a1 w1:=by
  rintro a1 v w1 hf he ⟨⟨o,hv,ho⟩,hr,hE⟩
  refine kn a1 w1 [v] (.bytes o) hf (hst.step hs hf hr hE) ?_ ?_ hE (fun h=>by rw[ho (by simpa only[Ty.rd] using h)];rfl)
  ·simp only[Ty.Val,Ty.arr,Ty.rslot,Bool.false_eq_true,if_false,Nat.add_zero,he]
  ·cases o with
   | none=>simp only[OctV] at hv;rw[hv];rfl
   | some l =>
    obtain ⟨q,o,cap,h1,h2,h3,h4⟩:=hv
    exact ⟨q,o,cap,by rw[h1],h2,h3,h4⟩
 have hgo:=m_way1 (P:=P) (Q:=Exit.then (vc P (sq []) Q) Q) (T0:=E.tB) hs (by omega) (hst.fr hs (hf0 (.slice none 0 0))) (by rw[zP];exact ht) (H.nocts fx hF rb sb st w hst.rd) (fun a1 v w1 hf he hS=>vN (fin a1 v w1 ((hf0 _).trans hf) he hS))
 simp only[Ty.rc]
 cases hx:x.fl with
 | none =>
  simp only[hx] at hgo ⊢
  refine vX (rA (dn ?_))
  exact vS hgo
 | some fl =>
  simp only[hx] at hgo ⊢
  refine vX (rA (dn ?_))
  exact vS hgo
end
end Go.Km
namespace Go.Km
open Go Go.RowKit
attribute [local irreducible] vc rO_ qz qI qF
theorem RdS.keep {M:Nat->Nat->Prop} {W W':World} {rb sb:Nat} {st:RSt} (h:RdS W rb sb st) (he:Eff M W W') (h1:∀ i,¬ M rb i) (h2:∀ i,¬ M sb i):RdS W' rb sb st:=by
 obtain ⟨v,h3,h4⟩:=h.cells
 exact ⟨h.ne,Nat.lt_of_lt_of_le h.lt he.size,⟨v,h3.eff he (fun i _=>h1 _),h4.heap (he.blockEq h.lt h2)⟩,h.f0.eff he,h.f1.eff he,h.len⟩
theorem RSta.keep {E:Env} {x:Cx} {ver:Nat} {fx:Bool} {rb sb:Nat} {ev:Value} {a a':Act} {w w':World} {st:RSt} {L n t:Nat} {M:Nat->Nat->Prop}
  (h:RSta E x ver fx rb sb ev a w st) (hs:RSl x L n t fx) (hf:Fr (KR L n t) a a') (he:Eff M w w') (h1:∀ i,¬ M rb i) (h2:∀ i,¬ M sb i) (h3:∀ i,¬ M E.vErr i):RSta E x ver fx rb sb ev a' w' st :=
 ⟨h.rd.keep he h1 h2,(h.fr hs hf).p7,(h.fr hs hf).us,(h.fr hs hf).ver,(h.fr hs hf).fl,he.cellSome h.err (h3 _),h.evr,h.evi⟩
section
variable {P : Program} {E : Env} {T : List (Nat × List UInt8) → Prop}
theorem m_rcallSt {x:Cx} {F:FuncId} {T0:TypeId} {y t q:Nat} {S:Value->World->Prop} {p:Value} {K:Nat->Prop} {a:Act} {w:World} {Q:Exit->Act->World->Prop} (hp:a.eval (.tmp x.rd)=p) (hq:a.eval (.tmp y)=.pointer (some ⟨q,0,none⟩)) (hc:qa P F #[p] w S) (h1:qQ P T0=true) (hS:∀ v w',S v w'->v.oneCell'=true/\qq w' q 0) (ht:∀ d,t<=d->¬ K d) (hyt:y<t) (hsz:t+1<=a.tmps.size)
  (k:∀ a' v w',Fr K a a'->(∀ k:Nat,k<t->a'.eval (.tmp k)=a.eval (.tmp k))->S v w'->Q .normal a' (setCells w' q 0 [v])):vc P (j8 E x F T0 y t) Q a w:=by
 refine vR (by simp) ?_
 refine q8 (args:=#[p]) ?_ hc ?_
 ·simp only[lM]
  simp (disch:=(try simp only[sP]);omega) only[eV,hp]
 intro v w' hs
 obtain ⟨hv,hf⟩:=hS v w' hs
 refine xq (b:=q) (o:=0) (v:=v) (by simp (disch:=(try simp only[sP]);omega) only[eV,hq]) (by simp (disch:=(try simp only[sP]);omega) only[eV]) hv h1 hf ?_
 refine dn ?_
 exact k _ v w' ((Fr.refl K a).put _ (ht _ (by omega))) (fun k hk=>qi _ _ _ _ (by omega)) hs
theorem m_way4 {x:Cx} {ver:Nat} {fx:Bool} {L n y t rb sb q:Nat} {ev:Value} {a:Act} {w:World} {st:RSt} {Q:Exit->Act->World->Prop} {FC F U1 U2 U3:FuncId} {T0:TypeId} {S:Value->World->Prop} (hs:RSl x L n t fx) (hy:y<n) (hst:RSta E x ver fx rb sb ev a w st) (ht:t+x.r3<=a.tmps.size)
  (hq:a.eval (.tmp y)=.pointer (some ⟨q,0,none⟩)) (hc:qa P (if fx then FC else F) #[.pointer (some ⟨rb,0,none⟩)] w S) (h1:qQ P T0=true) (hS:∀ v w',S v w'->v.oneCell'=true/\qq w' q 0) (k:∀ a' v w',Fr (KR L n t) a a'->(∀ k:Nat,k<t->a'.eval (.tmp k)=a.eval (.tmp k))->S v w'->Q .normal a' (setCells w' q 0 [v])) :
  vc P (match x.fl with
   | none=>rIf E t 2 (j8 E x U1 T0 y (t+1)) (j8 E x F T0 y (t+2))
   | some fl=>rIf E t fl (rIf E (t+1) 2 (j8 E x U2 T0 y (t+2)) (j8 E x FC T0 y (t+3))) (rIf E (t+4) 2 (j8 E x U3 T0 y (t+5)) (j8 E x F T0 y (t+6)))) Q a w:=by
 have h2:=hs.nL;have h3:=hs.Lt;have h7:=hs.seven;have hrd:=hs.rd
 unfold Cx.r3 at ht
 cases hx:x.fl with
 | none =>
  simp only[hx] at ht ⊢
  have hfx:=hs.no hx
  subst hfx
  refine yY (K:=KR L n t) hst.us (hs.kt _ (Nat.le_refl _)) (by omega) (by omega) (fun h=>by cases h) (fun _ a' hf he=>?_)
  exact m_rcallSt (K:=KR L n t) (by rw[he x.rd (by omega)];exact hst.p7) (by rw[he y (by omega)];exact hq) hc h1 hS (fun d hd=>hs.kt d (by omega)) (by omega) (by rw[hf.size];omega) (fun a2 v w' hf2 he2=>k a2 v w' (hf.trans hf2) (fun j hj=>by rw[he2 j (by omega),he j (by omega)]))
 | some fl =>
  simp only[hx] at ht ⊢
  have hfl:=hs.fl fl hx
  refine yY (K:=KR L n t) (hst.fl fl hx) (hs.kt _ (Nat.le_refl _)) (by omega) (by omega) ?_ ?_
  ·intro h a' hf he
   subst h
   refine yY (K:=KR L n t) (b:=false) (by rw[he 2 (by omega)];exact hst.us) (hs.kt _ (by omega)) (by omega) (by rw[hf.size];omega) (fun h=>by cases h) (fun _ a2 hf2 he2=>?_)
   exact m_rcallSt (K:=KR L n t) (by rw[he2 x.rd (by omega),he x.rd (by omega)];exact hst.p7) (by rw[he2 y (by omega),he y (by omega)];exact hq) hc h1 hS (fun d hd=>hs.kt d (by omega)) (by omega) (by rw[hf2.size,hf.size];omega) (fun a3 v w' hf3 he3=>k a3 v w' ((hf.trans hf2).trans hf3) (fun j hj=>by rw[he3 j (by omega),he2 j (by omega),he j (by omega)]))
  ·intro h a' hf he
   subst h
   refine yY (K:=KR L n t) (b:=false) (by rw[he 2 (by omega)];exact hst.us) (hs.kt _ (by omega)) (by omega) (by rw[hf.size];omega) (fun h=>by cases h) (fun _ a2 hf2 he2=>?_)
   exact m_rcallSt (K:=KR L n t) (by rw[he2 x.rd (by omega),he x.rd (by omega)];exact hst.p7) (by rw[he2 y (by omega),he y (by omega)];exact hq) hc h1 hS (fun d hd=>hs.kt d (by omega)) (by omega) (by rw[hf2.size,hf.size];omega) (fun a3 v w' hf3 he3=>k a3 v w' ((hf.trans hf2).trans hf3) (fun j hj=>by rw[he3 j (by omega),he2 j (by omega),he j (by omega)]))
set_option maxHeartbeats 1000000 in
theorem rv_ntextFrom (H:EnvR P E T) (N:Nat):(Ty.ntextFrom N).RVal P E T:=by
 intro x ver fx L TP TU s f n t b rb sb ev a w st Q hok htx hs hn ht hst hl kn kr
 have h2:=hs.nL;have h3:=hs.Lt;have h7:=hs.seven;have hrd:=hs.rd;have hvs:=hs.vs
 simp only[Ty.okR,Bool.and_eq_true] at hok
 obtain ⟨⟨⟨⟨hok1,hok2⟩,hP⟩,hS⟩,hZ⟩:=hok
 obtain ⟨z,hz,hzc⟩:=zero1_inv hZ
 have hF1:=Cx.ok_fx hok1 hs.no
 have hF2:=Cx.ok_fx hok2 hs.no
 simp only[Ty.rn] at hn
 simp only[Ty.rt] at ht
 simp only[Ty.rc]
 refine vX (rA (dn ?_))
 generalize ha1:Act.put a (some n) _=a1
 have hf1:Fr (KR L n t) a a1:=by subst ha1;exact (Fr.refl _ a).put _ (hs.kn n (Nat.le_refl _) (by omega))
 clear ha1
 have hz1:=hf1.size
 have hst1:=hst.fr hs hf1
 refine vS (m_ifLss (K:=KR L n t) hst1.ver (by omega) hs.kt (by omega) ?_ ?_)
 ·intro hlt a2 hf2 he2
  simp only[Ty.rd,if_pos hlt] at kn
  have hf2':=hf1.trans hf2
  have hz2:=hf2'.size
  refine vX ?_
  refine qK hz ?_
  refine dn ?_
  generalize ha3:Act.put a2 (some (n+1)) _=a3
  have hf3:Fr (KR L n t) a a3:=by subst ha3;exact hf2'.put _ (hs.kn (n+1) (by omega) (by omega))
  have he3:a3.eval (.tmp (n+1))=.pointer (some ⟨w.heap.size,0,none⟩):=by subst ha3;simp (disch:=(try simp only[sP]);omega) only[eV]
  clear ha3
  have hz3:=hf3.size
  have hfree:qq (w.alloc (.cells z.cells E.tStr)) w.heap.size 0:=qn w _ _ (by omega)
  have hb0:Below w.heap.size w (w.alloc (.cells z.cells E.tStr)):=(Below.refl w.heap.size w).alloc (o:=.cells _ _) (Nat.le_refl _)
  have hE0:Eff (RM rb) w (w.alloc (.cells z.cells E.tStr)):=(Eff.refl _ w).alloc _
  generalize w.alloc (.cells z.cells E.tStr)=w0 at *
  have hst3:RSta E x ver fx rb sb ev a3 w0 st:=hst.step hs hf3 (hst.rd.below hb0 hst.rd.rb_lt hst.rd.lt) hE0
  refine vS (m_way4 (n:=n+2) (L:=L) (hs.up (by omega) (by omega) (by omega)) (by omega) hst3 (by omega) he3 (H.str fx hF1 rb sb st w0 hst3.rd) hS ?_ ?_)
  ·rintro v w1 ⟨rfl,hr1,hE1⟩
   exact ⟨rfl,hfree.eff hE1⟩
  rintro a4 v w1 hf4 he4 ⟨rfl,hr1,hE1⟩
  have hfree1:=hfree.eff hE1
  have hf4':Fr (KR L n t) a a4:=hf3.trans (hf4.mono (KR.mono (by omega) (by omega)))
  have hz4:=hf4'.size
  have he44:a4.eval (.tmp (n+1))=.pointer (some ⟨w.heap.size,0,none⟩):=by rw[he4 _ (by omega)];exact he3
  have hg:Eff (fun k _=>k=w.heap.size) w1 (setCells w1 w.heap.size 0 [.string ⟨(zz (rdL fx st)).1.toArray⟩]):=(qe _ _ _ _).mono (fun k i _ h=>h.1)
  have hlt1:=hst.rd.lt
  have hlt2:=hst.rd.rb_lt
  have hr2:RdS (setCells w1 w.heap.size 0 [.string ⟨(zz (rdL fx st)).1.toArray⟩]) rb sb (zz (rdL fx st)).2:=hr1.keep hg (by intro i h;omega) (by intro i h;omega)
  have hE2:Eff (RM rb) w (setCells w1 w.heap.size 0 [.string ⟨(zz (rdL fx st)).1.toArray⟩]):=(hE0.trans hE1).trans' hg (by rintro k i hk rfl;omega)
  have hcell:(setCells w1 w.heap.size 0 [.string ⟨(zz (rdL fx st)).1.toArray⟩]).cell? ⟨w.heap.size,0,none⟩=some (.string ⟨(zz (rdL fx st)).1.toArray⟩) :=
   qg _ _ _ _ (fun j hj=>by
    have:j=0:=by simpa using hj
    subst this
    exact hfree1.1) 0 _ rfl
  refine vX (rA (dn ?_))
  have hf5:∀ v,Fr (KR L n t) a (a4.put (some n) v):=fun v=>hf4'.put _ (hs.kn n (Nat.le_refl _) (by omega))
  refine vN (vN (kn _ _ [.pointer (some ⟨w.heap.size,0,none⟩)] (.bytes (some (zz (rdL fx st)).1)) (hf5 _) (hst.step hs (hf5 _) hr2 hE2) ?_ ?_ hE2 (fun _=>rfl)))
  ·simp only[Ty.Val,Ty.arr,Ty.rslot,Bool.false_eq_true,if_false,Nat.add_zero]
   simp (disch:=(try simp only[sP]);omega) only[eV,he44]
  ·exact ⟨w.heap.size,rfl,Nat.le_refl _,hcell⟩
 ·intro hlt a2 hf2 he2
  simp only[Ty.rd,if_neg hlt] at kn
  have hf2':=hf1.trans hf2
  have hz2:=hf2'.size
  have hst2:=hst.fr hs hf2'
  have fin:∀ a1 v w1,Fr (KR L n t) a a1->a1.eval (.tmp n)=v->((PStr w1 w.heap.size v (qP (rdL fx st)).1)/\RdS w1 rb sb (qP (rdL fx st)).2/\Eff (RM rb) w w1)->Q .normal a1 w1:=by
   rintro a1 v w1 hf he ⟨hv,hr,hE⟩
   refine kn a1 w1 [v] (.bytes (qP (rdL fx st)).1) hf (hst.step hs hf hr hE) ?_ ?_ hE (fun _=>rfl)
   ·simp only[Ty.Val,Ty.arr,Ty.rslot,Bool.false_eq_true,if_false,Nat.add_zero,he]
   ·revert hv
    generalize (qP (rdL fx st)).1=o
    intro hv
    cases o with
    | none=>simp only[PStr] at hv;rw[hv];rfl
    | some l =>
     obtain ⟨q,h1,h2,h3⟩:=hv
     exact ⟨q,by rw[h1],h2,h3⟩
  refine m_way3 (n:=n) (L:=L) (t:=t+2+x.r3) (hs.up (Nat.le_refl _) (by omega) (by omega)) (by omega) hst2 (by rw[hz2];show t+2+x.r3+x.r3<=_;omega) (H.nstr fx hF2 rb sb st w hst2.rd) ?_
  exact fun a3 v w1 hf3 he3 hS3=>vN (fin a3 v w1 (hf2'.trans (hf3.mono (KR.mono (by omega) (by omega)))) he3 hS3)
end
def leafV (e:Ty) (cs:List Value):Value:=if e.arr then .agg cs.toArray else cs.headD undef
def Ty.okS (P:Program) (E:Env) (e:Ty):Prop:=if e.arr then zb P (e.T E)=some e.size else qQ P (e.T E)=true/\e.size=1
theorem Ty.okR_okS {P:Program} {E:Env} {x:Cx} (e:Ty) (h:e.okR P E x=true) (ht:e.tp=none):e.okS P E:=by
 cases e<;>simp_all [Ty.okR,Ty.okS,Ty.arr,Ty.T,Ty.size,Ty.tp]
theorem Ty.Rep.leaf {w:World} {sb:Sb} {B:Nat} (e:Ty) {cs:List Value} {d:D} (ht:e.tp=none) (h:e.Rep w sb B cs d):cs.length=e.size/\∀ v ∈ cs,v.oneCell'=true:=by
 cases e with
 | struct _ _ _ _=>cases ht
 | scal k _ | named k _ _ =>
  cases d<;>simp only[Ty.Rep] at h
  obtain ⟨rfl,_⟩:=h
  simp[Ty.size,Scal.val_one]
 | uuid =>
  cases d with
  | bytes o =>
   cases o<;>simp only[Ty.Rep] at h
   obtain ⟨h1,rfl⟩:=h
   exact ⟨by simp[h1,Ty.size],xo _⟩
  | _=>simp only[Ty.Rep] at h
 | text =>
  cases d with
  | bytes o =>
   cases o<;>simp only[Ty.Rep] at h
   subst h
   simp[Ty.size,Value.oneCell']
  | _=>simp only[Ty.Rep] at h
 | ntext | ntextFrom _ =>
  cases d with
  | bytes o =>
   cases o<;>simp only[Ty.Rep] at h
   ·subst h;simp[Ty.size,Value.oneCell']
   ·obtain ⟨q,rfl,_⟩:=h;simp[Ty.size,Value.oneCell']
  | _=>simp only[Ty.Rep] at h
 | bytes | nbytes =>
  cases d with
  | bytes o =>
   cases o<;>simp only[Ty.Rep] at h
   ·subst h;simp[Ty.size,Value.oneCell']
   ·obtain ⟨q,o,cap,rfl,_⟩:=h;simp[Ty.size,Value.oneCell']
  | _=>simp only[Ty.Rep] at h
 | list _ _ _ =>
  cases d with
  | list o =>
   cases o<;>simp only[Ty.Rep] at h
   ·rcases h with h | ⟨_,q,cap,h,_⟩<;>subst h<;>simp[Ty.size,Value.oneCell']
   ·obtain ⟨q,cap,rfl,_⟩:=h;simp[Ty.size,Value.oneCell']
  | _=>simp only[Ty.Rep] at h
 | nstruct _ _ _ _ _ =>
  cases d with
  | list o =>
   rcases o with _ | ⟨_ | ⟨d0,_ | ⟨d1,r⟩⟩⟩
   ·simp only[Ty.Rep] at h;subst h;simp[Ty.size,Value.oneCell']
   ·simp only[Ty.Rep] at h
   ·cases d0<;>simp only[Ty.Rep] at h
    obtain ⟨q,c,rfl,_⟩:=h;simp[Ty.size,Value.oneCell']
   ·cases d0<;>simp only[Ty.Rep] at h
  | _=>simp only[Ty.Rep] at h
section
variable {P : Program} {E : Env} {a : Act} {w : World} {r : List Oper} {Q : Exit → Act → World → Prop}
theorem r_leafLoad {e:Ty} {d s:Nat} {cs:List Value} (hS:e.okS P E) (hl:cs.length=e.size) (hv:e.Val w a s cs)
  (h:rO_ P Q r (a.put (some d) (leafV e cs)) w):rO_ P Q ((if e.arr then kE d (e.T E) (.tmp s) else qd d (.tmp s) (e.T E))::r) a w:=by
 unfold Ty.Val at hv
 unfold Ty.okS at hS
 unfold leafV at h
 cases ha:e.arr with
 | true =>
  simp only[ha,if_true] at *
  obtain ⟨q,h1,h2⟩:=hv
  exact qf (b:=q) (o:=0) h1 (by rw[hl];exact hS) h2 h
 | false =>
  simp only[ha,Bool.false_eq_true,if_false] at *
  subst hv
  exact rM h
theorem r_leafStore {e:Ty} {x y:Operand} {b o:Nat} {cs:List Value} (hS:e.okS P E) (hl:cs.length=e.size) (h1:∀ v ∈ cs,v.oneCell'=true) (hx:a.eval x=.pointer (some ⟨b,o,none⟩)) (hy:a.eval y=leafV e cs) (hf:∀ i,i<e.size->qq w b (o+i))
  (h:rO_ P Q r a (setCells w b o cs)):rO_ P Q (za (e.T E) x y::r) a w:=by
 unfold Ty.okS at hS
 unfold leafV at hy
 cases ha:e.arr with
 | true =>
  simp only[ha,if_true] at *
  exact qu (b:=b) (o:=o) (cs:=cs) hx hy h1 (by rw[hl];exact hS) (by rw[hl];exact hf) h
 | false =>
  simp only[ha,Bool.false_eq_true,if_false] at *
  obtain ⟨hS,hz⟩:=hS
  match cs,hl with
  | [],hl=>rw[hz] at hl;cases hl
  | [v],hl=>exact xq (b:=b) (o:=o) (v:=v) hx hy (h1 v (by simp)) hS (by simpa using hf 0 (by omega)) h
  | _::_::_,hl=>rw[hz] at hl;simp at hl
end
def FM (rb pb lo n:Nat):Nat->Nat->Prop:=fun k i=>RM rb k i\/(k=pb/\lo<=i/\i<lo+n)
def Flds.RVal (P:Program) (E:Env) (T:List (Nat × List UInt8)->Prop) (fs:Flds):Prop :=
 ∀ (x:Cx) (ver:Nat) (fx:Bool) (L:Nat) (TP TU:TypeId) (s idx off n t b rb sb pb po B:Nat) (ev:Value) (a:Act) (w:World) (st:RSt) (Q:Exit->Act->World->Prop),
  fs.okR P E x TU idx off=true->fs.txR P E->RSl x L n t fx->n+fs.rn<=L->t+fs.rt x<=a.tmps.size->RSta E x ver fx rb sb ev a w st →
  a.eval (.tmp s)=.pointer (some ⟨pb,po,none⟩)->s<n->qb w pb (po+off) fs.dz->(∀ i,i<fs.size->qq w pb (po+off+i))->pb≠rb->pb≠sb->pb≠E.vErr->pb<B->rb<B->B<=w.heap.size →
  (∀ a' w' cs ds tags,Fr (KR L n t) a a'->RSta E x ver fx rb sb ev a' w' (fs.rd fx ver noK st).2.2->cs.length=fs.size->qb w' pb (po+off) cs->fs.Rep w' ⟨sb,T⟩ B cs ds tags->Eff (FM rb pb (po+off) fs.size) w w' →
   ((fs.rd fx ver noK st).2.2.2=false->ds=(fs.rd fx ver noK st).1/\tags=(fs.rd fx ver noK st).2.1)->Q .normal a' w') →
  (∀ a' w',a'.defers=a.defers->a'.tmps.size=a.tmps.size->a'.eval (.tmp 6)=ev->Eff (FM rb pb (po+off) fs.size) w w'->(fs.rd fx ver noK st).2.2.2=true->Q .ret a' w') →
  vc P (sq (Flds.rc E x TP TU s idx [] n t b fs)) Q a w
section
variable {P : Program} {E : Env} {T : List (Nat × List UInt8) → Prop}
theorem m_struct {TP TU:TypeId} {FD:FuncId} {fs:Flds} (hF:fs.RVal P E T) {x:Cx} {ver:Nat} {fx:Bool} {L n t b rb sb pb po B:Nat} {ev:Value} {a:Act} {w:World} {st:RSt} {Q:Exit->Act->World->Prop} {cs0:List Value}
  (hok:(Ty.struct TP TU FD fs).okR P E x=true) (htx:(Ty.struct TP TU FD fs).txR P E) (hs:RSl x L n t fx) (hn:n+2+fs.rn<=L) (ht:t+(3+fs.rt x)<=a.tmps.size) (hst:RSta E x ver fx rb sb ev a w st)
  (hp:a.eval (.tmp n)=.pointer (some ⟨pb,po,none⟩)) (hc0:cs0.length=fs.size) (hov:fs.over cs0=fs.dz) (hc:qb w pb po cs0) (hf:∀ i,i<fs.size->qq w pb (po+i)) (h1:pb≠rb) (h2:pb≠sb) (h3:pb≠E.vErr) (hB:pb<B) (hrB:rb<B) (hBw:B<=w.heap.size)
  (kn:∀ a' w' cs ds tags,Fr (KR L n t) a a'->RSta E x ver fx rb sb ev a' w' (fs.rd fx ver noK st).2.2->cs.length=fs.size->qb w' pb po cs->fs.Rep w' ⟨sb,T⟩ B cs ds tags->Eff (FM rb pb po fs.size) w w' →
   ((fs.rd fx ver noK st).2.2.2=false->ds=(fs.rd fx ver noK st).1/\tags=(fs.rd fx ver noK st).2.1)->Q .normal a' w')
  (kr:∀ a' w',a'.defers=a.defers->a'.tmps.size=a.tmps.size->a'.eval (.tmp 6)=ev->Eff (FM rb pb po fs.size) w w'->(fs.rd fx ver noK st).2.2.2=true->Q .ret a' w') :
  vc P (sq (Ty.rc E x 0 0 0 0 n t b (.struct TP TU FD fs))) Q a w:=by
 have hnL:=hs.nL;have hLt:=hs.Lt;have h7:=hs.seven;have hrd:=hs.rd
 simp only[Ty.okR,Bool.and_eq_true] at hok
 simp only[Ty.txR] at htx
 obtain ⟨⟨np,nt,htxt,hnt⟩,htx⟩:=htx
 simp only[Ty.rc,List.cons_append,List.nil_append]
 refine vX (rM ?_)
 refine q8 (args:=#[.pointer (some ⟨pb,po,none⟩)]) ?_ (c_dflt (b:=pb) (o:=po) (off:=0) (cs:=cs0) htxt hnt hok.2 hc0 (by rw[Nat.add_zero];exact hc) (by rw[Nat.add_zero];exact hf)) ?_
 ·simp only[lM]
  simp (disch:=(try simp only[sP]);omega) only[eV,hp]
 rintro v w1 ⟨hE1,hc1⟩
 rw[Nat.add_zero] at hE1 hc1
 rw[hov] at hc1
 refine dn (vX (rM (rA (dn ?_))))
 generalize ha1:((((a.put (some t) (a.eval (.tmp n))).put (some (t+1)) v).put (some (t+2)) _).put (some (n+1)) _)=a1
 have hfr:Fr (KR L n t) a a1:=by
  subst ha1
  exact ((((Fr.refl _ a).put _ (hs.kt _ (by omega))).put _ (hs.kt _ (by omega))).put _ (hs.kt _ (by omega))).put _ (hs.kn (n+1) (by omega) (by omega))
 have hp1:a1.eval (.tmp (n+1))=.pointer (some ⟨pb,po,none⟩):=by
  subst ha1
  simp (disch:=(try simp only[sP]);omega) only[eV,hp]
 have hsz:=hfr.size
 have hE1':Eff (FM rb pb po fs.size) w w1:=hE1.mono (fun k i _ h=>.inr h)
 refine hF x ver fx L TP TU (n+1) 0 0 (n+2) (t+3) b rb sb pb po B ev a1 w1 st Q hok.1 htx (hs.up (by omega) (by omega) (by omega)) hn (by rw[hsz];omega)
  (hst.keep hs hfr hE1 (by rintro i ⟨h,_⟩;exact h1 h.symm) (by rintro i ⟨h,_⟩;exact h2 h.symm) (by rintro i ⟨h,_⟩;exact h3 h.symm)) hp1 (by omega) hc1 (fun i hi=>(hf i hi).eff hE1) h1 h2 h3 hB hrB (Nat.le_trans hBw hE1.size) ?_ ?_
 ·intro a' w' cs ds tags b1 b2 b3 b4 b5 b6 b7
  exact kn a' w' cs ds tags (hfr.trans (b1.mono (KR.mono (by omega) (by omega)))) b2 b3 b4 b5 (hE1'.trans b6) b7
 ·intro a' w' b1 b2 b3 b4 b5
  exact kr a' w' (by rw[b1,hfr.defers]) (by rw[b2,hsz]) b3 (hE1'.trans b4) b5
end
end Go.Km
namespace Go.Km
open Go Go.RowKit
attribute [local irreducible] vc rO_ qz qI qF
section
variable {P : Program} {a : Act} {w : World} {r : List Oper} {Q : Exit → Act → World → Prop}
end
section
variable {P : Program} {E : Env}
end
end Go.Km
namespace Go.Km
open Go Go.RowKit
attribute [local irreducible] vc rO_ qz qI qF
section
variable {P : Program} {E : Env} {T : List (Nat × List UInt8) → Prop} {K : Nat → Prop} {a : Act} {w : World} {Q : Exit → Act → World → Prop}
theorem m_listNull {TS te:TypeId} {sz N ver vs y z t:Nat} {l:Int} {v0:Value} (hB:xd P TS te sz=true) (hy:a.eval (.tmp y)=v0) (hz:a.eval (.tmp z)=.int .i32 l) (hv:a.eval (.tmp vs)=.int .i16 (ver:Int))
  (hky:¬ K y) (ht:∀ d,t<=d->¬ K d) (hyt:y<t) (hzt:z<t) (hvt:vs<t) (hsz:t+7<=a.tmps.size)
  (k:∀ a' w' v,Fr K a a'->Below w.heap.size w w'->a'.eval (.tmp y)=v->(if (decide (ver<N)||l==0)=true then ∃ q,v=.slice (some ⟨q,0,none⟩) 0 0/\w.heap.size<=q/\q<w'.heap.size else v=v0)->Q .normal a' w') :
  vc P (sq [rg [qd t (.tmp vs) E.tI16,zT (t+1) .lss E.tI16 (.tmp t) (i16 N) E.tI16 E.tO,qd (t+2) (.tmp (t+1)) E.tO,
    ⟨some (t+3),.move (.tmp z),E.tI32,"",#[],some (2,false)⟩,
    ⟨some (t+4),.binOp .eql E.tI32 (.tmp (t+3)) (i32 0) E.tI32,E.tO,"",#[],some (2,false)⟩,
    (oQ (t+5) (.pick (.tmp (t+2)) (.const (.bool true)) (.tmp (t+4))) E.tO)],
    .cond (.tmp (t+5)) (rg [zg (t+6) TS 0 #[],qc y (.tmp (t+6)) TS]) .skip]) Q a w:=by
 have hfr:∀ v0 v1 v2 v3 v4 v5,Fr K a ((((((a.put (some t) v0).put (some (t+1)) v1).put (some (t+2)) v2).put (some (t+3)) v3).put (some (t+4)) v4).put (some (t+5)) v5):=fun _ _ _ _ _ _ =>
  ((((((Fr.refl K a).put _ (ht _ (by omega))).put _ (ht _ (by omega))).put _ (ht _ (by omega))).put _ (ht _ (by omega))).put _ (ht _ (by omega))).put _ (ht _ (by omega))
 have fin:∀ (a1:Act),Fr K a a1->a1.eval (.tmp y)=v0->a1.eval (.tmp (t+5))=.bool (decide (ver<N)||l==0)->vc P (sq [.cond (.tmp (t+5)) (rg [zg (t+6) TS 0 #[],qc y (.tmp (t+6)) TS]) .skip]) Q a1 w:=by
  intro a1 hf hy1 h5
  have hs1:=hf.size
  refine vS (vC h5 ?_ ?_)
  ·intro h
   refine vR (by simp) ?_
   refine jJ hB ?_
   refine rA (dn (vN ?_))
   refine k _ _ (.slice (some ⟨w.heap.size,0,none⟩) 0 0) ((hf.put _ (ht _ (by omega))).put _ hky) ((Below.refl w.heap.size w).alloc (o:=.cells _ _) (Nat.le_refl _)) (by simp (disch:=(try simp only[sP]);omega) only[eV]) ?_
   rw[if_pos h]
   exact ⟨w.heap.size,rfl,Nat.le_refl _,by simp⟩
  ·intro h
   refine vK (vN ?_)
   refine k a1 w v0 hf (Below.refl _ _) hy1 ?_
   rw[if_neg (by rw[h];decide)]
 refine vS (vc_runG (dj:=t+2) (by simp) rfl ?_)
 refine g_mv ?_
 refine g_lss (k:=.i16) (m:=ver) (n:=N) (by simp (disch:=(try simp only[sP]);omega) only[eV,hv]) rfl ?_
 refine g_mv ?_
 by_cases h:(ver:Int)<N
 ·refine g_skip (b:=decide ((ver:Int)<N)) (by simp (disch:=(try simp only[sP]);omega) only[eV]) (by simpa using h) ?_
  refine g_skip (b:=decide ((ver:Int)<N)) (by simp (disch:=(try simp only[sP]);omega) only[eV]) (by simpa using h) ?_
  refine g_pick (b:=decide ((ver:Int)<N)) (v:=.bool true) (by simp (disch:=(try simp only[sP]);omega) only[eV]) (by rw[if_pos (by simpa using h)];rfl) ?_
  refine g_dn ?_
  refine fin _ (hfr _ _ _ _ _ _) (by simp (disch:=(try simp only[sP]);omega) only[eV,hy]) ?_
  have:(ver<N):=by omega
  rw[qB _ _ _ (by simp only[zP];omega)]
  simp[this]
 ·refine g_want (b:=decide ((ver:Int)<N)) (by simp (disch:=(try simp only[sP]);omega) only[eV]) (by simpa using h) ?_
  refine g_mv ?_
  refine g_want (b:=decide ((ver:Int)<N)) (by simp (disch:=(try simp only[sP]);omega) only[eV]) (by simpa using h) ?_
  refine g_eql (k:=.i32) (m:=l) (n:=0) (by simp (disch:=(try simp only[sP]);omega) only[eV,hz]) rfl ?_
  refine g_pick (b:=decide ((ver:Int)<N)) (v:=.bool (l==0)) (by simp (disch:=(try simp only[sP]);omega) only[eV]) (by rw[if_neg (by simpa using h)];simp (disch:=(try simp only[sP]);omega) only[eV]) ?_
  refine g_dn ?_
  refine fin _ (hfr _ _ _ _ _ _) (by simp (disch:=(try simp only[sP]);omega) only[eV,hy]) ?_
  have:¬ (ver<N):=by omega
  rw[qB _ _ _ (by simp only[zP];omega)]
  simp[this]
theorem m_listOk (H:EnvR P E T) {x:Cx} {rb sb t:Nat} {st:RSt} {ev:Value} (hr:RdS w rb sb st) (he:w.cell? ⟨E.vErr,0,none⟩=some ev) (hp:a.eval (.tmp x.rd)=.pointer (some ⟨rb,0,none⟩)) (ht:∀ d,t<=d->¬ K d) (h7:7<t) (hx:x.rd<t) (hsz:t+3<=a.tmps.size)
  (kn:st.2=false->∀ a',Fr K a a'->Q .normal a' w) (kr:st.2=true->∀ a',a'.defers=a.defers->a'.tmps.size=a.tmps.size->a'.eval (.tmp 6)=ev->Q .ret a' w) :
  vc P (sq [rg [xf (some t) E.rOk #[.tmp x.rd] #[E.tRd] E.tO,oUn (t+1) .not E.tO (.tmp t) E.tO],
   .cond (.tmp (t+1)) (sq [qU E x E.rComplete E.tErr 6 (t+2),.ret]) .skip]) Q a w:=by
 refine vX ?_
 refine q8 (args:=#[.pointer (some ⟨rb,0,none⟩)]) ?_ (H.ok rb sb st w hr) ?_
 ·simp only[lM]
  simp (disch:=(try simp only[sP]);omega) only[eV,hp]
 rintro v w1 ⟨rfl,rfl⟩
 refine zq (b:=!st.2) (by simp (disch:=(try simp only[sP]);omega) only[eV]) ?_
 refine dn ?_
 refine vS (vC (t:=st.2) (by rw[qB _ _ _ (by simp only[zP];omega)];simp) ?_ ?_)
 ·intro h
  refine vX ?_
  refine q8 (args:=#[.pointer (some ⟨rb,0,none⟩)]) ?_ (H.complete rb sb st w1 ev hr he) ?_
  ·simp only[lM]
   simp (disch:=(try simp only[sP]);omega) only[eV,hp]
  rintro v w2 ⟨rfl,rfl⟩
  refine rA (dn (vS (vT ?_)))
  refine kr h _ (by simp only[dF]) (by simp only[zP]) ?_
  rw[if_pos h]
  simp (disch:=(try simp only[sP]);omega) only[eV]
 ·intro h
  refine vK (vN (kn h _ ?_))
  exact ((Fr.refl K a).put _ (ht _ (by omega))).put _ (ht _ (by omega))
abbrev SlM (b0:Option Addr) (c0 k:Nat):Prop:=c0≠0/\b0=some ⟨k,0,none⟩
theorem m_listGrow (H:EnvR P E T) {TS te:TypeId} {sz y z t n0 c0:Nat} {l:Int} {base:Option Addr} {zv:Value} {rest:List Code} (hB:xd P TS te sz=true) (hzt:qH P te=some zv) (hy:a.eval (.tmp y)=.slice base n0 c0) (hz:a.eval (.tmp z)=.int .i32 l) (hl:l<=big)
  (ho:c0≠0->(∀ v ∈ zv.cells.toList,v.oneCell'=true)/\∃ q,base=some ⟨q,0,none⟩/\∀ i,i<c0*sz->qq w q i) (hky:¬ K y) (ht:∀ d,t<=d->¬ K d) (hyt:y<t) (hzt2:z<t) (hsz:t+7<=a.tmps.size)
  (k:∀ a' w',Fr K a a'->Eff (fun k _=>SlM base c0 k) w w'->((l<=0/\a'.eval (.tmp y)=.slice base 0 c0/\w'=w) ∨
   (0<l/\∃ q cap,a'.eval (.tmp y)=.slice (some ⟨q,0,none⟩) l.toNat cap/\(q=w.heap.size\/SlM base c0 q)/\q<w'.heap.size/\l.toNat<=cap/\(∀ j,j<l.toNat->qb w' q (j*sz) zv.cells.toList)/\∀ i,i<cap*sz->qq w' q i))->vc P (sq rest) Q a' w') :
  vc P (sq (rg [qd t (.tmp y) TS,oSlice (t+1) TS (.tmp t) none (some (i64 0)) none,qc y (.tmp (t+1)) TS] ::
   sq [rg [qd (t+2) (.tmp z) E.tI32,zT (t+3) .gtr E.tI32 (.tmp (t+2)) (i32 0) E.tI32 E.tO],
   .cond (.tmp (t+3)) (rg [qd (t+4) (.tmp y) TS,qd (t+5) (.tmp z) E.tI32,xI (t+6) .append #[.tmp (t+4),.tmp (t+5)] #[TS,E.tI32] TS,qc y (.tmp (t+6)) TS]) .skip]::rest)) Q a w:=by
 by_cases hyz:y=z
 ·subst hyz;rw[hy] at hz;cases hz
 refine vX (rM ?_)
 refine r_slice0 (ad:=base) (len:=n0) (cap:=c0) (k:=.i64) (rB hB) (by simp (disch:=(try simp only[sP]);omega) only[eV,hy]) rfl ?_
 refine rA (dn (vS (vX (rM ?_))))
 refine je (k:=.i32) (m:=l) (n:=0) (by simp (disch:=(try simp only[sP]);omega) only[eV,hz]) rfl ?_
 refine dn ?_
 generalize ha1:Act.put (Act.put (Act.put (Act.put (Act.put a _ _) _ _) _ _) _ _) _ _=a1
 have hfr:Fr K a a1:=by
  subst ha1
  exact (((((Fr.refl K a).put _ (ht _ (by omega))).put _ (ht _ (by omega))).put _ hky).put _ (ht _ (by omega))).put _ (ht _ (by omega))
 have hy1:a1.eval (.tmp y)=.slice base 0 c0:=by subst ha1;simp (disch:=(try simp only[sP]);omega) only[eV]
 have hz1:a1.eval (.tmp z)=.int .i32 l:=by subst ha1;simp (disch:=(try simp only[sP]);omega) only[eV,hz]
 have hc1:a1.eval (.tmp (t+3))=.bool (decide (l>0)):=by subst ha1;simp (disch:=(try simp only[sP]);omega) only[eV]
 have hs1:=hfr.size
 clear ha1
 refine vS (vC hc1 ?_ ?_)
 ·intro h
  have hl0:0<l:=by simpa using h
  obtain ⟨n,rfl⟩:∃ n:Nat,l=(n:Int):=⟨l.toNat,by omega⟩
  refine vR (by simp) ?_
  refine rM (rM ?_)
  refine r_appendMake (base:=base) (n:=n) (c:=c0) (k:=.i32) hB H.i32 hzt (by simp (disch:=(try simp only[sP]);omega) only[eV,hy1]) (by simp (disch:=(try simp only[sP]);omega) only[eV,hz1]) (by omega) (by omega) ho ?_
  intro q cap w' h1 h2 h3 h4 h5 h6
  refine rA ?_
  refine dn (vN (k _ w' ?_ h1 (.inr ⟨hl0,q,cap,?_,h2,h3,?_,?_,h6⟩)))
  ·exact (((hfr.put _ (ht _ (by omega))).put _ (ht _ (by omega))).put _ (ht _ (by omega))).put _ hky
  ·rw[Int.toNat_natCast]
   simp (disch:=(try simp only[sP]);omega) only[eV]
  ·rw[Int.toNat_natCast];exact h4
  ·rw[Int.toNat_natCast];exact h5
 ·intro h
  have hl0:l<=0:=by simp at h;omega
  exact vK (vN (k a1 w hfr (Eff.refl _ _) (.inl ⟨hl0,hy1,rfl⟩)))
end
end Go.Km
namespace Go.Km
open Go Go.RowKit
attribute [local irreducible] vc rO_ qz qI qF
theorem rdCn_le {fx:Bool} {st:RSt} (h:(xl fx st).2.2=false):(xl fx st).1<=((xl fx st).2.1.length:Int):=by
 unfold xl at h ⊢
 cases fx<;>simp only[Bool.false_eq_true,if_false,if_true,rdC4,rdCc] at h ⊢<;>(unfold z8 at h ⊢;split at h<;>first | (cases h;done) | (rename_i hh;rw[if_neg hh];omega))
theorem jO (f:RSt->D × RSt):∀ (n:Nat) (st:RSt),qX f (n+1) st=((qX f n st).1++[(f (qX f n st).2).1],(f (qX f n st).2).2)
 | 0,st=>rfl
 | n+1,st=>by
  rw[qX,jO f n (f st).2]
  simp only[qX,List.cons_append]
theorem rdMany_bad {f:RSt->D × RSt} (hf:∀ st,(f st).2.2=false->st.2=false) (n:Nat) (st:RSt):∀ k,(qX f n st).2.2=true->(qX f (n+k) st).2.2=true
 | 0,h=>h
 | k+1,h=>by
  have ih:=rdMany_bad hf n st k h
  rw[← Nat.add_assoc,jO]
  cases hh:(f (qX f (n+k) st).2).2.2 with
  | true=>rfl
  | false=>rw[hf _ hh] at ih;cases ih
def ListV (null:Option Nat) (ver sz:Nat) (zc:List Value) (l:Int) (b0:Option Addr) (c0:Nat) (w w':World) (v:Value):Prop :=
 (l<=0/\∃ base cap,v=.slice base 0 cap/\(if j4 null ver l=true then cap=0/\∃ q,base=some ⟨q,0,none⟩/\w.heap.size<=q/\q<w'.heap.size else base=b0/\cap=c0)) ∨
 (0<l/\∃ q cap,v=.slice (some ⟨q,0,none⟩) l.toNat cap/\(w.heap.size<=q\/SlM b0 c0 q)/\q<w'.heap.size/\l.toNat<=cap/\(∀ j,j<l.toNat->qb w' q (j*sz) zc)/\∀ i,i<cap*sz->qq w' q i)
def SlO (w:World) (rb sb ve sz:Nat) (zc:List Value) (b0:Option Addr) (c0:Nat):Prop :=
 c0≠0->(∀ v ∈ zc,v.oneCell'=true)/\∃ q,b0=some ⟨q,0,none⟩/\q≠rb/\q≠sb/\q≠ve/\∀ i,i<c0*sz->qq w q i
abbrev GM (rb:Nat) (b0:Option Addr) (c0:Nat):Nat->Nat->Prop:=fun k i=>RM rb k i\/SlM b0 c0 k
def rNull (E:Env) (x:Cx) (TS:TypeId) (null:Option Nat) (n t:Nat):List Code :=
 match null with
 | none=>[]
 | some N=>[sq [rg [qd t (.tmp x.vs) E.tI16,zT (t+1) .lss E.tI16 (.tmp t) (i16 N) E.tI16 E.tO,qd (t+2) (.tmp (t+1)) E.tO,
    ⟨some (t+3),.move (.tmp (n+2)),E.tI32,"",#[],some (2,false)⟩,
    ⟨some (t+4),.binOp .eql E.tI32 (.tmp (t+3)) (i32 0) E.tI32,E.tO,"",#[],some (2,false)⟩,
    (oQ (t+5) (.pick (.tmp (t+2)) (.const (.bool true)) (.tmp (t+4))) E.tO)],
    .cond (.tmp (t+5)) (rg [zg (t+6) TS 0 #[],qc (n+1) (.tmp (t+6)) TS]) .skip]]
section
variable {P : Program} {E : Env} {T : List (Nat × List UInt8) → Prop}
theorem m_listTail (H:EnvR P E T) {TS te:TypeId} {sz:Nat} {null:Option Nat} {x:Cx} {ver:Nat} {fx:Bool} {L n t t0 rb sb:Nat} {ev:Value} {a0 a:Act} {w0 w:World} {st:RSt} {Q:Exit->Act->World->Prop} {rest:List Code} {zv:Value} {l:Int} {b0:Option Addr} {n0 c0:Nat}
  (hB:xd P TS te sz=true) (hzt:qH P te=some zv) (hs:RSl x L n t0 fx) (hn:n+3<=L) (h0t:t0<=t) (ht:t+(if null.isSome then 7 else 0)+3+2+5<=a.tmps.size) (hst:RSta E x ver fx rb sb ev a w st)
  (hf0:Fr (KR L n t0) a0 a) (hE0:Eff (RM rb) w0 w) (hy:a.eval (.tmp (n+1))=.slice b0 n0 c0) (ho:SlO w rb sb E.vErr sz zv.cells.toList b0 c0) (hz:a.eval (.tmp (n+2))=.int .i32 l) (hl:st.2=false->l<=big)
  (kn:∀ a' w' v,Fr (KR L n t0) a0 a'->RSta E x ver fx rb sb ev a' w' st->st.2=false->a'.eval (.tmp (n+1))=v->a'.eval (.tmp (n+2))=.int .i32 l->Eff (GM rb b0 c0) w0 w'->ListV null ver sz zv.cells.toList l b0 c0 w0 w' v->vc P (sq rest) Q a' w')
  (kr:∀ a' w',a'.defers=a0.defers->a'.tmps.size=a0.tmps.size->a'.eval (.tmp 6)=ev->Eff (RM rb) w0 w'->st.2=true->Q .ret a' w') :
  vc P (sq (rNull E x TS null n t ++
   (sq [rg [xf (some (t+(if null.isSome then 7 else 0))) E.rOk #[.tmp x.rd] #[E.tRd] E.tO,oUn (t+(if null.isSome then 7 else 0)+1) .not E.tO (.tmp (t+(if null.isSome then 7 else 0))) E.tO],
    .cond (.tmp (t+(if null.isSome then 7 else 0)+1)) (sq [qU E x E.rComplete E.tErr 6 (t+(if null.isSome then 7 else 0)+2),.ret]) .skip] ::
    rg [qd (t+(if null.isSome then 7 else 0)+3) (.tmp (n+1)) TS,oSlice (t+(if null.isSome then 7 else 0)+4) TS (.tmp (t+(if null.isSome then 7 else 0)+3)) none (some (i64 0)) none,qc (n+1) (.tmp (t+(if null.isSome then 7 else 0)+4)) TS] ::
    sq [rg [qd (t+(if null.isSome then 7 else 0)+5) (.tmp (n+2)) E.tI32,zT (t+(if null.isSome then 7 else 0)+6) .gtr E.tI32 (.tmp (t+(if null.isSome then 7 else 0)+5)) (i32 0) E.tI32 E.tO],
    .cond (.tmp (t+(if null.isSome then 7 else 0)+6)) (rg [qd (t+(if null.isSome then 7 else 0)+7) (.tmp (n+1)) TS,qd (t+(if null.isSome then 7 else 0)+8) (.tmp (n+2)) E.tI32,xI (t+(if null.isSome then 7 else 0)+9) .append #[.tmp (t+(if null.isSome then 7 else 0)+7),.tmp (t+(if null.isSome then 7 else 0)+8)] #[TS,E.tI32] TS,qc (n+1) (.tmp (t+(if null.isSome then 7 else 0)+9)) TS]) .skip]::rest))) Q a w:=by
 have hnL:=hs.nL;have hLt:=hs.Lt;have h7:=hs.seven;have hrd:=hs.rd;have hvs:=hs.vs
 have hkt:∀ d,t0<=d->¬ KR L n t0 d:=hs.kt
 have hky:¬ KR L n t0 (n+1):=hs.kn _ (by omega) (by omega)
 have e0:=hE0.size
 -- behind the null part
 have fin:∀ (t2:Nat) (a1:Act) (w1:World) (base:Option Addr) (n1 c1:Nat),t<=t2->t2+3+2+5<=a.tmps.size->Fr (fun k=>KR L n t0 k\/k=n+2) a a1->Below w.heap.size w w1->a1.eval (.tmp (n+1))=.slice base n1 c1 →
   (if j4 null ver l=true then c1=0/\∃ q,base=some ⟨q,0,none⟩/\w.heap.size<=q/\q<w1.heap.size else base=b0/\c1=c0) →
   vc P (sq (sq [rg [xf (some t2) E.rOk #[.tmp x.rd] #[E.tRd] E.tO,oUn (t2+1) .not E.tO (.tmp t2) E.tO],
    .cond (.tmp (t2+1)) (sq [qU E x E.rComplete E.tErr 6 (t2+2),.ret]) .skip] ::
    rg [qd (t2+3) (.tmp (n+1)) TS,oSlice (t2+4) TS (.tmp (t2+3)) none (some (i64 0)) none,qc (n+1) (.tmp (t2+4)) TS] ::
    sq [rg [qd (t2+5) (.tmp (n+2)) E.tI32,zT (t2+6) .gtr E.tI32 (.tmp (t2+5)) (i32 0) E.tI32 E.tO],
    .cond (.tmp (t2+6)) (rg [qd (t2+7) (.tmp (n+1)) TS,qd (t2+8) (.tmp (n+2)) E.tI32,xI (t2+9) .append #[.tmp (t2+7),.tmp (t2+8)] #[TS,E.tI32] TS,qc (n+1) (.tmp (t2+9)) TS]) .skip]::rest)) Q a1 w1:=by
  intro t2 a1 w1 base n1 c1 htt hsz hf hb hy1 hbase
  have hfk:=hf.mono (fun k h=>Or.inl h:∀ k,KR L n t0 k->_)
  have hz1:a1.eval (.tmp (n+2))=.int .i32 l:=by rw[hf.slot _ (.inr rfl)];exact hz
  have hst1:RSta E x ver fx rb sb ev a1 w1 st:=(hst.step hs hfk (hst.rd.below hb hst.rd.rb_lt hst.rd.lt) (Eff.of_below hb))
  have hs1:=hf.size
  have hE1:Eff (RM rb) w0 w1:=hE0.trans (Eff.of_below hb)
  refine vS (m_listOk (K:=fun k=>KR L n t0 k\/k=n+1\/k=n+2) H hst1.rd hst1.err hst1.p7 (by rintro d hd (h | h | h);exact hkt d (by omega) h;omega;omega) (by omega) (by omega) (by rw[hs1];omega) ?_ ?_)
  ·intro hb0 a2 hf2
   have hs2:=hf2.size
   have hsl:∀ k,SlM base c1 k->SlM b0 c0 k:=by
    rintro k ⟨h,hh⟩
    split at hbase
    ·exact absurd hbase.1 h
    ·obtain ⟨rfl,rfl⟩:=hbase
     exact ⟨h,hh⟩
   have ho1:SlO w1 rb sb E.vErr sz zv.cells.toList base c1:=by
    intro h
    split at hbase
    ·exact absurd hbase.1 h
    ·obtain ⟨rfl,rfl⟩:=hbase
     obtain ⟨z1,q,z2,z3,z4,z5,z6⟩:=ho h
     exact ⟨z1,q,z2,z3,z4,z5,fun i hi=>(z6 i hi).eff (M:=RM rb) (Eff.of_below hb)⟩
   have hq:∀ k,SlM base c1 k->k≠rb/\k≠sb/\k≠E.vErr:=by
    rintro k ⟨h,hh⟩
    obtain ⟨_,q,z2,z3,z4,z5,_⟩:=ho1 h
    rw[hh] at z2
    cases z2
    exact ⟨z3,z4,z5⟩
   refine m_listGrow (K:=fun k=>KR L n t0 k\/k=n+2) (t:=t2+3) (base:=base) (n0:=n1) (c0:=c1) (l:=l) H hB hzt (by rw[hf2.slot _ (.inr (.inl rfl))];exact hy1) (by rw[hf2.slot _ (.inr (.inr rfl))];exact hz1) (hl hb0) (fun h=>by obtain ⟨z1,q,z2,_,_,_,z6⟩:=ho1 h;exact ⟨z1,q,z2,z6⟩)
    (by rintro (h | h);exact hky h;omega) (by rintro d hd (h | h);exact hkt d (by omega) h;omega) (by omega) (by omega) (by rw[hs2,hs1];omega) ?_
   intro a3 w3 hf3 hE3 hcase
   have hfk3:Fr (KR L n t0) a a3:=(hfk.trans (hf2.mono (fun k h=>.inl h))).trans (hf3.mono (fun k h=>.inl h))
   have hst3:RSta E x ver fx rb sb ev a3 w3 st:=hst1.keep hs ((hf2.mono (fun k h=>.inl h)).trans (hf3.mono (fun k h=>.inl h))) hE3 (fun i h=>(hq _ h).1 rfl) (fun i h=>(hq _ h).2.1 rfl) (fun i h=>(hq _ h).2.2 rfl)
   refine kn a3 w3 _ (hf0.trans hfk3) hst3 hb0 rfl (by rw[hf3.slot _ (.inr rfl),hf2.slot _ (.inr (.inr rfl))];exact hz1) ((hE1.mono (fun k i _ h=>.inl h)).trans (hE3.mono (fun k i _ h=>.inr (hsl k h)))) ?_
   rcases hcase with ⟨hl0,hy3,rfl⟩ | ⟨hl0,q,cap,hy3,h3,h4,h5,h6,h7⟩
   ·refine .inl ⟨hl0,base,c1,hy3,?_⟩
    split at hbase
    ·rename_i hh
     rw[if_pos hh]
     obtain ⟨h0,q,h1,h2,h3⟩:=hbase
     exact ⟨h0,q,h1,by omega,h3⟩
    ·rename_i hh
     rw[if_neg hh]
     exact hbase
   ·have:=hE1.size
    exact .inr ⟨hl0,q,cap,hy3,h3.imp (fun h=>by omega) (hsl q),h4,h5,h6,h7⟩
  ·intro hb1 a2 h1 h2 h3
   exact kr a2 w1 (by rw[h1,hf.defers,hf0.defers]) (by rw[h2,hf.size,hf0.size]) h3 hE1 hb1
 cases null with
 | none =>
  simp only[rNull,Option.isSome_none,Bool.false_eq_true,if_false,Nat.add_zero,List.nil_append] at ht ⊢
  refine fin t a w b0 n0 c0 (Nat.le_refl _) ht (Fr.refl _ _) (Below.refl _ _) hy ?_
  rw[if_neg (by simp[j4])]
  exact ⟨rfl,rfl⟩
 | some N =>
  simp only[rNull,Option.isSome_some,if_true,List.cons_append,List.nil_append] at ht ⊢
  refine vS (m_listNull (K:=fun k=>KR L n t0 k\/k=n+2) (ver:=ver) hB hy hz hst.ver (by rintro (h | h);exact hky h;omega) (by rintro d hd (h | h);exact hkt d (by omega) h;omega) (by omega) (by omega) (by omega) (by omega) ?_)
  intro a1 w1 v hf hb hy1 hbase
  split at hbase
  ·rename_i hh
   obtain ⟨q,rfl,h2,h3⟩:=hbase
   refine fin (t+7) a1 w1 (some ⟨q,0,none⟩) 0 0 (by omega) ht hf hb hy1 ?_
   rw[if_pos (by simpa [j4] using hh)]
   exact ⟨rfl,q,rfl,h2,h3⟩
  ·rename_i hh
   subst hbase
   refine fin (t+7) a1 w1 b0 n0 c0 (by omega) ht hf hb hy1 ?_
   rw[if_neg (by simpa [j4] using hh)]
   exact ⟨rfl,rfl⟩
end
end Go.Km
namespace Go.Km
open Go Go.RowKit
attribute [local irreducible] vc rO_ qz qI qF
def rTail (E:Env) (x:Cx) (TS:TypeId) (null:Option Nat) (n t:Nat):List Code :=
 rNull E x TS null n t ++
   [sq [rg [xf (some (t+(if null.isSome then 7 else 0))) E.rOk #[.tmp x.rd] #[E.tRd] E.tO,oUn (t+(if null.isSome then 7 else 0)+1) .not E.tO (.tmp (t+(if null.isSome then 7 else 0))) E.tO],
    .cond (.tmp (t+(if null.isSome then 7 else 0)+1)) (sq [qU E x E.rComplete E.tErr 6 (t+(if null.isSome then 7 else 0)+2),.ret]) .skip],
    rg [qd (t+(if null.isSome then 7 else 0)+3) (.tmp (n+1)) TS,oSlice (t+(if null.isSome then 7 else 0)+4) TS (.tmp (t+(if null.isSome then 7 else 0)+3)) none (some (i64 0)) none,qc (n+1) (.tmp (t+(if null.isSome then 7 else 0)+4)) TS],
    sq [rg [qd (t+(if null.isSome then 7 else 0)+5) (.tmp (n+2)) E.tI32,zT (t+(if null.isSome then 7 else 0)+6) .gtr E.tI32 (.tmp (t+(if null.isSome then 7 else 0)+5)) (i32 0) E.tI32 E.tO],
    .cond (.tmp (t+(if null.isSome then 7 else 0)+6)) (rg [qd (t+(if null.isSome then 7 else 0)+7) (.tmp (n+1)) TS,qd (t+(if null.isSome then 7 else 0)+8) (.tmp (n+2)) E.tI32,xI (t+(if null.isSome then 7 else 0)+9) .append #[.tmp (t+(if null.isSome then 7 else 0)+7),.tmp (t+(if null.isSome then 7 else 0)+8)] #[TS,E.tI32] TS,qc (n+1) (.tmp (t+(if null.isSome then 7 else 0)+9)) TS]) .skip]]
theorem rListHead_eq (E:Env) (x:Cx) (TP TU TS:TypeId) (null:Option Nat) (n s f t:Nat):vB E x TP TU TS null n s f t =
  [yC TP TU TS n s f t,rg [qd (t+4) (.tmp n) TS,qc (n+1) (.tmp (t+4)) TS],rg [qc (n+2) (i32 0) E.tI32],
   (match x.fl with
   | none=>qU E x E.rLen E.tI32 (n+2) (t+5)
   | some fl=>rIf E (t+5) fl (qU E x E.rCLen E.tI32 (n+2) (t+6)) (qU E x E.rLen E.tI32 (n+2) (t+7)))]++rTail E x TS null n (t+5+(match x.fl with | none=>1 | some _=>3)):=by
 cases null<;>rfl
section
variable {P : Program} {E : Env} {T : List (Nat × List UInt8) → Prop}
theorem m_listHead (H:EnvR P E T) {TP TU TS te:TypeId} {sz:Nat} {null:Option Nat} {x:Cx} {ver:Nat} {fx:Bool} {L s f n t rb sb pb po off:Nat} {ev:Value} {a:Act} {w:World} {st:RSt} {Q:Exit->Act->World->Prop} {rest:List Code} {zv:Value} {b0:Option Addr} {n0 c0:Nat}
  (hlen:x.ok E.rCLen E.rLen=true) (hTS:qQ P TS=true) (hB:xd P TS te sz=true) (hzt:qH P te=some zv) (hs:RSl x L n t fx) (hn:n+3<=L)
  (ht:t+5+(match x.fl with | none=>1 | some _=>3)+(if null.isSome then 7 else 0)+3+2+5<=a.tmps.size) (hst:RSta E x ver fx rb sb ev a w st)
  (hp:a.eval (.tmp s)=.pointer (some ⟨pb,po,none⟩)) (hsn:s<n) (hfo:ql P TU f=some off) (hc:w.cell? ⟨pb,po+off,none⟩=some (.slice b0 n0 c0)) (ho:SlO w rb sb E.vErr sz zv.cells.toList b0 c0)
  (kn:∀ a' w' v,Fr (KR L n t) a a'->RSta E x ver fx rb sb ev a' w' (xl fx st).2->(xl fx st).2.2=false->a'.eval (.tmp (n+1))=v->a'.eval (.tmp (n+2))=.int .i32 (xl fx st).1->Eff (GM rb b0 c0) w w'->ListV null ver sz zv.cells.toList (xl fx st).1 b0 c0 w w' v->vc P (sq rest) Q a' w')
  (kr:∀ a' w',a'.defers=a.defers->a'.tmps.size=a.tmps.size->a'.eval (.tmp 6)=ev->Eff (RM rb) w w'->(xl fx st).2.2=true->Q .ret a' w') :
  vc P (sq (vB E x TP TU TS null n s f t++rest)) Q a w:=by
 have hnL:=hs.nL;have hLt:=hs.Lt;have h7:=hs.seven;have hrd:=hs.rd
 have hF:=Cx.ok_fx hlen hs.no
 have hkt:=hs.kt
 rw[rListHead_eq]
 simp only[List.append_assoc,List.cons_append,List.nil_append]
 refine vS (m_load (K:=KR L n t) hp hfo hTS hc (hs.kn n (Nat.le_refl _) (by omega)) hkt (by omega) (by omega) ?_)
 intro a1 hf1 hv1
 have hs1:=hf1.size
 refine vX (rM (rA (dn (vX (rA (dn ?_))))))
 generalize ha2:Act.put (Act.put (Act.put a1 _ _) _ _) _ _=a2
 have hf2:Fr (KR L n t) a a2:=by
  subst ha2
  exact ((hf1.put _ (hkt _ (by omega))).put _ (hs.kn (n+1) (by omega) (by omega))).put _ (hs.kn (n+2) (by omega) (by omega))
 have hy2:a2.eval (.tmp (n+1))=.slice b0 n0 c0:=by subst ha2;simp (disch:=(try simp only[sP]);omega) only[eV,hv1]
 have hs2:=hf2.size
 clear ha2
 have hst2:=hst.fr hs hf2
 have hs':RSl x L (n+2) (t+5) fx:=hs.up (by omega) (by omega) (by omega)
 have hgo:=fun (t1:Nat) (r1:List Code) (h1:t+5<=t1) (hk:∀ a3 w3,Fr (KR L (n+2) (t+5)) a2 a3->a3.eval (.tmp (n+2))=.int .i32 (xl fx st).1->RdS w3 rb sb (xl fx st).2->Eff (RM rb) w w3->vc P (sq r1) Q a3 w3) =>
  m_way1 (P:=P) (Q:=Exit.then (vc P (sq r1) Q) Q) (T0:=E.tI32) hs' (by omega) hst2 (by rw[hs2];cases hx:x.fl<;>simp only[hx] at ht ⊢<;>omega) (H.len fx hF rb sb st w hst2.rd) (fun a3 v w3 hf he hS=>hk a3 w3 hf (by rw[he,hS.1]) hS.2.1 hS.2.2)
 have tail:∀ (t1:Nat) (a3:Act) (w3:World),t+5<=t1->t1+(if null.isSome then 7 else 0)+3+2+5<=a.tmps.size->Fr (KR L (n+2) (t+5)) a2 a3->a3.eval (.tmp (n+2))=.int .i32 (xl fx st).1->RdS w3 rb sb (xl fx st).2->Eff (RM rb) w w3->vc P (sq (rTail E x TS null n t1++rest)) Q a3 w3:=by
  intro t1 a3 w3 h1 hsz hf he hr hE
  unfold rTail
  simp only[List.append_assoc,List.cons_append,List.nil_append]
  exact m_listTail H (Q:=Q) (rest:=rest) (null:=null) (t:=t1) hB hzt hs hn (by omega) (by rw[hf.size,hs2];exact hsz) (hst2.step hs' hf hr hE) (hf2.trans (hf.mono (KR.mono (by omega) (by omega)))) hE (by rw[hf.slot _ (.inl (by omega))];exact hy2) (fun h=>by obtain ⟨z1,q,z2,z3,z4,z5,z6⟩:=ho h;exact ⟨z1,q,z2,z3,z4,z5,fun i hi=>(z6 i hi).eff hE⟩) he
    (fun h=>by have h1:=rdCn_le h;have h2:=hr.len;omega) kn kr
 cases hx:x.fl with
 | none =>
  simp only[hx] at hgo ht ⊢
  exact vS (hgo (t+5+1) _ (by omega) (fun a3 w3 hf he hr hE=>tail (t+5+1) a3 w3 (by omega) ht hf he hr hE))
 | some fl =>
  simp only[hx] at hgo ht ⊢
  exact vS (hgo (t+5+3) _ (by omega) (fun a3 w3 hf he hr hE=>tail (t+5+3) a3 w3 (by omega) ht hf he hr hE))
theorem m_rloop {x:Cx} {ver:Nat} {fx:Bool} {L n t b len rb sb:Nat} {ev:Value} {a:Act} {w:World} {Q:Exit->Act->World->Prop} {body:Code} {l:Int} {S:Nat->RSt} {J:Nat->World->Prop} {R:World->Prop}
  (hs:RSl x L n t fx) (hn:n+4<=L) (ht:t+5<=a.tmps.size) (hz:a.eval (.tmp (n+2))=.int .i32 l) (hlen:len=l.toNat) (hl:l<=big) (hst:RSta E x ver fx rb sb ev a w (S 0)) (h0:J 0 w)
  (step:∀ i a1 w1,i<len->Fr (KR L (n+3) t) a a1->RSta E x ver fx rb sb ev a1 w1 (S i)->a1.eval (.tmp (n+3))=.int .i32 (i:Int)->J i w1->∀ Q1:Exit->Act->World->Prop,
   (∀ a2 w2,Fr (KR L (n+4) (t+5)) a1 a2->RSta E x ver fx rb sb ev a2 w2 (S (i+1))->J (i+1) w2->Q1 .normal a2 w2) →
   (∀ a2 w2,a2.defers=a1.defers->a2.tmps.size=a1.tmps.size->a2.eval (.tmp 6)=ev->R w2->Q1 .ret a2 w2)->vc P body Q1 a1 w1)
  (kn:∀ a' w',Fr (KR L (n+3) t) a a'->RSta E x ver fx rb sb ev a' w' (S len)->J len w'->Q .normal a' w')
  (kr:∀ a' w',a'.defers=a.defers->a'.tmps.size=a.tmps.size->a'.eval (.tmp 6)=ev->R w'->Q .ret a' w'):vc P (rLoop E n t b body) Q a w:=by
 have hnL:=hs.nL;have hLt:=hs.Lt;have h7:=hs.seven;have hrd:=hs.rd
 have hs3:RSl x L (n+3) t fx:=hs.up (by omega) (by omega) (Nat.le_refl _)
 have hkt:=hs3.kt
 have hkn:=hs3.kn (n+3) (Nat.le_refl _) (by omega)
 have hbig:big<=2147483000:=Nat.le_refl _
 unfold rLoop
 refine vX (rA (dn ?_))
 refine vS (qh ?_)
 refine zU (fun a' w'=>∃ i,i<=len/\Fr (KR L (n+3) t) a a'/\RSta E x ver fx rb sb ev a' w' (S i)/\a'.eval (.tmp (n+3))=.int .i32 (i:Int)/\J i w')
  (fun a' _=>len-(intOf (a'.eval (.tmp (n+3)))).toNat) ?_ ?_
 ·have hf:Fr (KR L (n+3) t) a (a.put (some (n+3)) (a.eval (i32 0))):=(Fr.refl _ a).put _ hkn
  refine ⟨0,Nat.zero_le _,hf,hst.fr hs3 hf,?_,h0⟩
  rw[qB _ _ _ (by omega)]
  rfl
 rintro a1 w1 ⟨i,hi,hf,hst1,h3,hJ⟩
 have hsz:=hf.size
 refine vS (vX (rM (rM ?_)))
 refine qW (k:=.i32) (m:=i) (n:=l) (by simp (disch:=(try simp only[sP]);omega) only[eV,h3]) (by rw[← hf.slot (n+2) (.inl (by omega))] at hz;simp (disch:=(try simp only[sP]);omega) only[eV,hz]) ?_
 refine dn ?_
 generalize ha2:Act.put (Act.put (Act.put a1 _ _) _ _) _ _=a2
 have hf2:Fr (KR L (n+4) t) a1 a2:=by
  subst ha2
  have hs4:RSl x L (n+4) t fx:=hs.up (by omega) (by omega) (Nat.le_refl _)
  exact (((Fr.refl _ a1).put _ (hs4.kt _ (by omega))).put _ (hs4.kt _ (by omega))).put _ (hs4.kt _ (by omega))
 have hc2:a2.eval (.tmp (t+2))=.bool (decide ((i:Int)<l)):=by subst ha2;simp (disch:=(try simp only[sP]);omega) only[eV]
 have h32:a2.eval (.tmp (n+3))=.int .i32 (i:Int):=by rw[hf2.slot _ (.inl (by omega))];exact h3
 have hf2':Fr (KR L (n+3) t) a a2:=hf.trans (hf2.mono (KR.mono (by omega) (Nat.le_refl _)))
 have hst2:RSta E x ver fx rb sb ev a2 w1 (S i):=hst1.fr hs3 (hf2.mono (KR.mono (by omega) (Nat.le_refl _)))
 have hsz2:=hf2'.size
 clear ha2
 refine vS (vC hc2 ?_ ?_)
 ·intro hlt
  have hlt':i<len:=by
   have:(i:Int)<l:=by simpa using hlt
   omega
  refine vK (vN ?_)
  refine vS (qh ?_)
  refine step i a2 w1 hlt' hf2' hst2 h32 hJ _ ?_ ?_
  ·intro a3 w3 hf3 hst3 hJ3
   have hf3':Fr (KR L (n+3) t) a a3:=hf2'.trans (hf3.mono (KR.mono (by omega) (by omega)))
   have hsz3:=hf3'.size
   have h33:a3.eval (.tmp (n+3))=.int .i32 (i:Int):=by rw[hf3.slot _ (.inl (by omega))];exact h32
   show vc P (sq [rg _]) _ a3 w3
   refine vX (rM ?_)
   refine xP (k:=.i32) (m:=i) (n:=1) (by simp (disch:=(try simp only[sP]);omega) only[eV,h33]) rfl ?_
   refine rA (dn (vN ?_))
   have hw:IntKind.i32.wrap ((i:Int)+1)=((i+1:Nat):Int):=by rw[IntWalk.i32_in _ ⟨by omega,by omega⟩];omega
   generalize ha4:Act.put (Act.put (Act.put a3 _ _) _ _) _ _=a4
   have e4:a4.eval (.tmp (n+3))=.int .i32 ((i+1:Nat):Int):=by
    subst ha4
    rw[qB _ _ _ (by simp only[zP];omega),qB _ _ _ (by simp only[zP];omega),hw]
   have hf4:Fr (KR L (n+3) t) a3 a4:=by
    subst ha4
    exact (((Fr.refl _ a3).put _ (hkt _ (by omega))).put _ (hkt _ (by omega))).put _ hkn
   refine ⟨⟨i+1,hlt',hf3'.trans hf4,hst3.fr hs3 hf4,e4,hJ3⟩,?_⟩
   show len-(intOf _).toNat<len-(intOf _).toNat
   rw[e4,h3]
   simp only[intOf,Int.toNat_natCast]
   omega
  ·intro a3 w3 h4 h5 h6 h7
   exact kr a3 w3 (by rw[h4,hf2'.defers]) (by rw[h5,hsz2]) h6 h7
 ·intro hge
  have hi':i=len:=by
   have:¬ ((i:Int)<l):=by simpa using hge
   omega
  subst hi'
  refine xc ?_
  simp only[Exit.then,Exit.inBlock,if_true]
  exact vN (kn a2 w1 hf2' hst2 hJ)
end
end Go.Km
namespace Go.Km
open Go Go.RowKit
attribute [local irreducible] vc rO_ qz qI qF
def rElem (E : Env) (x : Cx) (TS : TypeId) (n t2 b : Nat) (e : Ty) : Code :=
  match e.tp with
  | some TPe => sq ([rg [qd (t2 + 5) (.tmp (n + 1)) TS, qd (t2 + 6) (.tmp (n + 3)) E.tI32, j3 (t2 + 7) TS (.tmp (t2 + 5)) (.tmp (t2 + 6)), qc (n + 4) (.tmp (t2 + 7)) TPe]] ++
          Ty.rc E x 0 0 0 0 (n + 4) (t2 + 8) (b + 2) e)
  | none => sq (Ty.rc E x 0 0 0 0 (n + 4) (t2 + 5) (b + 2) e ++
          [rg [qd (t2 + 5 + e.rt x) (.tmp (n + 1)) TS, qd (t2 + 6 + e.rt x) (.tmp (n + 3)) E.tI32,
            if e.arr then kE (t2 + 7 + e.rt x) (e.T E) (.tmp (n + 4 + e.rslot)) else qd (t2 + 7 + e.rt x) (.tmp (n + 4 + e.rslot)) (e.T E),
            j3 (t2 + 8 + e.rt x) TS (.tmp (t2 + 5 + e.rt x)) (.tmp (t2 + 6 + e.rt x)), za (e.T E) (.tmp (t2 + 8 + e.rt x)) (.tmp (t2 + 7 + e.rt x))]])
theorem rc_list (E:Env) (x:Cx) (TP TU:TypeId) (s f n t b:Nat) (TS:TypeId) (null:Option Nat) (e:Ty) :
  Ty.rc E x TP TU s f n t b (.list TS null e)=vB E x TP TU TS null n s f t ++
   [rLoop E n (t+5+(match x.fl with | none=>1 | some _=>3)+(if null.isSome then 7 else 0)+3+2+5) b (rElem E x TS n (t+5+(match x.fl with | none=>1 | some _=>3)+(if null.isSome then 7 else 0)+3+2+5) b e),
    rg [qd (t+5+(match x.fl with | none=>1 | some _=>3)+(if null.isSome then 7 else 0)+3+2+5+5+e.h+e.rt x) (.tmp (n+1)) TS,qc n (.tmp (t+5+(match x.fl with | none=>1 | some _=>3)+(if null.isSome then 7 else 0)+3+2+5+5+e.h+e.rt x)) TS]]:=by
 rw[Ty.rc]
 rfl
section
variable {P : Program} {E : Env} {T : List (Nat × List UInt8) → Prop}
theorem m_elem {e:Ty} (hlf:e.tp=none->e.RVal P E T) (hfs:∀ TP TU FD fs,e=.struct TP TU FD fs->fs.RVal P E T) {x:Cx} {ver:Nat} {fx:Bool} {L n t b rb sb q Bq cap len i:Nat} {TS te:TypeId} {ev:Value} {a:Act} {w:World} {st:RSt} {Q:Exit->Act->World->Prop}
  (hok:e.okR P E x=true) (hnl:e.isList=false) (htx:e.txR P E) (hB:xd P TS te e.size=true) (hs:RSl x L n t fx) (hn:n+4+(match e.tp with | some _=>2 | none=>1)+e.rn<=L) (ht:t+5+e.h+e.rt x<=a.tmps.size) (hst:RSta E x ver fx rb sb ev a w st)
  (hy:a.eval (.tmp (n+1))=.slice (some ⟨q,0,none⟩) len cap) (hi:a.eval (.tmp (n+3))=.int .i32 (i:Int)) (hil:i<len) (hc:qb w q (i*e.size) e.zc) (hf:∀ j,j<e.size->qq w q (i*e.size+j)) (h1:q≠rb) (h2:q≠sb) (h3:q≠E.vErr) (hrb:rb<Bq) (hqB:q<Bq) (hq:Bq<=w.heap.size)
  (kn:∀ a' w' c d,Fr (KR L (n+4) (t+5)) a a'->RSta E x ver fx rb sb ev a' w' (e.rd fx ver st).2->c.length=e.size->qb w' q (i*e.size) c->e.Rep w' ⟨sb,T⟩ Bq c d->Eff (FM rb q (i*e.size) e.size) w w'->((e.rd fx ver st).2.2=false->d=(e.rd fx ver st).1)->Q .normal a' w')
  (kr:∀ a' w',a'.defers=a.defers->a'.tmps.size=a.tmps.size->a'.eval (.tmp 6)=ev->Eff (FM rb q (i*e.size) e.size) w w'->(e.rd fx ver st).2.2=true->Q .ret a' w') :
  vc P (rElem E x TS n t b e) Q a w:=by
 have hnL:=hs.nL;have hLt:=hs.Lt;have h7:=hs.seven;have hrd:=hs.rd
 cases htp:e.tp with
 | some TPe =>
  cases e with
  | struct TP TU FD fs =>
   simp only[Ty.tp,Option.some.injEq] at htp
   subst htp
   simp only[Ty.tp,Ty.h,Ty.rn,Ty.rt,Ty.size,Ty.zc] at hn ht hc hf hB kn kr
   have hs4:RSl x L (n+4) (t+5) fx:=hs.up (by omega) (by omega) (by omega)
   simp only[rElem,Ty.tp,List.cons_append,List.nil_append]
   refine vX (rM (rM ?_))
   refine qA (b:=q) (o:=0) (len:=len) (cap:=cap) (k:=.i32) (j:=i) (rB hB) (by simp (disch:=(try simp only[sP]);omega) only[eV,hy]) (by simp (disch:=(try simp only[sP]);omega) only[eV,hi]) hil ?_
   refine rA (dn ?_)
   rw[Nat.zero_add]
   generalize ha1:Act.put (Act.put (Act.put (Act.put a _ _) _ _) _ _) _ _=a1
   have hfr:Fr (KR L (n+4) (t+5)) a a1:=by
    subst ha1
    exact ((((Fr.refl _ a).put _ (hs4.kt _ (by omega))).put _ (hs4.kt _ (by omega))).put _ (hs4.kt _ (by omega))).put _ (hs4.kn (n+4) (by omega) (by omega))
   have hp1:a1.eval (.tmp (n+4))=.pointer (some ⟨q,i*fs.size,none⟩):=by
    subst ha1
    simp (disch:=(try simp only[sP]);omega) only[eV]
   have hsz:=hfr.size
   refine m_struct (hfs _ _ _ _ rfl) (ver:=ver) (B:=Bq) hok htx (hs4.up (n':=n+4) (t':=t+8) (by omega) (by omega) (by omega)) (by omega) (by rw[hsz];omega) (hst.fr hs4 hfr) hp1 (Flds.zc_len fs) (Flds.over_zc fs) hc hf h1 h2 h3 hqB hrb hq ?_ ?_
   ·intro a2 w2 cs ds tags b1 b2 b3 b4 b5 b6 b7
    exact kn a2 w2 cs (.obj ds tags) (hfr.trans (b1.mono (KR.mono (Nat.le_refl _) (by omega)))) b2 b3 b4 b5 b6 (fun h=>by obtain ⟨rfl,rfl⟩:=b7 h;rfl)
   ·intro a2 w2 b1 b2 b3 b4 b5
    exact kr a2 w2 (by rw[b1,hfr.defers]) (by rw[b2,hsz]) b3 b4 b5
  | _=>cases htp
 | none =>
  simp only[htp,Ty.h] at hn ht
  have hs4:RSl x L (n+4) (t+5) fx:=hs.up (by omega) (by omega) (by omega)
  simp only[rElem,htp]
  refine zB ?_
  refine hlf htp x ver fx L 0 0 0 0 (n+4) (t+5) (b+2) rb sb ev a w st _ hok htx hs4 (by omega) (by omega) hst (by rw[hnl];intro h;cases h) ?_ ?_
  ·intro a1 w1 cs d hf1 hst1 hv hrep hE hd
   obtain ⟨hcl,hc1⟩:=Ty.Rep.leaf e htp hrep
   have hS:=Ty.okR_okS e hok htp
   have hsz:=hf1.size
   show vc P (sq [rg _]) Q a1 w1
   refine vS (vR (by cases e.arr<;>simp) ?_)
   refine rM (rM ?_)
   have hrs:e.rslot<=2:=by cases e<;>simp[Ty.rslot]
   have hrn:e.rslot<=e.rn:=by cases e<;>simp[Ty.rslot,Ty.rn]
   refine r_leafLoad (cs:=cs) hS hcl ?_ ?_
   ·unfold Ty.Val at hv ⊢
    cases ha:e.arr with
    | true =>
     simp only[ha,if_true] at hv ⊢
     obtain ⟨q1,g1,g2⟩:=hv
     exact ⟨q1,(by simp (disch:=(try simp only[sP]);omega) only[eV,g1]),g2⟩
    | false =>
     simp only[ha,Bool.false_eq_true,if_false] at hv ⊢
     rw[hv]
     simp (disch:=(try simp only[sP]);omega) only[eV]
   refine qA (b:=q) (o:=0) (len:=len) (cap:=cap) (k:=.i32) (j:=i) (rB hB) (by rw[← hf1.slot (n+1) (.inl (by omega))] at hy;simp (disch:=(try simp only[sP]);omega) only[eV,hy]) (by rw[← hf1.slot (n+3) (.inl (by omega))] at hi;simp (disch:=(try simp only[sP]);omega) only[eV,hi]) hil ?_
   rw[Nat.zero_add]
   have hfree:∀ j,j<e.size->qq w1 q (i*e.size+j):=fun j hj=>(hf j hj).eff hE
   refine r_leafStore (b:=q) (o:=i*e.size) (cs:=cs) hS hcl hc1 (by simp (disch:=(try simp only[sP]);omega) only[eV]) (by simp (disch:=(try simp only[sP]);omega) only[eV]) hfree ?_
   refine dn (vN ?_)
   have hE2:=qe q cs w1 (i*e.size)
   rw[hcl] at hE2
   have hE2':Eff (FM rb q (i*e.size) e.size) w1 (setCells w1 q (i*e.size) cs):=hE2.mono (fun k i _ h=>.inr h)
   have hE1':Eff (FM rb q (i*e.size) e.size) w w1:=hE.mono (fun k i _ h=>.inl h)
   generalize ha2:Act.put (Act.put (Act.put (Act.put a1 _ _) _ _) _ _) _ _=a2
   have hf2:Fr (KR L (n+4) (t+5)) a1 a2:=by
    subst ha2
    exact ((((Fr.refl _ a1).put _ (hs4.kt _ (by omega))).put _ (hs4.kt _ (by omega))).put _ (hs4.kt _ (by omega))).put _ (hs4.kt _ (by omega))
   refine kn a2 _ cs d (hf1.trans hf2) (hst1.keep hs4 hf2 hE2 (by rintro j ⟨h,_⟩;exact h1 h.symm) (by rintro j ⟨h,_⟩;exact h2 h.symm) (by rintro j ⟨h,_⟩;exact h3 h.symm)) hcl ?_ ?_ (hE1'.trans hE2') hd
   ·intro j v hv
    exact qg _ _ _ _ (fun j hj=>(hfree j (by omega)).1) j v hv
   ·have hws:=hE.size
    refine Ty.Rep.eff hE2 ?_ e w.heap.size Bq cs d ?_ hq hrep
    ·rintro j ⟨h,_⟩;exact h2 h.symm
    ·rintro k j hk _ ⟨h,_⟩;omega
  ·intro a1 w1 b1 b2 b3 b4 b5
   exact kr a1 w1 b1 b2 b3 (b4.mono (fun k i _ h=>.inl h)) b5
end
end Go.Km
namespace Go.Km
open Go Go.RowKit
attribute [local irreducible] vc rO_ qz qI qF
section
variable {P : Program} {E : Env} {T : List (Nat × List UInt8) → Prop}
theorem mul_lt {i j n:Nat} (h:i<j):i*n+n<=j*n:=by
 have:=Nat.mul_le_mul_right n h
 rwa [Nat.succ_mul] at this
theorem m_listLoop {TS te:TypeId} {e:Ty} (hlf:e.tp=none->e.RVal P E T) (hfs:∀ TP TU FD fs,e=.struct TP TU FD fs->fs.RVal P E T) {x:Cx} {ver:Nat} {fx:Bool} {L n t b rb sb q Bq cap len:Nat} {ev:Value} {a:Act} {w:World} {st:RSt} {l:Int} {Q:Exit->Act->World->Prop}
  (hok:e.okR P E x=true) (hnl:e.isList=false) (htx:e.txR P E) (hB:xd P TS te e.size=true) (hs:RSl x L n t fx) (hn:n+4+(match e.tp with | some _=>2 | none=>1)+e.rn<=L) (ht:t+5+e.h+e.rt x<=a.tmps.size) (hst:RSta E x ver fx rb sb ev a w st)
  (hy:a.eval (.tmp (n+1))=.slice (some ⟨q,0,none⟩) len cap) (hz:a.eval (.tmp (n+2))=.int .i32 l) (hlen:len=l.toNat) (hl:l<=big) (hcz:∀ j,j<len->qb w q (j*e.size) e.zc) (hfz:∀ i,i<len*e.size->qq w q i)
  (h1:q≠rb) (h2:q≠sb) (h3:q≠E.vErr) (hrb:rb<Bq) (hqB:q<Bq) (hq:Bq<=w.heap.size) (hsb:rb≠sb)
  (kn:∀ a' w' ds,Fr (KR L (n+3) t) a a'->RSta E x ver fx rb sb ev a' w' (qX (fun s=>e.rd fx ver s) len st).2->Eff (fun k j=>RM rb k j\/k=q) w w'->ds.length=len →
   (∀ (j:Nat) (d:D),ds[j]? = some d->∃ c:List Value,c.length=e.size/\qb w' q (j*e.size) c/\e.Rep w' ⟨sb,T⟩ Bq c d)->((qX (fun s=>e.rd fx ver s) len st).2.2=false->ds=(qX (fun s=>e.rd fx ver s) len st).1)->Q .normal a' w')
  (kr:∀ a' w',a'.defers=a.defers->a'.tmps.size=a.tmps.size->a'.eval (.tmp 6)=ev->Eff (fun k j=>RM rb k j\/k=q) w w'->(qX (fun s=>e.rd fx ver s) len st).2.2=true->Q .ret a' w') :
  vc P (rLoop E n t b (rElem E x TS n t b e)) Q a w:=by
 have hnL:=hs.nL;have hLt:=hs.Lt;have h7:=hs.seven;have hrd:=hs.rd
 have hn3:n+5<=L:=by
  cases htp:e.tp<;>simp only[htp] at hn<;>omega
 have hmono:∀ s:RSt,(e.rd fx ver s).2.2=false->s.2=false:=fun s=>Ty.rd_mono fx ver e s
 refine m_rloop (len:=len) (S:=fun i=>(qX (fun s=>e.rd fx ver s) i st).2)
   (J:=fun i w'=>Eff (fun k j=>RM rb k j\/k=q) w w'/\(∃ ds:List D,ds.length=i/\(∀ (j:Nat) (d:D),ds[j]? = some d->∃ c:List Value,c.length=e.size/\qb w' q (j*e.size) c/\e.Rep w' ⟨sb,T⟩ Bq c d) ∧
    ((qX (fun s=>e.rd fx ver s) i st).2.2=false->ds=(qX (fun s=>e.rd fx ver s) i st).1))/\(∀ j,i<=j->j<len->qb w' q (j*e.size) e.zc))
   (R:=fun w'=>Eff (fun k j=>RM rb k j\/k=q) w w'/\(qX (fun s=>e.rd fx ver s) len st).2.2=true) hs (by omega) (by omega) hz hlen hl hst ?_ ?_ ?_ ?_
 ·exact ⟨Eff.refl _ _,⟨[],rfl,fun j d h=>by simp at h,fun _=>rfl⟩,fun j _ hj=>hcz j hj⟩
 ·rintro i a2 w2 hi hf2 hst2 h3' ⟨hE2,⟨ds,hdl,hds,hdeq⟩,hrest⟩ Q1 kn1 kr1
  have hw2:=hE2.size
  have hs22:=hf2.size
  have hEw:∀ w3,Eff (FM rb q (i*e.size) e.size) w2 w3->Eff (fun k j=>RM rb k j\/k=q) w w3:=fun w3 h=>hE2.trans (h.mono (fun k j _ h=>h.imp id (fun h=>h.1)))
  refine m_elem hlf hfs (q:=q) (Bq:=Bq) (len:=len) (cap:=cap) (i:=i) hok hnl htx hB hs hn (by omega) hst2 (by rw[hf2.slot _ (.inl (by omega))];exact hy) h3' hi (hrest i (Nat.le_refl _) hi)
   (fun j hj=>(hfz (i*e.size+j) (by have:=mul_lt (n:=e.size) hi;omega)).eff hE2) h1 h2 h3 hrb hqB (by omega) ?_ ?_
  ·intro a3 w3 c d g1 g2 g3 g4 g5 g6 g7
   refine kn1 a3 w3 g1 ?_ ⟨hEw w3 g6,⟨ds++[d],by simp[hdl],?_,?_⟩,?_⟩
   ·simp only[jO]
    exact g2
   ·intro j d' hj
    rcases Nat.lt_or_ge j ds.length with h | h
    ·rw[List.getElem?_append_left h] at hj
     obtain ⟨c',m1,m2,m3⟩:=hds j d' hj
     have hlt:=mul_lt (n:=e.size) (show j<i by omega)
     refine ⟨c',m1,m2.eff g6 ?_,Ty.Rep.eff g6 ?_ e Bq Bq c' d' ?_ (Nat.le_refl _) m3⟩
     ·rintro u hu (⟨h,_⟩ | ⟨_,h,_⟩)
      ·exact h1 h
      ·omega
     ·rintro u (⟨h,_⟩ | ⟨h,_⟩)
      ·exact hsb h.symm
      ·exact h2 h.symm
     ·rintro k u hk _ (⟨h,_⟩ | ⟨h,_⟩)<;>omega
    ·rw[List.getElem?_append_right h] at hj
     have hj0:j-ds.length=0:=by
      rcases Nat.eq_zero_or_pos (j-ds.length) with h | h
      ·exact h
      ·rw[List.getElem?_eq_none (by simp;omega)] at hj;cases hj
     rw[hj0] at hj
     simp only[List.getElem?_cons_zero,Option.some.injEq] at hj
     subst hj
     have:j=i:=by omega
     subst this
     exact ⟨c,g3,g4,g5⟩
   ·intro h
    simp only[jO] at h ⊢
    rw[hdeq (hmono _ h),g7 h]
   ·intro j hj1 hj2
    have hlt:=mul_lt (n:=e.size) (show i<j by omega)
    refine (hrest j (by omega) hj2).eff g6 ?_
    rintro u hu (⟨h,_⟩ | ⟨_,_,h⟩)
    ·exact h1 h
    ·omega
  ·intro a3 w3 g1 g2 g3 g4 g5
   refine kr1 a3 w3 g1 g2 g3 ⟨hEw w3 g4,?_⟩
   have:=rdMany_bad (f:=fun s=>e.rd fx ver s) hmono (i+1) st (len-(i+1)) (by rw[jO];exact g5)
   rwa [show i+1+(len-(i+1))=len by omega] at this
 ·rintro a2 w2 hf2 hst2 ⟨hE2,⟨ds,hdl,hds,hdeq⟩,_⟩
  exact kn a2 w2 ds hf2 hst2 hE2 hdl hds hdeq
 ·rintro a2 w2 g1 g2 g3 ⟨g4,g5⟩
  exact kr a2 w2 g1 g2 g3 g4 g5
theorem rv_list (H:EnvR P E T) {TS:TypeId} {null:Option Nat} {e:Ty} (hlf:e.tp=none->e.np=false->e.RVal P E T) (hfs:∀ TP TU FD fs,e=.struct TP TU FD fs->fs.RVal P E T):(Ty.list TS null e).RVal P E T:=by
 intro x ver fx L TP TU s f n t b rb sb ev a w st Q hok htx hs hn ht hst hl kn kr
 have hnL:=hs.nL;have hLt:=hs.Lt;have h7:=hs.seven;have hrd:=hs.rd
 obtain ⟨pb,po,off,hp,hsn,hfo,hcf⟩:=hl rfl
 simp only[Ty.okR,Bool.and_eq_true,Bool.not_eq_true'] at hok
 obtain ⟨⟨⟨⟨hlen,hTS⟩,hnl⟩,hnp⟩,hoke⟩:=hok
 have hnp:e.np=false:=by simpa using hnp
 simp only[Ty.txR] at htx
 obtain ⟨⟨te,hB,hz⟩,htxe⟩:=htx
 obtain ⟨zv,hzt,hzc⟩:∃ z,qH P te=some z/\z.cells.toList=e.zc:=by
  cases h:qH P te with
  | none=>rw[h] at hz;cases hz
  | some z=>rw[h] at hz;exact ⟨z,rfl,by simpa using hz⟩
 have hn':n+4+(match e.tp with | some _=>2 | none=>1)+e.rn<=L:=by
  simp only[Ty.rn] at hn
  cases htp:e.tp<;>simp only[htp] at hn ⊢<;>omega
 have hn3:n+5<=L:=by
  cases htp:e.tp<;>simp only[htp] at hn'<;>omega
 have ht1:t+5+(match x.fl with | none=>1 | some _=>3)+(if null.isSome then 7 else 0)+3+2+5+5+e.h+e.rt x+1<=a.tmps.size:=by
  simp only[Ty.rt] at ht
  cases hx:x.fl<;>simp only[hx] at ht ⊢<;>omega
 have hkt:=hs.kt
 have hbadr:(xl fx st).2.2=true->((Ty.list TS null e).rd fx ver st).2.2=true:=fun h=>by simp only[Ty.rd,h,if_true]
 rw[rc_list]
 have htt:t<=t+5+(match x.fl with | none=>1 | some _=>3)+(if null.isSome then 7 else 0)+3+2+5:=by omega
 have ht0:t+5+(match x.fl with | none=>1 | some _=>3)+(if null.isSome then 7 else 0)+3+2+5<=a.tmps.size:=by omega
 refine m_listHead H hlen hTS hB hzt hs (by omega) (by cases hx:x.fl<;>simp only[hx] at ht0 ⊢<;>omega) hst hp hsn hfo hcf (fun h=>absurd rfl h) ?_ (fun a' w' h1 h2 h3 h4 h5=>kr a' w' h1 h2 h3 h4 (hbadr h5))
 intro a1 w1 v hf1 hst1 hnb hy hz1 hE1 hL
 have hE1:Eff (RM rb) w w1:=hE1.mono (fun k i _ h=>h.elim id (fun h=>absurd rfl h.1))
 have hs1:=hf1.size
 generalize t+5+(match x.fl with | none=>1 | some _=>3)+(if null.isSome then 7 else 0)+3+2+5=t2 at *
 have hs2:RSl x L n t2 fx:=hs.up (Nat.le_refl _) (by omega) htt
 have hlb:(xl fx st).1<=big:=by
  have g1:=rdCn_le hnb
  have g2:=hst1.rd.len
  omega
 -- the end
 have fin:∀ a2 w2 d,Fr (KR L n t) a a2->RSta E x ver fx rb sb ev a2 w2 ((Ty.list TS null e).rd fx ver st).2->a2.eval (.tmp (n+1))=v->(Ty.list TS null e).Rep w2 ⟨sb,T⟩ w.heap.size [v] d->Eff (RM rb) w w2->(((Ty.list TS null e).rd fx ver st).2.2=false->d=((Ty.list TS null e).rd fx ver st).1) →
   vc P (sq [rg [qd (t2+5+e.h+e.rt x) (.tmp (n+1)) TS,qc n (.tmp (t2+5+e.h+e.rt x)) TS]]) Q a2 w2:=by
  intro a2 w2 d hf hst2 hv hrep hE hd
  have hsz:=hf.size
  refine vX (rM (rA (dn (vN ?_))))
  have hf3:∀ u1 u2,Fr (KR L n t) a2 ((a2.put (some (t2+5+e.h+e.rt x)) u1).put (some n) u2):=fun u1 u2=>((Fr.refl _ a2).put _ (hkt _ (by omega))).put _ (hs.kn n (Nat.le_refl _) (by omega))
  refine kn _ w2 [v] d (hf.trans (hf3 _ _)) (hst2.fr hs (hf3 _ _)) ?_ hrep hE hd
  simp only[Ty.Val,Ty.arr,Ty.rslot,Bool.false_eq_true,if_false,Nat.add_zero]
  rw[← hv]
  simp (disch:=(try simp only[sP]);omega) only[eV]
 rcases hL with ⟨hl0,base,bc,rfl,hbase⟩ | ⟨hl0,q,cap,rfl,hq1,hq2,hlc,hcz,hfz⟩
 ·
  have hrd:(Ty.list TS null e).rd fx ver st=(if j4 null ver (xl fx st).1 then .list (some []) else .list none,(xl fx st).2):=by
   simp only[Ty.rd,hnb,Bool.false_eq_true,if_false]
   rw[if_pos hl0]
  refine vS (m_rloop (len:=0) (S:=fun _=>(xl fx st).2) (J:=fun _ w'=>w'=w1) (R:=fun _=>False) hs2 (by omega) (by omega) hz1 (by omega) hlb hst1 rfl (fun i _ _ hi=>absurd hi (Nat.not_lt_zero i)) ?_ (fun _ _ _ _ _ h=>h.elim))
  rintro a2 w2 hf2 hst2 rfl
  refine fin a2 w2 ((Ty.list TS null e).rd fx ver st).1 (hf1.trans (hf2.mono (KR.mono (by omega) htt))) (by rw[hrd];exact hst2) (by rw[hf2.slot _ (.inl (by omega))];exact hy) ?_ hE1 (fun _=>rfl)
  rw[hrd]
  split at hbase
  ·rename_i hh
   obtain ⟨rfl,q,rfl,g1,g2⟩:=hbase
   simp only[hh,if_true]
   exact ⟨q,0,rfl,g1,g2,Nat.zero_le _,fun i d h=>by simp at h⟩
  ·rename_i hh
   obtain ⟨rfl,rfl⟩:=hbase
   rw[if_neg hh]
   exact .inl rfl
 ·
  have hrd:(Ty.list TS null e).rd fx ver st=(.list (some (qX (fun s=>e.rd fx ver s) (xl fx st).1.toNat (xl fx st).2).1),(qX (fun s=>e.rd fx ver s) (xl fx st).1.toNat (xl fx st).2).2):=by
   simp only[Ty.rd,hnb,Bool.false_eq_true,if_false]
   rw[if_neg (by omega)]
  generalize hlenN:(xl fx st).1.toNat=len at *
  rw[hzc] at hcz
  have hq1:w.heap.size<=q:=hq1.elim id (fun h=>absurd rfl h.1)
  have hrbq:rb<q+1:=by have:=hst.rd.rb_lt;omega
  refine vS (m_listLoop (fun h=>hlf h hnp) hfs (q:=q) (Bq:=q+1) (len:=len) (cap:=cap) hoke hnl htxe hB hs2 hn' (by omega) hst1 hy hz1 hlenN.symm hlb hcz (fun i hi=>hfz i (by have:=Nat.mul_le_mul_right e.size hlc;omega)) (by have:=hst.rd.rb_lt;omega) (by have:=hst.rd.lt;omega) (by have:=qj hst.err;omega) hrbq (by omega) hq2 hst.rd.ne ?_ ?_)
  ·intro a2 w2 ds hf2 hst2 hE2 hdl hds hdeq
   have hw2:=hE2.size
   have hE:Eff (RM rb) w w2:=by
    refine hE1.trans' hE2 ?_
    rintro k j hk (h | h)
    ·exact h
    ·omega
   refine fin a2 w2 (.list (some ds)) (hf1.trans (hf2.mono (KR.mono (by omega) htt))) (by rw[hrd];exact hst2) (by rw[hf2.slot _ (.inl (by omega))];exact hy) ?_ hE ?_
   ·exact ⟨q,cap,by rw[hdl],hq1,by omega,by omega,hds⟩
   ·intro h
    rw[hrd] at h ⊢
    rw[hdeq h]
  ·intro a2 w2 g1 g2 g3 g4 g5
   refine kr a2 w2 (by rw[g1,hf1.defers]) (by rw[g2,hs1]) g3 (hE1.trans' g4 ?_) (by rw[hrd];exact g5)
   rintro k j hk (h | h)
   ·exact h
   ·omega
end
end Go.Km
namespace Go.Km
open Go Go.RowKit Go.ChangeMaps
attribute [local irreducible] vc rO_ qz qI qF
theorem setTag_new (k:Nat) (v:List UInt8):∀ l:List (Nat × List UInt8),(∀ x ∈ l,x.1≠k)->(qx k v l).Perm ((k,v)::l)
 | [],_=>List.Perm.refl _
 | x::l,h=>by
  simp only[qx]
  split
  ·exact List.Perm.refl _
  ·rw[if_neg (fun e=>h x (by simp) e.symm)]
   exact ((setTag_new k v l (fun y hy=>h y (by simp[hy]))).cons x).trans (List.Perm.swap _ _ _)
theorem setTag_old (k:Nat) (v u:List UInt8):∀ l:List (Nat × List UInt8),l.Pairwise (fun x y=>x.1<y.1)->(k,u) ∈ l->∃ rest,l.Perm ((k,u)::rest)/\(qx k v l).Perm ((k,v)::rest)
 | [],_,h=>by simp at h
 | x::l,hs,h=>by
  have h2:=List.pairwise_cons.1 hs
  rcases List.mem_cons.1 h with rfl | h
  ·refine ⟨l,List.Perm.refl _,?_⟩
   simp only[qx]
   rw[if_neg (Nat.lt_irrefl k),if_true]
  ·have hlt:x.1<k:=h2.1 _ h
   obtain ⟨rest,h3,h4⟩:=setTag_old k v u l h2.2 h
   refine ⟨x::rest,(h3.cons x).trans (List.Perm.swap _ _ _),?_⟩
   simp only[qx]
   rw[if_neg (by omega),if_neg (by omega)]
   exact (h4.cons x).trans (List.Perm.swap _ _ _)
theorem kN (k:Nat) (v:List UInt8):∀ l x,x ∈ qx k v l->x=(k,v)\/x ∈ l
 | [],x,h=>by simpa [qx] using h
 | y::l,x,h=>by
  simp only[qx] at h
  split at h
  ·simpa using h
  ·split at h
   ·rcases List.mem_cons.1 h with h | h
    ·exact .inl h
    ·exact .inr (by simp[h])
   ·rcases List.mem_cons.1 h with h | h
    ·exact .inr (by simp[h])
    ·rcases kN k v l x h with h | h
     ·exact .inl h
     ·exact .inr (by simp[h])
theorem setTag_ok {k:Nat} {v:List UInt8} (hk:k<4294967296):∀ l:List (Nat × List UInt8),TagsOk l->TagsOk (qx k v l):=by
 have key:∀ l:List (Nat × List UInt8),l.Pairwise (fun x y=>x.1<y.1)->(qx k v l).Pairwise (fun x y=>x.1<y.1):=by
  intro l
  induction l with
  | nil=>intro _;simp[qx]
  | cons y l ih =>
   intro h
   have h2:=List.pairwise_cons.1 h
   simp only[qx]
   split
   ·rename_i hk
    refine List.pairwise_cons.2 ⟨fun x hx=>?_,h⟩
    rcases List.mem_cons.1 hx with rfl | hx
    ·exact hk
    ·have:=h2.1 x hx
     show k<x.1
     omega
   ·split
    ·rename_i h1 h3
     exact List.pairwise_cons.2 ⟨fun x hx=>by have:=h2.1 x hx;show k<x.1;omega,h2.2⟩
    ·rename_i h1 h3
     refine List.pairwise_cons.2 ⟨fun x hx=>?_,ih h2.2⟩
     rcases kN k v l x hx with rfl | hx
     ·show y.1<k;omega
     ·exact h2.1 x hx
 rintro l ⟨h1,h2⟩
 refine ⟨key l h1,fun x hx=>?_⟩
 rcases kN k v l x hx with rfl | hx
 ·exact hk
 ·exact h2 x hx
theorem wq {α:Type}:∀ (l:List α) (i:Nat) (h:i<l.length) (a:α),(l[i]::l.eraseIdx i).Perm l/\(l.set i a).Perm (a::l.eraseIdx i)
 | [],i,h,a=>by simp at h
 | x::l,0,h,a=>by simp
 | x::l,i+1,h,a=>by
  have ih:=wq l i (by simpa using h) a
  simp only[List.getElem_cons_succ,List.eraseIdx_cons_succ,List.set_cons_succ]
  exact ⟨(List.Perm.swap _ _ _).trans (ih.1.cons x),(ih.2.cons x).trans (List.Perm.swap _ _ _)⟩
def updL (k:Nat) (v:List UInt8) (l:List (Nat × List UInt8)):List (Nat × List UInt8):=match l.findIdx? (·.1==k) with | none=>l++[(k,v)] | some i=>l.set i (k,v)
theorem updL_perm {k:Nat} {v:List UInt8} {l tags:List (Nat × List UInt8)} (h:l.Perm tags) (hs:tags.Pairwise (fun x y=>x.1<y.1)):(updL k v l).Perm (qx k v tags):=by
 unfold updL
 cases hf:l.findIdx? (·.1==k) with
 | none =>
  have hn:=List.findIdx?_eq_none_iff.1 hf
  refine (List.perm_append_singleton _ _).trans (((h.cons (k,v))).trans (setTag_new k v tags (fun x hx e=>?_)).symm)
  have:=hn x (h.mem_iff.2 hx)
  simp[e] at this
 | some i =>
  obtain ⟨hi,hk,_⟩:=List.findIdx?_eq_some_iff_getElem.1 hf
  have hk:(l[i]).1=k:=by simpa using hk
  obtain ⟨u,hu⟩:∃ u,l[i]=(k,u):=⟨(l[i]).2,by rw[← hk]⟩
  have hm:(k,u) ∈ tags:=h.mem_iff.1 (by rw[← hu];exact List.getElem_mem hi)
  obtain ⟨rest,h3,h4⟩:=setTag_old k v u tags hs hm
  have h5:((k,u)::l.eraseIdx i).Perm l:=by rw[← hu];exact (wq l i hi (k,v)).1
  have h6:(l.eraseIdx i).Perm rest:=(h5.trans (h.trans h3)).cons_inv
  exact (wq l i hi (k,v)).2.trans ((h6.cons (k,v)).trans h4.symm)
def MapIs (w:World) (sb q:Nat) (l:List (Nat × List UInt8)):Prop :=
 ∃ es clock,w.heap[q]? = some (.map es clock)/\(∀ e ∈ es.toList,e.born<clock)/\(es.toList.map (·.born)).Nodup/\l.length=es.size ∧
  ∀ (i:Nat) (x:Nat × List UInt8),l[i]? = some x->∃ e:MapEntry,es[i]? = some e/\e.key=.int .u32 x.1/\j5 w sb e.val x.2
def zx (w:World) (sb B:Nat) (v:Value) (tags:List (Nat × List UInt8)):Prop :=
 TagsOk tags/\((v=.map none/\tags=[])\/∃ q l,v=.map (some q)/\B<=q/\q<w.heap.size/\MapIs w sb q l/\l.Perm tags)
theorem zx.rep {w:World} {sb B:Nat} {v:Value} {tags:List (Nat × List UInt8)} (h:zx w sb B v tags) (hs:sb<w.heap.size):xG w ⟨sb,fun _=>True⟩ B v tags:=by
 obtain ⟨h1,h2⟩:=h
 refine ⟨h1,trivial,?_⟩
 rcases h2 with h2 | ⟨q,l,hv,hq,hqs,⟨es,clock,hm,hb,hn,hl,he⟩,hp⟩
 ·exact .inl h2
 ·refine .inr ⟨q,es,clock,hv,hq,hqs,hm,hb,hn,l,hp,hl,fun i x hx=>?_⟩
  obtain ⟨e,e1,e2,e3⟩:=he i x hx
  refine ⟨e,e1,e2,?_⟩
  rcases e3 with ⟨e3,e4⟩ | ⟨o,cap,e3,_,e4⟩
  ·exact .inl ⟨e3,e4⟩
  ·exact .inr ⟨sb,o,cap,e3,.inl rfl,hs,e4⟩
theorem zx.heap {w w':World} {sb B:Nat} {v:Value} {tags:List (Nat × List UInt8)} (h:zx w sb B v tags) (hs:w'.heap[sb]? = w.heap[sb]?) (hz:w.heap.size<=w'.heap.size) (hk:∀ q,v=.map (some q)->w'.heap[q]? = w.heap[q]?):zx w' sb B v tags:=by
 obtain ⟨h1,h2⟩:=h
 refine ⟨h1,?_⟩
 rcases h2 with h2 | ⟨q,l,hv,hq,hqs,⟨es,clock,hm,hb,hn,hl,he⟩,hp⟩
 ·exact .inl h2
 ·refine .inr ⟨q,l,hv,hq,by omega,⟨es,clock,by rw[hk q hv];exact hm,hb,hn,hl,fun i x hx=>?_⟩,hp⟩
  obtain ⟨e,e1,e2,e3⟩:=he i x hx
  exact ⟨e,e1,e2,e3.heap hs⟩
section
variable {P : Program}
theorem gv:∀ (es:List MapEntry) (l:List (Nat × List UInt8)) (j k:Nat),l.length=es.length->(∀ (i:Nat) x,l[i]? = some x->∃ e:MapEntry,es[i]? = some e/\e.key=.int .u32 (x.1:Int)) →
  Instr.findNow (.int .u32) (.int .u32 (k:Int)) es j=some ((l.findIdx? (·.1==k)).bind fun i=>(es[i]?).map fun e=>(i+j,e.val))
 | [],[],j,k,_,_=>rfl
 | [],_::_,j,k,h,_=>by simp at h
 | _::_,[],j,k,h,_=>by simp at h
 | e::es,x::l,j,k,hl,h=>by
  obtain ⟨e',he,hk⟩:=h 0 x rfl
  simp only[List.getElem?_cons_zero,Option.some.injEq] at he
  subst he
  unfold Instr.findNow
  rw[hk]
  simp only[Instr.sameNow,if_true]
  rw[List.findIdx?_cons]
  by_cases hx:x.1=k
  ·have h1:((k:Int)==(x.1:Int))=true:=by simp[hx]
   have h2:(x.1==k)=true:=by simp[hx]
   rw[h1,h2]
   simp
  ·have h1:((k:Int)==(x.1:Int))=false:=by simp;omega
   have h2:(x.1==k)=false:=by simp[hx]
   rw[h1,h2]
   simp only[Bool.false_eq_true,if_false]
   rw[gv es l (j+1) k (by simpa using hl) (fun i y hy=>h (i+1) y (by simpa using hy))]
   cases l.findIdx? (·.1==k) with
   | none=>rfl
   | some i =>
    simp only[Option.map_some,Option.bind_some,List.getElem?_cons_succ]
    cases es[i]? with
    | none=>rfl
    | some e=>simp only[Option.map_some,Option.some.injEq,Prod.mk.injEq,and_true];omega
theorem yl {kt:TypeId} {k:Nat} {w:World} {b:Bool} (hk:P.underlying kt=some (.int .u32)):(Instr.checkKey b 10000 kt (.int .u32 (k:Int))).run P w=.ok () w:=by
 have h:∀ n:Nat,(Instr.checkKey b (n+1) kt (.int .u32 (k:Int))).run P w=.ok () w:=fun n=>by simp[Instr.checkKey,run_underlying hk]
 exact h 9999
theorem run_findKey {kt:TypeId} {k:Nat} {w:World} {es:List MapEntry} {l:List (Nat × List UInt8)} (hk:P.underlying kt=some (.int .u32)) (hl:l.length=es.length) (h:∀ (i:Nat) x,l[i]? = some x->∃ e:MapEntry,es[i]? = some e/\e.key=.int .u32 (x.1:Int)) :
  (Instr.findKey kt (.int .u32 (k:Int)) es).run P w=.ok ((l.findIdx? (·.1==k)).bind fun i=>(es[i]?).map fun e=>(i,e.val)) w:=by
 simp only[Instr.findKey,Sem.run_bind,run_underlying hk,Result.andThen_ok,gv es l 0 k hl h,Sem.run_pure,Nat.add_zero]
theorem yR {w:World} {q:Nat} {es:Array MapEntry} {clock:Nat} (hq:w.heap[q]? = some (.map es clock)) (o:Obj):(setObj q o).run P w=.ok () (setBlock w q o):=by
 simp[setObj,Sem.run,hq,setBlock]
theorem run_mapSet {t kt et:TypeId} {w:World} {sb q k:Nat} {l:List (Nat × List UInt8)} {val:Value} {v:List UInt8} (ht:P.underlying t=some (.map kt et)) (hk:P.underlying kt=some (.int .u32)) (hm:MapIs w sb q l) (hs:sb≠q) (hv:j5 w sb val v) :
  ∃ o,(Instr.mapUpdate t (.map (some q)) (.int .u32 (k:Int)) val).run P w=.ok () (setBlock w q o)/\MapIs (setBlock w q o) sb q (updL k v l):=by
 obtain ⟨es,clock,hq,hb,hn,hl,he⟩:=hm
 have hqs:q<w.heap.size:=(Array.getElem?_eq_some_iff.1 hq).1
 have hsb:∀ o,(setBlock w q o).heap[sb]? = w.heap[sb]?:=fun o=>by
  simp only[setBlock]
  rw[Array.getElem?_setIfInBounds_ne (Ne.symm hs)]
 have hqq:∀ o,(setBlock w q o).heap[q]? = some o:=fun o=>by
  simp only[setBlock]
  rw[Array.getElem?_setIfInBounds_self_of_lt hqs]
 have hg:(getObj q).run P w=.ok (.map es clock) w:=by simp[getObj,Sem.run,hq]
 have hfk:=run_findKey (P:=P) (k:=k) (w:=w) (es:=es.toList) (l:=l) hk (by simpa using hl) (fun i x hx=>by obtain ⟨e,e1,e2,_⟩:=he i x hx;exact ⟨e,by simpa using e1,e2⟩)
 cases hf:l.findIdx? (·.1==k) with
 | none =>
  rw[hf] at hfk
  refine ⟨.map (es.push { key:=.int .u32 (k:Int),val:=val,born:=clock }) (clock+1),?_,?_⟩
  ·simp only[Instr.mapUpdate,Sem.run_bind,run_underlying ht,Result.andThen_ok,hg,yl hk,hfk,Option.bind_none,yR hq]
  ·refine ⟨_,_,hqq _,?_,?_,?_,?_⟩
   ·intro e h
    simp only[Array.toList_push,List.mem_append,List.mem_cons,List.not_mem_nil,or_false] at h
    rcases h with h | rfl
    ·have:=hb e h;omega
    ·show clock<clock+1;omega
   ·simp only[Array.toList_push,List.map_append,List.map_cons,List.map_nil]
    refine List.nodup_append.2 ⟨hn,by simp,?_⟩
    intro a ha b hb2 hab
    simp only[List.mem_cons,List.not_mem_nil,or_false] at hb2
    obtain ⟨e,h1,rfl⟩:=List.mem_map.1 ha
    have:=hb e h1
    omega
   ·simp[updL,hf,hl]
   ·intro i x hx
    simp only[updL,hf] at hx
    rcases Nat.lt_or_ge i l.length with h | h
    ·rw[List.getElem?_append_left h] at hx
     obtain ⟨e,e1,e2,e3⟩:=he i x hx
     exact ⟨e,by rw[Array.getElem?_push_lt (by omega),← e1,Array.getElem?_eq_getElem (by omega)],e2,e3.heap (hsb _)⟩
    ·rw[List.getElem?_append_right h] at hx
     have h0:i-l.length=0:=by
      rcases Nat.eq_zero_or_pos (i-l.length) with h | h
      ·exact h
      ·rw[List.getElem?_eq_none (by simp;omega)] at hx;cases hx
     rw[h0] at hx
     simp only[List.getElem?_cons_zero,Option.some.injEq] at hx
     subst hx
     have:i=es.size:=by omega
     subst this
     exact ⟨{ key:=.int .u32 (k:Int),val:=val,born:=clock },by simp,rfl,hv.heap (hsb _)⟩
 | some i =>
  obtain ⟨hi,hik,_⟩:=List.findIdx?_eq_some_iff_getElem.1 hf
  have hik:(l[i]).1=k:=by simpa using hik
  obtain ⟨e0,f1,f2,f3⟩:=he i l[i] (List.getElem?_eq_getElem hi)
  have hie:i<es.size:=by omega
  rw[hf] at hfk
  have hkey:e0.key=.int .u32 (k:Int):=by rw[f2,hik]
  have hst:(Instr.keyThatStays (.int .u32 (k:Int)) (.int .u32 (k:Int))).run P w=.ok (.int .u32 (k:Int)) w:=by
   have:Instr.sameBits 10000 (.int .u32 (k:Int)) (.int .u32 (k:Int))=true:=by simp[Instr.sameBits]
   simp only[Instr.keyThatStays,this,if_true,Sem.run_pure]
  refine ⟨.map (es.modify i fun e=>{ e with key:=.int .u32 (k:Int),val:=val }) clock,?_,?_⟩
  ·simp only[Instr.mapUpdate,Sem.run_bind,run_underlying ht,Result.andThen_ok,hg,yl hk,hfk,Option.bind_some,Array.getElem?_toList,f1,Option.map_some,Option.getD_some,hkey,hst,yR hq]
  ·have hborn:(es.modify i fun e=>{ e with key:=.int .u32 (k:Int),val:=val }).toList.map (·.born)=es.toList.map (·.born):=by
    apply List.ext_getElem?
    intro j
    simp only[List.getElem?_map,Array.getElem?_toList,Array.getElem?_modify]
    split
    ·cases es[j]?<;>rfl
    ·rfl
   refine ⟨_,_,hqq _,?_,by rw[hborn];exact hn,?_,?_⟩
   ·intro e h
    have:e.born ∈ es.toList.map (·.born):=by rw[← hborn];exact List.mem_map.2 ⟨e,h,rfl⟩
    obtain ⟨e',h1,h2⟩:=List.mem_map.1 this
    rw[← h2]
    exact hb e' h1
   ·simp[updL,hf,hl]
   ·intro j x hx
    simp only[updL,hf] at hx
    by_cases hj:i=j
    ·subst hj
     rw[List.getElem?_set_self (by omega)] at hx
     simp only[Option.some.injEq] at hx
     subst hx
     refine ⟨{ e0 with key:=.int .u32 (k:Int),val:=val },by rw[Array.getElem?_modify,if_pos rfl,f1];rfl,rfl,hv.heap (hsb _)⟩
    ·rw[List.getElem?_set_ne hj] at hx
     obtain ⟨e,e1,e2,e3⟩:=he j x hx
     exact ⟨e,by rw[Array.getElem?_modify,if_neg hj];exact e1,e2,e3.heap (hsb _)⟩
end
end Go.Km
