/- The statements of AppendTo, one by one. More rules: append of whatever, slices laid out, struct values; guarded regions; regions that draw their order. The loop 'for i := range x' of AppendTo. What AppendTo writes: for every shape of a message. What AppendTo writes: tags, known ones too. What AppendTo writes: known tags whose length is counted first. What AppendTo writes: fields, lists, structs; every shape. What AppendTo writes: lists, structs; every shape; the whole function. What AppendTo writes: every shape; the whole function. What kbin's functions that write do. -/
import Derived.Test.YtlcamogfjoneiaaDoorKb00
import Derived.Deep.AppendSrc
import Derived.Great.FillDense
import Derived.OrdersHeld
import Derived.IntWalk
import Derived.Laws.BitsAllLaws
set_option maxHeartbeats 4000000
set_option linter.unusedSimpArgs false
set_option linter.unusedVariables false
namespace Go.Km
open Go Go.RowKit
attribute [local irreducible] vc rO_
section
variable {P : Program} {Q : Exit → Act → World → Prop} {a : Act} {w : World} {K : Nat → Prop}
theorem vS {c:Code} {r:List Code} (h:vc P c (Exit.then (vc P (sq r) Q) Q) a w):vc P (sq (c::r)) Q a w:=by
 cases r with
 | nil =>
  refine qZ _ h ?_
  intro e a w h
  cases e<;>first | exact vc_skip_inv h | exact h
 | cons d r=>exact vc_seq h
theorem vN (h:Q .normal a w):vc P (sq []) Q a w:=vK h
theorem zB {l r:List Code} (h:vc P (sq l) (Exit.then (vc P (sq r) Q) Q) a w):vc P (sq (l++r)) Q a w:=by
 induction l generalizing a w with
 | nil=>exact vc_skip_inv h
 | cons c l ih =>
  have hh:vc P c (Exit.then (vc P (sq l) (Exit.then (vc P (sq r) Q) Q)) (Exit.then (vc P (sq r) Q) Q)) a w:=by
   cases l with
   | nil=>exact qZ c h (fun e a w h=>by cases e<;>first | exact vK h | exact h)
   | cons d l=>exact vc_seq_inv h
  refine vS (qZ _ hh ?_)
  intro e a w h
  cases e<;>first | exact ih h | exact h
theorem vc_sq_flat {l:List Code} {r:List Code} (h:vc P (sq (l++r)) Q a w):vc P (sq (sq l::r)) Q a w:=by
 have hh:vc P (sq l) (Exit.then (vc P (sq r) Q) Q) a w:=by
  induction l generalizing a w with
  | nil=>exact vK h
  | cons c l ih =>
   have hc:vc P c (Exit.then (vc P (sq (l++r)) Q) Q) a w:=by
    cases hlr:l++r with
    | nil =>
     have:vc P (sq (c::(l++r))) Q a w:=h
     rw[hlr] at this
     exact qZ c this (fun e a w h=>by cases e<;>first | exact vK h | exact h)
    | cons d m =>
     have:vc P (sq (c::(l++r))) Q a w:=h
     rw[hlr] at this
     exact vc_seq_inv this
   refine vS (qZ c hc ?_)
   intro e a w h
   cases e<;>first | exact ih h | exact h
 exact vS hh
theorem vR {l:List Oper} (hg:∀ o ∈ l,o.guard=none) (h:rO_ P Q l a w):vc P (rg l) Q a w:=vc_run hg h
theorem vX {l:List Oper} {r:List Code} (h:rO_ P (Exit.then (vc P (sq r) Q) Q) l a w) (hg:(l.all fun o=>o.guard.isNone)=true:=by rfl):vc P (sq (rg l::r)) Q a w:=vS (vR (fun o ho=>Option.isNone_iff_eq_none.1 (List.all_eq_true.1 hg o ho)) h)
set_option maxHeartbeats 400000 in
theorem m_load {TP TU T:TypeId} {x s f t b o off:Nat} {val:Value} (hs:a.eval (.tmp s)=.pointer (some ⟨b,o,none⟩)) (hf:ql P TU f=some off) (hT:qQ P T=true)
  (hc:w.cell? ⟨b,o+off,none⟩=some val) (hx:¬ K x) (ht:∀ d,t<=d->¬ K d) (hxt:x<t) (hsz:t+4<=a.tmps.size)
  (k:∀ a',Fr K a a'->a'.eval (.tmp x)=val->Q .normal a' w):vc P (yC TP TU T x s f t) Q a w:=by
 refine vR (by simp) ?_
 refine rM ?_
 refine qV (ad:=⟨b,o,none⟩) (by simp (disch:=(try simp only[sP]);omega) only[eV,hs]) ?_
 refine rF (b:=b) (o:=o) (by simp (disch:=(try simp only[sP]);omega) only[eV]) hf ?_
 refine rL (b:=b) (o:=o+off) (by simp (disch:=(try simp only[sP]);omega) only[eV]) hT hc ?_
 refine rA (dn ?_)
 refine k _ ?_ (by simp (disch:=(try simp only[sP]);omega) only[eV])
 exact (((((Fr.refl K a).put _ (ht _ (by omega))).put _ (ht _ (by omega))).put _ (ht _ (by omega))).put _ (ht _ (by omega))).put _ hx
set_option maxHeartbeats 400000 in
theorem m_loadArr {TP TU T:TypeId} {x s f t b o off:Nat} {cs z:List Value} (hs:a.eval (.tmp s)=.pointer (some ⟨b,o,none⟩)) (hf:ql P TU f=some off) (hT:zb P T=some cs.length)
  (hz:qH P T=some (.agg z.toArray)) (hzl:z.length=cs.length) (h1:∀ v ∈ cs,v.oneCell'=true)
  (hc:qb w b (o+off) cs) (hx:¬ K x) (ht:∀ d,t<=d->¬ K d) (hxt:x<t) (hsz:t+4<=a.tmps.size)
  (k:∀ a' w' q,Fr K a a'->a'.eval (.tmp x)=.pointer (some ⟨q,0,none⟩)->w.heap.size<=q->qb w' q 0 cs->Grow w w'->Q .normal a' w'):vc P (wLoadArr TP TU T x s f t) Q a w:=by
 refine vR (by simp) ?_
 refine rM ?_
 refine qV (ad:=⟨b,o,none⟩) (by simp (disch:=(try simp only[sP]);omega) only[eV,hs]) ?_
 refine rF (b:=b) (o:=o) (by simp (disch:=(try simp only[sP]);omega) only[eV]) hf ?_
 refine qf (b:=b) (o:=o+off) (by simp (disch:=(try simp only[sP]);omega) only[eV]) hT hc ?_
 refine qK hz ?_
 have hfree:∀ i,i<cs.length->qq (w.alloc (.cells (Value.agg z.toArray).cells T)) w.heap.size (0+i):=by
  exact fun i hi=>qn w _ T (by simp[Value.cells];omega)
 refine qu (b:=w.heap.size) (o:=0) (cs:=cs) (by simp (disch:=(try simp only[sP]);omega) only[eV]) (by simp (disch:=(try simp only[sP]);omega) only[eV]) h1 hT hfree ?_
 refine dn ?_
 refine k _ _ w.heap.size ?_ (by simp (disch:=(try simp only[sP]);omega) only[eV]) (Nat.le_refl _) ?_ ?_
 ·exact (((((Fr.refl K a).put _ (ht _ (by omega))).put _ (ht _ (by omega))).put _ (ht _ (by omega))).put _ (ht _ (by omega))).put _ hx
 ·intro i v hv
  exact qg _ _ _ _ (fun j hj=>(hfree j hj).1) i v hv
 ·refine ((Eff.refl _ w).alloc _).trans' (qe _ _ _ _) ?_
  rintro k i hk ⟨rfl,_⟩
  omega
theorem m_app {E:Env} {F:FuncId} {T:TypeId} {x t:Nat} {dv arg:Value} {S:Value->World->Prop} (hd:a.eval (.tmp 1)=dv) (hx:a.eval (.tmp x)=arg) (hc:qa P F #[dv,arg] w S)
  (ht:∀ d,t<=d->¬ K d) (hk1:¬ K 1) (h1:1<t) (hxt:x<t) (hsz:t+3<=a.tmps.size) (k:∀ a' v' w',Fr K a a'->a'.eval (.tmp 1)=v'->S v' w'->Q .normal a' w'):vc P (kK E F T x t) Q a w:=by
 refine vR (by simp) ?_
 refine rM (rM ?_)
 refine q8 (args:=#[dv,arg]) ?_ hc ?_
 ·simp only[lM]
  simp (disch:=(try simp only[sP]);omega) only[eV,hd,hx]
 intro v' w' hs
 refine rA (dn ?_)
 refine k _ v' _ ?_ (by simp (disch:=(try simp only[sP]);omega) only[eV]) hs
 exact ((((Fr.refl K a).put _ (ht _ (by omega))).put _ (ht _ (by omega))).put _ (ht _ (by omega))).put _ hk1
theorem m_appArr {E:Env} {F:FuncId} {T:TypeId} {x t q:Nat} {dv:Value} {cs:List Value} {S:Value->World->Prop} (hd:a.eval (.tmp 1)=dv) (hx:a.eval (.tmp x)=.pointer (some ⟨q,0,none⟩))
  (hT:zb P T=some cs.length) (hcs:qb w q 0 cs) (hc:qa P F #[dv,.agg cs.toArray] w S)
  (ht:∀ d,t<=d->¬ K d) (hk1:¬ K 1) (h1:1<t) (hxt:x<t) (hsz:t+3<=a.tmps.size) (k:∀ a' v' w',Fr K a a'->a'.eval (.tmp 1)=v'->S v' w'->Q .normal a' w'):vc P (wAppArr E F T x t) Q a w:=by
 refine vR (by simp) ?_
 refine rM ?_
 refine qf (b:=q) (o:=0) (by simp (disch:=(try simp only[sP]);omega) only[eV,hx]) hT hcs ?_
 refine q8 (args:=#[dv,.agg cs.toArray]) ?_ hc ?_
 ·simp only[lM]
  simp (disch:=(try simp only[sP]);omega) only[eV,hd]
 intro v' w' hs
 refine rA (dn ?_)
 refine k _ v' _ ?_ (by simp (disch:=(try simp only[sP]);omega) only[eV]) hs
 exact ((((Fr.refl K a).put _ (ht _ (by omega))).put _ (ht _ (by omega))).put _ (ht _ (by omega))).put _ hk1
theorem m_lens {E:Env} {F:FuncId} {T e:TypeId} {s x t len cap:Nat} {ad:Option Addr} {dv:Value} {S:Value->World->Prop} (hd:a.eval (.tmp 1)=dv) (hx:a.eval (.tmp x)=.slice ad len cap)
  (hT:xw P T=some (e,s)) (hc:qa P F #[dv,.int .i64 len] w S)
  (ht:∀ d,t<=d->¬ K d) (hk1:¬ K 1) (h1:1<t) (hxt:x<t) (hsz:t+4<=a.tmps.size) (k:∀ a' v' w',Fr K a a'->a'.eval (.tmp 1)=v'->S v' w'->Q .normal a' w'):vc P (wLens E F T x t) Q a w:=by
 refine vR (by simp) ?_
 refine rM (rM ?_)
 refine qY (ad:=ad) (n:=len) (c:=cap) hT (by simp (disch:=(try simp only[sP]);omega) only[eV,hx]) ?_
 refine q8 (args:=#[dv,.int .i64 len]) ?_ hc ?_
 ·simp only[lM]
  simp (disch:=(try simp only[sP]);omega) only[eV,hd]
 intro v' w' hs
 refine rA (dn ?_)
 refine k _ v' _ ?_ (by simp (disch:=(try simp only[sP]);omega) only[eV]) hs
 exact (((((Fr.refl K a).put _ (ht _ (by omega))).put _ (ht _ (by omega))).put _ (ht _ (by omega))).put _ (ht _ (by omega))).put _ hk1
theorem yv {d T x ty p af g e s ad len cap r} (hT:xw P T=some (e,s)) (hx:a.eval x=.slice ad len cap) (h:rO_ P Q r (a.put (some d) (.bool ad.isNone)) w) :
  rO_ P Q (⟨some d,.binOp .eql T x (.const (.slice none 0 0)) T,ty,p,af,g⟩::r) a w:=by
 obtain ⟨hu,_⟩:=j1 hT
 refine st ?_
 have hb:(binOp .eql T (.slice ad len cap) (.slice none 0 0)).run P w=.ok (.bool ad.isNone) w:=by
  have h0:∀ k:Nat,(Op.equalIn (k+1) T (.slice ad len cap) (.slice none 0 0)).run P w=.ok ad.isNone w:=fun k=>by
   cases ad<;>simp[Op.equalIn,run_underlying hu]
  simp only[binOp]
  simp[Op.equal,Op.maxDepth,h0 9999]
 simp only[Oper.wp,execOp,hx,xi,eqGuard_at_slice,hb,Sem.run_bind,Sem.run_pure,Result.andThen_ok,Oper.upon_value]
 exact h
theorem m_nlens {E:Env} {F:FuncId} {T e:TypeId} {s x t len cap:Nat} {ad:Option Addr} {dv:Value} {S:Value->World->Prop} (hd:a.eval (.tmp 1)=dv) (hx:a.eval (.tmp x)=.slice ad len cap)
  (hT:xw P T=some (e,s)) (hc:qa P F #[dv,.int .i64 len,.bool ad.isNone] w S)
  (ht:∀ d,t<=d->¬ K d) (hk1:¬ K 1) (h1:1<t) (hxt:x<t) (hsz:t+6<=a.tmps.size) (k:∀ a' v' w',Fr K a a'->a'.eval (.tmp 1)=v'->S v' w'->Q .normal a' w'):vc P (wNLens E F T x t) Q a w:=by
 refine vR (by simp) ?_
 refine rM (rM ?_)
 refine qY (ad:=ad) (n:=len) (c:=cap) hT (by simp (disch:=(try simp only[sP]);omega) only[eV,hx]) ?_
 refine rM ?_
 refine yv (ad:=ad) (len:=len) (cap:=cap) hT (by simp (disch:=(try simp only[sP]);omega) only[eV,hx]) ?_
 refine q8 (args:=#[dv,.int .i64 len,.bool ad.isNone]) ?_ hc ?_
 ·simp only[lM]
  simp (disch:=(try simp only[sP]);omega) only[eV,hd]
 intro v' w' hs
 refine rA (dn ?_)
 refine k _ v' _ ?_ (by simp (disch:=(try simp only[sP]);omega) only[eV]) hs
 exact (((((((Fr.refl K a).put _ (ht _ (by omega))).put _ (ht _ (by omega))).put _ (ht _ (by omega))).put _ (ht _ (by omega))).put _ (ht _ (by omega))).put _ (ht _ (by omega))).put _ hk1
def qz (P:Program) (dj:Nat) (Q:Exit->Act->World->Prop):List Oper->Act->World->Prop
 | [],a,w=>Q .normal a w
 | o::r,a,w=>match o.guard with
  | none=>o.wp P a w (qz P dj Q r) Q
  | some (_,want)=>∃ b,a.eval (.tmp dj)=.bool b/\(if b=want then o.wp P a w (qz P dj Q r) Q else qz P dj Q r (a.put o.dst undef) w)
theorem yielded_of {ops:Array Oper} {j dj:Nat} {o:Oper} {b:Bool} (hj:ops[j]? = some o) (hd:o.dst=some dj) (h:a.eval (.tmp dj)=.bool b):yielded ops a.tmps j=some b:=by
 unfold yielded
 simp only[hj,Option.bind_some,hd]
 simp only[Act.eval,Array.getD_eq_getD_getElem?] at h
 cases ht:a.tmps[dj]? with
 | none=>simp[ht,undef] at h
 | some v=>simp only[ht,Option.getD_some] at h;subst h;rfl
theorem vc_runG {l:List Oper} {dj:Nat} (hg:∀ o ∈ l,o.guard=none\/∃ want,o.guard=some (2,want)) (hd:(l[2]?).bind (·.dst)=some dj) (h:qz P dj Q l a w):vc P (rg l) Q a w:=by
 refine vc_ops ?_
 simp only[List.size_toArray]
 have key:∀ (suf pre:List Oper) (a:Act) (w:World),l=pre++suf->qz P dj Q suf a w->wpOps P l.toArray Q (List.range' pre.length suf.length) a w:=by
  intro suf
  induction suf with
  | nil=>exact fun pre a w _ h=>h
  | cons o r ih =>
   intro pre a w hl h
   have hi:l.toArray[pre.length]? = some o:=by simp[hl]
   simp only[List.length_cons,List.range'_succ,wpOps,hi]
   have hn:∀ a w,qz P dj Q r a w->wpOps P l.toArray Q (List.range' (pre.length+1) r.length) a w:=by
    intro a w h
    have:=ih (pre++[o]) a w (by simp[hl]) h
    simpa using this
   have hwp:o.wp P a w (qz P dj Q r) Q->o.wp P a w (wpOps P l.toArray Q (List.range' (pre.length+1) r.length)) Q:=by
    intro h
    unfold Oper.wp at h ⊢
    revert h
    generalize (execOp a.eval o).run P w=res
    intro h
    unfold Oper.upon at h ⊢
    split at h<;>first
     | exact hn _ _ h
     | exact h
     | (exact Calls.mono h (fun e w' hh=>by cases e<;>first | exact hn _ _ hh | exact hh))
     | (exact Rows.mono h (fun _ _ hh=>hn _ _ hh))
   rcases hg o (by simp[hl]) with ho | ⟨want,ho⟩
   ·simp only[qz,ho] at h
    rw[if_pos (by simp[Region.wanted,ho])]
    exact .inl (hwp h)
   ·simp only[qz,ho] at h
    obtain ⟨b,hb,h⟩:=h
    cases h2:l[2]? with
    | none=>simp[h2] at hd
    | some o2 =>
     simp only[h2,Option.bind_some] at hd
     have hy:=yielded_of (ops:=l.toArray) (j:=2) (by simpa using h2) hd hb
     have hwt:Region.wanted o (yielded l.toArray a.tmps)=(b==want):=by simp[Region.wanted,ho,hy]
     rw[hwt]
     by_cases hbw:b=want
     ·rw[if_pos hbw] at h
      rw[if_pos (by simpa using hbw)]
      exact .inl (hwp h)
     ·rw[if_neg hbw] at h
      rw[if_neg (by simpa using hbw)]
      exact hn _ _ h
 have:=key l [] a w rfl h
 simpa [List.range_eq_range'] using this
section
variable {dj : Nat} {r : List Oper}
theorem g_dn (h:Q .normal a w):qz P dj Q [] a w:=h
theorem g_want {d op t p af k want b} (hb:a.eval (.tmp dj)=.bool b) (hw:b=want) (h:qz P dj Q (⟨d,op,t,p,af,none⟩::r) a w):qz P dj Q (⟨d,op,t,p,af,some (k,want)⟩::r) a w :=
 ⟨b,hb,by rw[if_pos hw];exact h⟩
theorem g_skip {d op t p af k want b} (hb:a.eval (.tmp dj)=.bool b) (hw:b≠want) (h:qz P dj Q r (a.put d undef) w):qz P dj Q (⟨d,op,t,p,af,some (k,want)⟩::r) a w :=
 ⟨b,hb,by rw[if_neg hw];exact h⟩
theorem g_mv {d:Nat} {x t p af} (h:qz P dj Q r (a.put (some d) (a.eval x)) w):qz P dj Q (⟨some d,.move x,t,p,af,none⟩::r) a w:=h
theorem g_geq {d:Nat} {xt x y yt ty p af k m n} (hx:a.eval x=.int k m) (hy:a.eval y=.int k n) (h:qz P dj Q r (a.put (some d) (.bool (decide (m ≥ n)))) w):qz P dj Q (⟨some d,.binOp .geq xt x y yt,ty,p,af,none⟩::r) a w:=by
 show Oper.wp P _ a w (qz P dj Q r) Q
 simp only[Oper.wp,execOp,hx,hy,eqGuard_at_int,binOp_geq,Sem.run_bind,Sem.run_pure,Result.andThen_ok,Oper.upon_value]
 exact h
theorem g_leq {d:Nat} {xt x y yt ty p af k m n} (hx:a.eval x=.int k m) (hy:a.eval y=.int k n) (h:qz P dj Q r (a.put (some d) (.bool (decide (m<=n)))) w):qz P dj Q (⟨some d,.binOp .leq xt x y yt,ty,p,af,none⟩::r) a w:=by
 show Oper.wp P _ a w (qz P dj Q r) Q
 simp only[Oper.wp,execOp,hx,hy,eqGuard_at_int,binOp_leq,Sem.run_bind,Sem.run_pure,Result.andThen_ok,Oper.upon_value]
 exact h
theorem g_lss {d:Nat} {xt x y yt ty p af k m n} (hx:a.eval x=.int k m) (hy:a.eval y=.int k n) (h:qz P dj Q r (a.put (some d) (.bool (decide (m<n)))) w):qz P dj Q (⟨some d,.binOp .lss xt x y yt,ty,p,af,none⟩::r) a w:=by
 show Oper.wp P _ a w (qz P dj Q r) Q
 simp only[Oper.wp,execOp,hx,hy,eqGuard_at_int,binOp_lss,Sem.run_bind,Sem.run_pure,Result.andThen_ok,Oper.upon_value]
 exact h
theorem g_eql {d:Nat} {xt x y yt ty p af k m n} (hx:a.eval x=.int k m) (hy:a.eval y=.int k n) (h:qz P dj Q r (a.put (some d) (.bool (m==n))) w):qz P dj Q (⟨some d,.binOp .eql xt x y yt,ty,p,af,none⟩::r) a w:=by
 show Oper.wp P _ a w (qz P dj Q r) Q
 simp only[Oper.wp,execOp,hx,hy,eqGuard_at_int,binOp_eql,Sem.run_bind,Sem.run_pure,Result.andThen_ok,Oper.upon_value]
 exact h
theorem g_pick {d:Nat} {c x y ty p af v b} (hc:a.eval c=.bool b) (hv:(if b=true then a.eval x else a.eval y)=v) (h:qz P dj Q r (a.put (some d) v) w):qz P dj Q (⟨some d,.pick c x y,ty,p,af,none⟩::r) a w:=by
 show Oper.wp P _ a w (qz P dj Q r) Q
 simp only[Oper.wp,execOp,hc,asBool,Sem.run_bind,Sem.run_pure,Result.andThen_ok,Oper.upon_value,hv]
 exact h
end
attribute [local irreducible] qz
theorem m_flex {E:Env} {x:Cx} {t m:Nat} {A B:Tmp->Code} {fx:Bool} (hfl:∀ f,x.fl=some f->a.eval (.tmp f)=.bool fx/\f<t) (hno:x.fl=none->fx=false) (ht:∀ d,t<=d->¬ K d) (h1:1<t) (hsz:t+x.nt m<=a.tmps.size)
  (hA:fx=true->∀ a' t',Fr K a a'->t<=t'->t'+m<=a.tmps.size->(∀ k,k<t->a'.eval (.tmp k)=a.eval (.tmp k))->vc P (A t') Q a' w)
  (hB:fx=false->∀ a' t',Fr K a a'->t<=t'->t'+m<=a.tmps.size->(∀ k,k<t->a'.eval (.tmp k)=a.eval (.tmp k))->vc P (B t') Q a' w):vc P (kL E x t m A B) Q a w:=by
 unfold kL
 cases hx:x.fl with
 | none =>
  simp only[hx,Cx.nt] at hsz ⊢
  exact hB (hno hx) a t (Fr.refl _ _) (Nat.le_refl _) hsz (fun _ _=>rfl)
 | some f =>
  simp only[hx,Cx.nt] at hsz ⊢
  obtain ⟨hf,hfn⟩:=hfl f hx
  refine vX (rM (dn ?_))
  have hfr:Fr K a (a.put (some t) (a.eval (.tmp f))):=(Fr.refl K a).put _ (ht _ (by omega))
  have he:∀ k,k<t->(a.put (some t) (a.eval (.tmp f))).eval (.tmp k)=a.eval (.tmp k):=fun k hk=>qi _ _ _ _ (by omega)
  refine vS (vC (t:=fx) (by simp (disch:=(try simp only[sP]);omega) only[eV,hf]) ?_ ?_)
  ·exact fun h=>qZ _ (hA h _ (t+1) hfr (by omega) (by omega) he) (fun e a w h=>by cases e<;>first | exact vN h | exact h)
  ·exact fun h=>qZ _ (hB h _ (t+1+m) hfr (by omega) (by omega) he) (fun e a w h=>by cases e<;>first | exact vN h | exact h)
theorem m_ver {E:Env} {x:Cx} {v:Ver} {t ver:Nat} {body:Code} (hvt:v.isTag=false) (hv:a.eval (.tmp x.vs)=.int .i16 (ver:Int)) (hvs:x.vs<t) (ht:∀ d,t<=d->¬ K d) (hsz:t+v.nt<=a.tmps.size)
  (hyes:v.has ver=true->∀ a',Fr K a a'->(∀ k,k<t->a'.eval (.tmp k)=a.eval (.tmp k))->vc P body Q a' w)
  (hno:v.has ver=false->∀ a',Fr K a a'->(∀ k,k<t->a'.eval (.tmp k)=a.eval (.tmp k))->Q .normal a' w):vc P (ifVer E x v t body) Q a w:=by
 unfold ifVer
 cases v with
 | tag _ _=>cases hvt
 | all=>exact hyes rfl a (Fr.refl _ _) (fun _ _=>rfl)
 | ge m =>
  simp only[Ver.nt] at hsz
  refine vX (rM ?_)
  refine y6 (k:=.i16) (m:=ver) (n:=m) (by simp (disch:=(try simp only[sP]);omega) only[eV,hv]) rfl ?_
  refine dn ?_
  refine vS (vC (t:=decide ((ver:Int) ≥ m)) (by simp (disch:=(try simp only[sP]);omega) only[eV]) ?_ ?_)
  ·intro h
   have hd:(Ver.ge m).has ver=true:=by simp only[Ver.has,decide_eq_true_eq] at h ⊢;omega
   exact qZ _ (hyes hd _ (((Fr.refl K a).put _ (ht _ (by omega))).put _ (ht _ (by omega))) (fun k hk=>by rw[qi _ _ _ _ (by omega),qi _ _ _ _ (by omega)])) (fun e a w h=>by cases e<;>first | exact vN h | exact h)
  ·intro h
   have hd:(Ver.ge m).has ver=false:=by simp only[Ver.has,decide_eq_false_iff_not] at h ⊢;omega
   exact vK (vN (hno hd _ (((Fr.refl K a).put _ (ht _ (by omega))).put _ (ht _ (by omega))) (fun k hk=>by rw[qi _ _ _ _ (by omega),qi _ _ _ _ (by omega)])))
 | btw m m' =>
  simp only[Ver.nt] at hsz
  refine vS (vc_runG (dj:=t+2) (by simp) rfl ?_)
  refine g_mv ?_
  refine g_geq (k:=.i16) (m:=ver) (n:=m) (by simp (disch:=(try simp only[sP]);omega) only[eV,hv]) rfl ?_
  refine g_mv ?_
  have hfr:Fr K a ((a.put (some t) (a.eval (.tmp x.vs))).put (some (t+1)) (.bool (decide ((ver:Int) ≥ m)))):=((Fr.refl K a).put _ (ht _ (by omega))).put _ (ht _ (by omega))
  by_cases h:(ver:Int) ≥ m
  ·refine g_want (b:=decide ((ver:Int) ≥ m)) (by simp (disch:=(try simp only[sP]);omega) only[eV]) (by simpa using h) ?_
   refine g_mv ?_
   refine g_want (b:=decide ((ver:Int) ≥ m)) (by simp (disch:=(try simp only[sP]);omega) only[eV]) (by simpa using h) ?_
   refine g_leq (k:=.i16) (m:=ver) (n:=m') (by simp (disch:=(try simp only[sP]);omega) only[eV,hv]) rfl ?_
   refine g_pick (b:=decide ((ver:Int) ≥ m)) (v:=.bool (decide ((ver:Int)<=m'))) (by simp (disch:=(try simp only[sP]);omega) only[eV]) (by rw[if_pos (by simpa using h)];simp (disch:=(try simp only[sP]);omega) only[eV]) ?_
   refine g_dn ?_
   refine vS (vC (t:=decide ((ver:Int)<=m')) (by simp (disch:=(try simp only[sP]);omega) only[eV]) ?_ ?_)
   ·intro h'
    have hd:(Ver.btw m m').has ver=true:=by simp only[Ver.has,Bool.and_eq_true,decide_eq_true_eq] at h' ⊢;omega
    refine qZ _ (hyes hd _ ((((hfr.put _ (ht _ (by omega))).put _ (ht _ (by omega))).put _ (ht _ (by omega))).put _ (ht _ (by omega))) ?_) (fun e a w h=>by cases e<;>first | exact vN h | exact h)
    intro k hk
    simp (disch:=(try simp only[sP]);omega) only[eV]
   ·intro h'
    have hd:(Ver.btw m m').has ver=false:=by simp only[Ver.has,Bool.and_eq_false_iff,decide_eq_false_iff_not] at h' ⊢;omega
    refine vK (vN (hno hd _ ((((hfr.put _ (ht _ (by omega))).put _ (ht _ (by omega))).put _ (ht _ (by omega))).put _ (ht _ (by omega))) ?_))
    intro k hk
    simp (disch:=(try simp only[sP]);omega) only[eV]
  ·refine g_skip (b:=decide ((ver:Int) ≥ m)) (by simp (disch:=(try simp only[sP]);omega) only[eV]) (by simpa using h) ?_
   refine g_skip (b:=decide ((ver:Int) ≥ m)) (by simp (disch:=(try simp only[sP]);omega) only[eV]) (by simpa using h) ?_
   refine g_pick (b:=decide ((ver:Int) ≥ m)) (v:=.bool false) (by simp (disch:=(try simp only[sP]);omega) only[eV]) (by rw[if_neg (by simpa using h)];rfl) ?_
   refine g_dn ?_
   refine vS (vC (t:=false) (by simp (disch:=(try simp only[sP]);omega) only[eV]) (fun h=>by cases h) ?_)
   intro _
   have hd:(Ver.btw m m').has ver=false:=by simp only[Ver.has,Bool.and_eq_false_iff,decide_eq_false_iff_not];omega
   refine vK (vN (hno hd _ ((((hfr.put _ (ht _ (by omega))).put _ (ht _ (by omega))).put _ (ht _ (by omega))).put _ (ht _ (by omega))) ?_))
   intro k hk
   simp (disch:=(try simp only[sP]);omega) only[eV]
theorem m_ifLss {E:Env} {x:Cx} {N t ver:Nat} {A B:Code} (hv:a.eval (.tmp x.vs)=.int .i16 (ver:Int)) (hvs:x.vs<t) (ht:∀ d,t<=d->¬ K d) (hsz:t+2<=a.tmps.size)
  (hA:ver<N->∀ a',Fr K a a'->(∀ k,k<t->a'.eval (.tmp k)=a.eval (.tmp k))->vc P A Q a' w)
  (hB:¬ ver<N->∀ a',Fr K a a'->(∀ k,k<t->a'.eval (.tmp k)=a.eval (.tmp k))->vc P B Q a' w):vc P (ifLss E x N t A B) Q a w:=by
 unfold ifLss
 refine vX (rM ?_)
 refine qW (k:=.i16) (m:=ver) (n:=N) (by simp (disch:=(try simp only[sP]);omega) only[eV,hv]) rfl ?_
 refine dn ?_
 refine vS (vC (t:=decide ((ver:Int)<N)) (by simp (disch:=(try simp only[sP]);omega) only[eV]) ?_ ?_)
 ·intro h
  have hd:ver<N:=by simp only[decide_eq_true_eq] at h;omega
  exact qZ _ (hA hd _ (((Fr.refl K a).put _ (ht _ (by omega))).put _ (ht _ (by omega))) (fun k hk=>by rw[qi _ _ _ _ (by omega),qi _ _ _ _ (by omega)])) (fun e a w h=>by cases e<;>first | exact vN h | exact h)
 ·intro h
  have hd:¬ ver<N:=by simp only[decide_eq_false_iff_not] at h;omega
  exact qZ _ (hB hd _ (((Fr.refl K a).put _ (ht _ (by omega))).put _ (ht _ (by omega))) (fun k hk=>by rw[qi _ _ _ _ (by omega),qi _ _ _ _ (by omega)])) (fun e a w h=>by cases e<;>first | exact vN h | exact h)
end
end Go.Km
namespace Go.Km
open Go Go.RowKit
def xd (P:Program) (t e:TypeId) (s:Nat):Bool :=
 match P.underlying t,P.info? e with
 | some (.slice e'),some i=>e'==e&&i.size==s&&decide (0<s)&&(match i.zero with | some z=>z.cells.size==s | none=>false)&&decide (i.bytes<=65536)
 | _,_=>false
theorem xM {P:Program} {t e:TypeId} {s:Nat} (h:xd P t e s=true) :
  P.underlying t=some (.slice e)/\∃ i z,P.info? e=some i/\i.size=s/\0<s/\i.zero=some z/\z.cells.size=s/\i.bytes<=65536:=by
 unfold xd at h
 split at h
 ·rename_i e' i hu hi
  cases hz:i.zero with
  | none=>simp[hz] at h
  | some z =>
   simp only[hz,Bool.and_eq_true,beq_iff_eq,decide_eq_true_eq] at h
   obtain ⟨⟨⟨⟨h1,h2⟩,h3⟩,h4⟩,h5⟩:=h
   subst h1
   exact ⟨hu,i,z,hi,h2,h3,hz,h4,h5⟩
 ·cases h
theorem rB {P:Program} {t e:TypeId} {s:Nat} (h:xd P t e s=true):xw P t=some (e,s):=by
 obtain ⟨hu,i,z,hi,hs,_⟩:=xM h
 simp[xw,hu,hi,hs]
theorem jr {P:Program} (w:World) (base:Nat) (t tx ty e:TypeId) (s:Nat) (hB:xd P t e s=true)
  (v:Value) (n:Nat) (xs:List Value) (hown:w.ownsRow base e s v n xs) (x:Value) (m:Nat) (news:List Value) (hs:Src P s tx x m news w) (hb:n+m<=big) (hbase:base<=w.heap.size) :
  ∃ v' w',(Builtin.append_ #[t,tx] ty #[v,x]).run P w=.ok v' w'/\w'.ownsRow base e s v' (n+m) (xs++news)/\w.grownBy w' v.ownBlock/\(∀ g,v'.ownBlock=some g->v.ownBlock=some g\/w.heap.size<=g):=by
 obtain ⟨ht,i,z,hi,hsize,hsz,hz,hzs,hby⟩:=xM hB
 subst hsize
 have hl:=hs.newsLen
 have hsmall:n+m<=9223372036854775807:=by unfold big at hb;omega
 have h63:n+m<=maxLen:=by unfold big at hb;simp only[maxLen];omega
 have hbytes:(n+m)*i.bytes<=140737488355328:=by
  refine Nat.le_trans (Nat.mul_le_mul hb hby) ?_
  unfold big
  omega
 have hlen:(xs++news).length=(n+m)*i.size:=by rw[List.length_append,hown.1,hl,Nat.add_mul]
 have grown:∀ (old:Nat),old<n+m->∀ (row:Option Nat),
   (w.drew.alloc (.cells ((xs++news).toArray++Builtin.zeroCells z.cells (grownCap w (n+m) old e-(n+m))) e)).ownsRow base e i.size
    (.slice (some ⟨w.heap.size,0,none⟩) (n+m) (grownCap w (n+m) old e)) (n+m) (xs++news) ∧
   w.grownBy (w.drew.alloc (.cells ((xs++news).toArray++Builtin.zeroCells z.cells (grownCap w (n+m) old e-(n+m))) e)) row:=by
  intro old ho row
  have hge:=grownCap_ge w (n+m) old e
  have hcm:grownCap w (n+m) old e<=maxLen:=grownCap_le_maxLen w (n+m) old e h63
  refine ⟨⟨hlen,.inr ⟨w.heap.size,_,_,rfl,hbase,heap_alloc_new w.drew _,hge,hcm,?_,?_⟩⟩,⟨rfl,rfl,rfl,by simp,fun k hk _=>heap_alloc_old w.drew _ k hk⟩⟩
  ·have hmul:(n+m)*i.size+(grownCap w (n+m) old e-(n+m))*i.size=grownCap w (n+m) old e*i.size:=by
    rw[← Nat.add_mul]
    congr 1
    omega
   rw[Array.size_append,List.size_toArray,size_zeroCells,hzs,hlen]
   exact hmul
  ·rw[Array.toList_append,← hlen]
   exact List.take_left
 rcases hown.2 with ⟨rfl,rfl⟩ | ⟨g,cap,cur,rfl,hbg,hg,hnc,hcm,hcs,htake⟩
 ·have hx:xs=[]:=List.eq_nil_of_length_eq_zero (by simpa using hown.1)
  subst hx
  by_cases hm:m=0
  ·subst hm
   have hn:news=[]:=List.eq_nil_of_length_eq_zero (by simpa using hl)
   subst hn
   refine ⟨.slice none 0 0,w,?_,World.ownsRow_nil w base e i.size,⟨rfl,rfl,rfl,Nat.le_refl _,fun _ _ _=>rfl⟩,fun g h=>by cases h⟩
   rcases hs.kind with ⟨e',hk⟩ | hk<;>simp[Builtin.append_,run_underlying ht,run_underlying hk,sizeOf,typeInfo,hi,hs.len,hs.cells,storeCells]
  ·have hr:=run_append_grow_src (P:=P) w t tx ty e i z ht hi hz none 0 0 [] (by simp[Builtin.firstCells]) x m news hs (by omega) (by omega) (growslice_fits (by omega) (by simpa using hbytes))
   have hgr:=grown 0 (by omega) (Value.ownBlock (.slice none 0 0))
   simp only[Nat.zero_add,List.nil_append] at hgr hr ⊢
   exact ⟨_,_,hr,hgr.1,hgr.2,fun g' h=>.inr (by simp only[Value.ownBlock,Option.some.injEq] at h;omega)⟩
 ·by_cases hroom:n+m<=cap
  ·have hfit:n*i.size+news.length<=cur.size:=by rw[hl,hcs,← Nat.add_mul];exact Nat.mul_le_mul_right _ hroom
   have hc:∀ j,j<news.length->(w.cell? ⟨g,0+n*i.size+j,none⟩).isSome=true:=by
    intro j hj
    have:0+n*i.size+j<cur.size:=by omega
    simp[World.cell?,hg]
    omega
   have hf:∀ j,j<news.length->w.frozen? ⟨g,0+n*i.size+j,none⟩=false:=by
    intro j hj
    simp[World.frozen?,hg]
   have hr:=run_append_room_src (P:=P) w t tx ty e i ht hi g 0 n cap x m news hs hroom hc hf
   have e1:=run_storeCells_cells (P:=P) g (0+n*i.size) news 0 w (by simpa using hc) (by simpa using hf) hs.one
   have e2:=run_storeCells_at P g (0+n*i.size) e news 0 cur w hg (by simpa using hfit) hs.one
   have e3:=e1.symm.trans e2
   simp only[Nat.add_zero] at e3
   injection e3 with _ e3
   rw[e3] at hr
   refine ⟨_,_,hr,⟨hlen,.inr ⟨g,cap,_,rfl,hbg,setRow_heap w g cur _ e _ hg,hroom,hcm,?_,?_⟩⟩,⟨rfl,rfl,rfl,by simp,fun k _ hk=>setRow_other w g k _ (fun e=>hk (by simp[Value.ownBlock,e]))⟩,fun g' h=>.inl h⟩
   ·simp only[List.size_toArray,List.length_append,List.length_take,List.length_drop,Array.length_toList]
    omega
   ·simp only[Nat.zero_add]
    rw[htake,← hlen]
    exact List.take_left
  ·have holds:∀ j u,xs[j]? = some u->w.cell? ((⟨g,0,none⟩:Addr).add j)=some u:=hown.cells (g:=g) rfl
   have hr:=run_append_grow_src (P:=P) w t tx ty e i z ht hi hz (some ⟨g,0,none⟩) n cap xs (run_firstCells_some w.drew i.size n _ n cap xs hown.1 (by simpa using holds)) x m news hs (by omega) (by omega) (growslice_fits (by omega) hbytes)
   have hgr:=grown cap (by omega) (Value.ownBlock (.slice (some ⟨g,0,none⟩) n cap))
   exact ⟨_,_,hr,hgr.1,hgr.2,fun g' h=>.inr (by simp only[Value.ownBlock,Option.some.injEq] at h;omega)⟩
theorem jL {w w':World} {base:Nat} {e:TypeId} {s:Nat} {v:Value} {n:Nat} {xs:List Value} (hown:w.ownsRow base e s v n xs) (hg:w.grownBy w' v.ownBlock) (hU:base<=w.heap.size):Below base w w' :=
 ⟨hg.os,hg.tape,hg.output,hg.size,fun k hk=>hg.block k (by omega) (fun he=>by have:=hown.lt k he.symm;omega)⟩
theorem xW {P:Program} {t e:TypeId} {s:Nat} {w:World} {q o n cap:Nat} {cs:List Value} (ht:xw P t=some (e,s)) (hc:qb w q o cs) (hl:cs.length=n*s) (h1:∀ u ∈ cs,u.oneCell'=true) :
  Src P s t (.slice (some ⟨q,o,none⟩) n cap) n cs w :=
 Src.ofSlice w (j1 ht).1 _ n cap cs hl (fun j u hu=>by rw[Addr.add_lit];exact hc j u hu) h1
theorem xo (l:List UInt8):∀ u ∈ l.map bv,u.oneCell'=true:=by
 intro u hu
 obtain ⟨b,_,rfl⟩:=List.mem_map.1 hu
 rfl
theorem wV {P:Program} {t e:TypeId} {s c:Nat} {w:World} (ht:xw P t=some (e,s)):Src P s t (.slice none 0 c) 0 [] w:=Src.ofNil w (j1 ht).1 c
theorem byteCells_bv (l:List UInt8):byteCells ⟨l.toArray⟩=l.map bv:=by
 simp[byteCells,bv]
theorem wT {P:Program} {t:TypeId} {w:World} (ht:P.underlying t=some .string) (l:List UInt8):Src P 1 t (.string ⟨l.toArray⟩) l.length (l.map bv) w:=by
 have:=Src.ofString (P:=P) w ht ⟨l.toArray⟩
 rw[byteCells_bv] at this
 exact this
structure Gd where
 u:Nat
 g:Nat->Option Obj
instance:Coe Gd Nat:=⟨Gd.u⟩
def Gd.none:Nat->Option Obj:=fun _=>Option.none
def KeptG (w:World) (g:Nat->Option Obj) (e:TypeId):Prop:=∀ b o,g b=some o->w.heap[b]? = some o/\∀ cur,o≠.cells cur e (0,0)
theorem KeptG.none (w:World) (e:TypeId):KeptG w Gd.none e:=fun b o h=>by cases h
structure _root_.Go.World.ownsG (w:World) (U:Gd) (e:TypeId) (s:Nat) (v:Value) (n:Nat) (xs:List Value):Prop where
 own:w.ownsRow U.u e s v n xs
 kept:KeptG w U.g e
theorem _root_.Go.World.ownsG.stay {w w':World} {U:Gd} {e:TypeId} {s:Nat} {v:Value} {n:Nat} {xs:List Value} (h:w.ownsG U e s v n xs) (hg:w.grownBy w' v.ownBlock):KeptG w' U.g e:=by
 intro b o hb
 obtain ⟨h1,h2⟩:=h.kept b o hb
 refine ⟨?_,h2⟩
 rw[hg.block b (Array.getElem?_eq_some_iff.1 h1).1 (fun e1=>?_)]
 ·exact h1
 ·rcases h.own.2 with ⟨rfl,_⟩ | ⟨g,cap,cur,rfl,_,h3,_⟩
  ·cases e1
  ·simp only[Value.ownBlock,Option.some.injEq] at e1
   subst e1
   rw[h1] at h3
   exact h2 cur (Option.some.inj h3)
theorem _root_.Go.World.ownsG.alloc {w:World} {U:Gd} {e:TypeId} {s:Nat} {v:Value} {n:Nat} {xs:List Value} (h:w.ownsG U e s v n xs) (o:Obj):(w.alloc o).ownsG U e s v n xs :=
 ⟨h.own.alloc o,fun b o' hb=>⟨by rw[heap_alloc_old w o b (Array.getElem?_eq_some_iff.1 (h.kept b o' hb).1).1];exact (h.kept b o' hb).1,(h.kept b o' hb).2⟩⟩
theorem _root_.Go.World.ownsRow.toG {w:World} {u:Nat} {e:TypeId} {s:Nat} {v:Value} {n:Nat} {xs:List Value} (h:w.ownsRow u e s v n xs):w.ownsG ⟨u,Gd.none⟩ e s v n xs:=⟨h,KeptG.none _ _⟩
section
variable {P : Program} {a : Act} {w : World} {r : List Oper} {Q : Exit → Act → World → Prop}
theorem xe {d s x t tx ty p af g e sz U v n xs u m news} (hB:xd P t e sz=true) (hs:a.eval s=v) (hx:a.eval x=u) (hown:w.ownsRow U e sz v n xs) (hU:U<=w.heap.size) (hsrc:Src P sz tx u m news w) (hb:n+m<=big)
  (h:∀ v' w',w'.ownsRow U e sz v' (n+m) (xs++news)->Below U w w'->rO_ P Q r (a.put (some d) v') w') :
  rO_ P Q (⟨some d,.call { callee:=.builtin .append,args:=#[s,x],argTypes:=#[t,tx] },ty,p,af,g⟩::r) a w:=by
 refine st ?_
 obtain ⟨v',w',hr,h1,h2,_⟩:=jr w U t tx ty e sz hB v n xs hown u m news hsrc hb hU
 subst hs;subst hx
 simp only[Oper.wp,execOp,resolve,invoke,builtin,Sem.run_bind,Sem.run_pure,Result.andThen_ok,List.map_toArray,List.map_cons,List.map_nil,hr,Oper.upon_value]
 exact h v' w' h1 (jL hown h2 hU)
theorem jE {d s x t tx ty p af g e sz v n xs u m news} {U:Gd} (hB:xd P t e sz=true) (hs:a.eval s=v) (hx:a.eval x=u) (hown:w.ownsG U e sz v n xs) (hU:U.u<=w.heap.size) (hsrc:Src P sz tx u m news w) (hb:n+m<=big)
  (h:∀ v' w',w'.ownsG U e sz v' (n+m) (xs++news)->Below U.u w w'->rO_ P Q r (a.put (some d) v') w') :
  rO_ P Q (⟨some d,.call { callee:=.builtin .append,args:=#[s,x],argTypes:=#[t,tx] },ty,p,af,g⟩::r) a w:=by
 refine st ?_
 obtain ⟨v',w',hr,h1,h2,_⟩:=jr w U.u t tx ty e sz hB v n xs hown.own u m news hsrc hb hU
 subst hs;subst hx
 simp only[Oper.wp,execOp,resolve,invoke,builtin,Sem.run_bind,Sem.run_pure,Result.andThen_ok,List.map_toArray,List.map_cons,List.map_nil,hr,Oper.upon_value]
 exact h v' w' ⟨h1,hown.stay h2⟩ (jL hown.own h2 hU)
theorem x7 {d c x y ty p af g} (hc:a.eval c=.bool true) (h:rO_ P Q r (a.put (some d) (a.eval x)) w):rO_ P Q (⟨some d,.pick c x y,ty,p,af,g⟩::r) a w:=by
 refine st ?_
 simp only[Oper.wp,execOp,hc,asBool,Sem.run_bind,Sem.run_pure,Result.andThen_ok,Oper.upon_value,if_true]
 exact h
theorem xz {d c x y ty p af g} (hc:a.eval c=.bool false) (h:rO_ P Q r (a.put (some d) (a.eval y)) w):rO_ P Q (⟨some d,.pick c x y,ty,p,af,g⟩::r) a w:=by
 refine st ?_
 simp only[Oper.wp,execOp,hc,asBool,Sem.run_bind,Sem.run_pure,Result.andThen_ok,Oper.upon_value,Bool.false_eq_true,if_false]
 exact h
theorem run_newRow' (e:TypeId) (c:Array Value) (w:World):(newRow e c).run P w=.ok ⟨w.heap.size,0,none⟩ (w.alloc (.cells c e)):=by
 simp[newRow]
theorem xB {d t n ps ty p af g e s} {vs:List Value} (hB:xd P t e s=true) (hp:(ps.map fun (x:Nat × Operand)=>(x.1,a.eval x.2)).toList=(vs.zipIdx 0).map fun x=>(x.2,x.1)) (hn:vs.length=n) (hs:∀ v ∈ vs,v.cells.size=s) (hlim:n*s<=16777216) (hn0:0<n)
  (h:rO_ P Q r (a.put (some d) (.slice (some ⟨w.heap.size,0,none⟩) n n)) (w.alloc (.cells (vs.flatMap fun v=>v.cells.toList).toArray e))) :
  rO_ P Q (⟨some d,.buildSlice t n ps,ty,p,af,g⟩::r) a w:=by
 refine st ?_
 obtain ⟨hu,i,z,hi,hsz,hs0,hz,hzs,_⟩:=xM hB
 have hn':n*s≠0:=Nat.ne_of_gt (Nat.mul_pos hn0 hs0)
 have hf:=Great.fill_whole hs0 vs ((Array.range (n*s)).map (z.cells[· % z.cells.size]!)) hs (by simp[hn])
 have hz':(zeroValue e).run P w=.ok z w:=by simp[zeroValue,typeInfo,hi,hz]
 have hr:(Instr.buildSlice t n (ps.map fun (i,x)=>(i,a.eval x))).run P w=.ok (.slice (some ⟨w.heap.size,0,none⟩) n n) (w.alloc (.cells (vs.flatMap fun v=>v.cells.toList).toArray e)):=by
  have hp':(ps.map fun (i,x)=>(i,a.eval x)).toList=(vs.zipIdx 0).map fun x=>(x.2,x.1):=hp
  have hlim':¬ (n*s>2 ^ 24):=by simp only[Nat.reducePow];omega
  simp only[Instr.buildSlice,Sem.run_bind,run_underlying hu,Result.andThen_ok,jh (rB hB),if_neg hlim',if_neg hn',hz',Sem.run_pure,hp',hf,run_newRow']
 simp only[Oper.wp,execOp,Sem.run_bind,hr,Sem.run_pure,Result.andThen_ok,Oper.upon_value]
 exact h
end
def jT (ops:List Oper) (a:Act) (o:Oper):Bool:=Region.wanted o (yielded ops.toArray a.tmps)
def qI (P:Program) (ops:List Oper) (Q:Exit->Act->World->Prop):List Nat->Act->World->Prop
 | [],a,w=>Q .normal a w
 | i::r,a,w=>∃ o,ops[i]? = some o/\(if jT ops a o=true then o.wp P a w (qI P ops Q r) Q else qI P ops Q r (a.put o.dst undef) w)
section
variable {P : Program} {a : Act} {w : World} {Q : Exit → Act → World → Prop} {ops : List Oper} {r : List Nat}
theorem xF {id:Nat} (h:qI P ops Q (List.range ops.length) a w):vc P (.region id ops.toArray false) Q a w:=by
 refine vc_ops ?_
 have key:∀ (l:List Nat) (a:Act) (w:World),qI P ops Q l a w->wpOps P ops.toArray Q l a w:=by
  intro l
  induction l with
  | nil=>exact fun a w h=>h
  | cons i r ih =>
   rintro a w ⟨o,ho,h⟩
   have ho':ops.toArray[i]? = some o:=by simpa using ho
   simp only[wpOps,ho']
   by_cases hw:jT ops a o=true
   ·rw[if_pos hw] at h
    have hw':Region.wanted o (yielded ops.toArray a.tmps)=true:=hw
    rw[if_pos hw']
    exact .inl (Oper.wp_mono (fun a w=>ih a w) h)
   ·rw[if_neg hw] at h
    have hw':¬ Region.wanted o (yielded ops.toArray a.tmps)=true:=hw
    rw[if_neg hw']
    exact ih _ _ h
 have:=key _ a w h
 simpa using this
theorem qy (h:Q .normal a w):qI P ops Q [] a w:=h
theorem rD {i:Nat} {o:Oper} (ho:ops[i]? = some o) (hw:jT ops a o=true) (h:rO_ P (Exit.then (qI P ops Q r) Q) [o] a w):qI P ops Q (i::r) a w:=by
 refine ⟨o,ho,?_⟩
 rw[if_pos hw]
 have h':o.wp P a w (qI P ops Q r) (Exit.then (qI P ops Q r) Q):=h
 unfold Oper.wp at h' ⊢
 revert h'
 generalize (execOp a.eval o).run P w=res
 intro h
 unfold Oper.upon at h ⊢
 split at h<;>first
  | exact h
  | (exact Calls.mono h (fun e w' hh=>by cases e<;>exact hh))
  | (exact Rows.mono h (fun _ _ hh=>hh))
theorem rT (h:qI P ops Q r a w):Exit.then (qI P ops Q r) Q .normal a w:=h
theorem x6 {i:Nat} {o:Oper} (ho:ops[i]? = some o) (hw:jT ops a o=false) (h:qI P ops Q r (a.put o.dst undef) w):qI P ops Q (i::r) a w:=by
 refine ⟨o,ho,?_⟩
 rw[if_neg (by rw[hw];exact Bool.false_ne_true)]
 exact h
theorem wN {o:Oper} (h:o.guard=none):jT ops a o=true:=by simp[jT,Region.wanted,h]
theorem wS {o:Oper} {j:Nat} {dj:Tmp} {want b:Bool} (h:o.guard=some (j,want)) (hj:(ops[j]?).bind (·.dst)=some dj) (hb:a.eval (.tmp dj)=.bool b):jT ops a o=(b==want):=by
 unfold jT Region.wanted
 rw[h]
 have hy:yielded ops.toArray a.tmps j=some b:=by
  cases hoj:ops[j]? with
  | none=>simp[hoj] at hj
  | some oj=>exact yielded_of (by simpa using hoj) (by simpa [hoj] using hj) hb
 simp[hy]
end
def isPure:Op->Bool
 | .move _ | .assign _ | .load _ _ | .fieldAddr _ _ _ | .indexAddr _ _ _ | .binOp _ _ _ _ _ | .unOp _ _ _ | .convert _ _ _ | .pick _ _ _ | .slice _ _ _ _ _=>true
 | .call c=>match c.callee with | .builtin .len=>true | .builtin .min=>true | .builtin .max=>true | _=>false
 | _=>false
def qF (P:Program) (ops:List Oper) (Q:Exit->Act->World->Prop) (S:World->Prop):List (Nat × Bool)->Act->World->Prop
 | [],a,w=>Q .normal a w
 | (i,true)::r,a,w=>∃ o v,ops[i]? = some o/\YieldsIf P ops.toArray S o v a/\S w/\qF P ops Q S r (a.put o.dst v) w
 | (i,false)::r,a,w=>wpOp P ops.toArray Q i (fun a' w'=>S w'/\qF P ops Q S r a' w') a w
def ordB (ops:Array Oper):List (Nat × Bool)->Array Bool->Bool
 | [],listed=>(Region.ready .any ops listed).isEmpty
 | (i,true)::r,listed=>(Region.ready .any ops listed).contains i&&Region.free .any ops listed i&&ordB ops r (listed.setIfInBounds i true)
 | (i,false)::r,listed=>decide (Region.ready .any ops listed=[i])&&ordB ops r (listed.setIfInBounds i true)
section
variable {P : Program} {a : Act} {w : World} {Q : Exit → Act → World → Prop} {ops : List Oper} {S : World → Prop}
theorem kf (hs:Region.noSelect ops.toArray=true) (hQ:∀ c a a' w,Q (.panic c) a w->Q (.panic c) a' w):∀ (ord:List (Nat × Bool)) (listed:Array Bool) (a:Act) (w:World),ordB ops.toArray ord listed=true →
  qF P ops Q S ord a w->wpAnyH P .any ops.toArray Q S ord.length listed a w
 | [],listed,a,w,hB,h=>by
  simp only[ordB,List.isEmpty_iff] at hB
  exact ⟨hB,h⟩
 | (i,true)::r,listed,a,w,hB,⟨o,v,ho,hy,hS,h⟩=>by
  simp only[ordB,Bool.and_eq_true] at hB
  have ho':ops.toArray[i]? = some o:=by simpa using ho
  exact wpAnyH_take ho' hs hB.1.2 hB.1.1 (fun c a w h=>hQ c _ _ w h) hy hS (kf hs hQ r _ _ w hB.2 h)
 | (i,false)::r,listed,a,w,hB,h=>by
  simp only[ordB,Bool.and_eq_true,decide_eq_true_eq] at hB
  refine wpAnyH_all (rs:=[i]) hB.1 (by simp) ?_
  intro j hj
  simp only[List.mem_singleton] at hj
  subst hj
  exact wpOp_mono (fun a' w' h'=>⟨h'.1,kf hs hQ r _ a' w' hB.2 h'.2⟩) h
theorem vc_runD (ord:List (Nat × Bool)) (S:World->Prop) {id:Nat} (hm:P.follows .mixedOrders=true) (hs:Region.noSelect ops.toArray=true) (hl:ord.length=ops.length) (hB:ordB ops.toArray ord (Array.replicate ops.length false)=true)
  (hQ:∀ c a a' w,Q (.panic c) a w->Q (.panic c) a' w) (h:qF P ops Q S ord a { w with drawn:=w.drawn+1 }):vc P (.region id ops.toArray true) Q a w:=by
 refine vc_draw (fun t=>?_)
 simp only[Region.schedule,hm,Bool.true_or,if_true]
 refine wpAny_sound ops.toArray.size t _ a _ (wpAny_of_held (S:=S) _ _ _ _ ?_)
 have:=kf hs hQ ord _ a _ hB h
 rw[hl] at this
 simpa using this
theorem xx (h:Q .normal a w):qF P ops Q S [] a w:=h
def yq (a:Act) (d:Option Tmp) (v:Value) (w:World):Exit->Act->World->Prop:=fun e a' w'=>e=.normal/\a'=a.put d v/\w'=w
theorem v_value {x:Sem Value} {w w':World} {n:Next} (h:(do let y ← x;pure (Next.value y):Sem Next).run P w=.ok n w'):∃ v,n=.value v:=by
 rw[Sem.run_bind] at h
 cases hx:x.run P w with
 | ok y w1 =>
  rw[hx,Result.andThen_ok,Sem.run_pure] at h
  injection h with h1 _
  exact ⟨_,h1.symm⟩
 | halt s w1 =>
  rw[hx] at h
  cases h
theorem pure_value {ρ : Operand → Value} {o : Oper} (hp : isPure o.op = true) {w w' : World} {n : Next} (h : (execOp ρ o).run P w = .ok n w') : ∃ v, n = .value v := by
  unfold isPure at hp
  unfold execOp at h
  split at hp <;> first | exact absurd hp Bool.false_ne_true | (rename_i heq; rw [heq] at h)
  all_goals first
    | exact v_value h
    | (rw [Sem.run_pure] at h; injection h with h1 _; exact ⟨_, h1.symm⟩)
    | (simp only [Sem.run_bind] at h
       revert h
       generalize Sem.run P (asBool _) w = res
       intro h
       cases res with
       | ok y w1 => rw [Result.andThen_ok, Sem.run_pure] at h; injection h with h1 _; exact ⟨_, h1.symm⟩
       | halt s w1 => cases h)
    | skip
  rename_i c
  split at hp <;> first | exact absurd hp Bool.false_ne_true | skip
  all_goals
    rename_i hc
    simp only [resolve, hc, Sem.run_bind, Sem.run_pure, Result.andThen_ok, invoke, builtin] at h
    refine v_value (x := ?_) (by rw [Sem.run_bind]; simp only [Sem.run_pure]; exact h)
theorem yields_run {o:Oper} {d:Nat} {v:Value} (hp:isPure o.op=true) (hd:o.dst=some d) (hsz:d<a.tmps.size) (h:rO_ P (yq a (some d) v w) [o] a w):(execOp a.eval o).run P w=.ok (.value v) w:=by
 have h':o.wp P a w (yq a (some d) v w .normal) (yq a (some d) v w):=h
 unfold Oper.wp at h'
 cases hr:(execOp a.eval o).run P w with
 | ok n w' =>
  obtain ⟨u,rfl⟩:=pure_value hp hr
  rw[hr] at h'
  simp only[Oper.upon,hd] at h'
  obtain ⟨_,h1,h2⟩:=h'
  subst h2
  have h3:(a.put (some d) u).eval (.tmp d)=(a.put (some d) v).eval (.tmp d):=by rw[h1]
  rw[qB _ _ _ hsz,qB _ _ _ hsz] at h3
  rw[h3]
 | halt x w' =>
  rw[hr] at h'
  cases x<;>simp[Oper.upon,yq] at h'
theorem dP {i d:Nat} {o:Oper} {v:Value} {r:List (Nat × Bool)} (ho:ops[i]? = some o) (hp:isPure o.op=true) (hd:o.dst=some d) (hw:jT ops a o=true) (hsz:d<a.tmps.size) (hS:S w)
  (h:∀ w',S w'->rO_ P (yq a (some d) v w') [o] a w') (k:qF P ops Q S r (a.put (some d) v) w):qF P ops Q S ((i,true)::r) a w :=
 ⟨o,v,ho,.inl ⟨hw,fun w' hS'=>yields_run hp hd hsz (h w' hS')⟩,hS,by rw[hd];exact k⟩
theorem qw {i:Nat} {o:Oper} {r:List (Nat × Bool)} (ho:ops[i]? = some o) (hw:jT ops a o=true) (h:rO_ P (Exit.then (fun a w=>S w/\qF P ops Q S r a w) Q) [o] a w):qF P ops Q S ((i,false)::r) a w:=by
 have ho':ops.toArray[i]? = some o:=by simpa using ho
 show wpOp P ops.toArray Q i _ a w
 unfold wpOp
 have hw':Region.wanted o (yielded ops.toArray a.tmps)=true:=hw
 simp only[ho',hw',if_true]
 left
 have h':o.wp P a w (fun a w=>S w/\qF P ops Q S r a w) (Exit.then (fun a w=>S w/\qF P ops Q S r a w) Q):=h
 unfold Oper.wp at h' ⊢
 revert h'
 generalize (execOp a.eval o).run P w=res
 intro h
 unfold Oper.upon at h ⊢
 split at h<;>first
  | exact h
  | (exact Calls.mono h (fun e w' hh=>by cases e<;>exact hh))
  | (exact Rows.mono h (fun _ _ hh=>hh))
theorem qv {r:List (Nat × Bool)} (hS:S w) (h:qF P ops Q S r a w):Exit.then (fun a w=>S w/\qF P ops Q S r a w) Q .normal a w:=⟨hS,h⟩
end
end Go.Km
namespace Go.Km
open Go Go.RowKit
attribute [local irreducible] vc rO_ qz
theorem wrap_i64 {n:Int} (h0:-9223372036854775808<=n) (h1:n<=9223372036854775807):IntKind.i64.wrap n=n:=IntWalk.i64_in n ⟨h0,h1⟩
section
variable {P : Program} {Q : Exit → Act → World → Prop} {a : Act} {w : World}
set_option maxHeartbeats 1000000 in
theorem m_wloop {E:Env} {T e:TypeId} {s x t b post len cap:Nat} {ad:Option Addr} {body:Code} (hx:a.eval (.tmp x)=.slice ad len cap) (hT:xw P T=some (e,s)) (hlen:len<=9223372036854775806)
  (hxt:x<t) (hpost:t+4<=post) (hsz:post<a.tmps.size) (I:Nat->Act->World->Prop)
  (stab:∀ i a a' w,I i a w->a'.tmps.size=a.tmps.size->a'.defers=a.defers->(∀ k,k<t->a'.eval (.tmp k)=a.eval (.tmp k))->I i a' w)
  (h0:I 0 a w)
  (step:∀ i a' w',i<len->I i a' w'->a'.eval (.tmp (t+2))=.int .i64 (i:Int)->a'.tmps.size=a.tmps.size->a'.eval (.tmp t)=.slice ad len cap →
   vc P body (fun | .normal=>fun a2 w2=>I (i+1) a2 w2/\a2.eval (.tmp (t+2))=a'.eval (.tmp (t+2))/\a2.eval (.tmp (t+1))=a'.eval (.tmp (t+1))/\a2.tmps.size=a'.tmps.size/\a2.eval (.tmp t)=a'.eval (.tmp t) | _=>fun _ _=>False) a' w')
  (done:∀ a' w',I len a' w'->Q .normal a' w'):vc P (wLoop E T x t b post body) Q a w:=by
 unfold wLoop
 refine vX (rM ?_)
 refine qY (ad:=ad) (n:=len) (c:=cap) hT (by simp (disch:=(try simp only[sP]);omega) only[eV,hx]) ?_
 refine rM (dn ?_)
 refine vS (qh ?_)
 refine zU (fun a' w'=>∃ i,i<=len/\I i a' w'/\a'.eval (.tmp (t+2))=.int .i64 (i:Int)/\a'.eval (.tmp (t+1))=.int .i64 (len:Int)/\a'.tmps.size=a.tmps.size/\a'.eval (.tmp t)=.slice ad len cap)
  (fun a' _=>len-(intOf (a'.eval (.tmp (t+2)))).toNat) ?_ ?_
 ·refine ⟨0,Nat.zero_le _,stab 0 a _ w h0 (by simp only[zP]) (by simp only[dF]) (fun k hk=>by simp (disch:=(try simp only[sP]);omega) only[eV]),?_,?_,by simp only[zP],(by simp (disch:=(try simp only[sP]);omega) only[eV,hx])⟩
  ·simp (disch:=(first | omega | (simp only[zP];omega))) only[qB];rfl
  ·simp (disch:=(try simp only[sP]);omega) only[eV]
 rintro a1 w1 ⟨i,hi,hI,h2,h1,hs1,ht0⟩
 refine vX ?_
 refine qW (k:=.i64) (m:=i) (n:=len) h2 h1 ?_
 refine dn ?_
 refine vS (vC (t:=decide ((i:Int)<len)) (by simp (disch:=(try simp only[sP]);omega) only[eV]) ?_ ?_)
 ·intro hlt
  have hlt':i<len:=by simpa using hlt
  refine vK ?_
  refine vS (qh ?_)
  have hI':I i (a1.put (some (t+3)) (.bool (decide ((i:Int)<len)))) w1:=stab i a1 _ w1 hI (zP _ _ _) (dF _ _ _) (fun k hk=>qi _ _ _ _ (by omega))
  refine qZ _ (step i _ w1 hlt' hI' (by rw[qi _ _ _ _ (by omega)];exact h2) (by rw[zP];exact hs1) (by rw[qi _ _ _ _ (by omega)];exact ht0)) ?_
  intro ex a2 w2 h
  cases ex with
  | normal =>
   obtain ⟨hI2,e2,e1,hs2,e0⟩:=h
   have e2':a2.eval (.tmp (t+2))=.int .i64 (i:Int):=by rw[e2,qi _ _ _ _ (by omega)];exact h2
   have e1':a2.eval (.tmp (t+1))=.int .i64 (len:Int):=by rw[e1,qi _ _ _ _ (by omega)];exact h1
   have hs2':a2.tmps.size=a.tmps.size:=by rw[hs2,zP];exact hs1
   refine vX ?_
   refine xP (k:=.i64) (m:=i) (n:=1) e2' rfl ?_
   refine rM (dn (vN ?_))
   have hw:IntKind.i64.wrap ((i:Int)+1)=((i+1:Nat):Int):=by rw[wrap_i64 (by omega) (by omega)];omega
   have hps:post<a2.tmps.size:=by omega
   have e3:((a2.put (some post) (.int .i64 (IntKind.i64.wrap ((i:Int)+1)))).put (some (t+2)) ((a2.put (some post) (.int .i64 (IntKind.i64.wrap ((i:Int)+1)))).eval (.tmp post))).eval (.tmp (t+2))=.int .i64 ((i+1:Nat):Int):=by
    rw[qB _ _ _ (by rw[zP];omega),qB _ _ _ hps,hw]
   refine ⟨⟨i+1,hlt',stab (i+1) a2 _ w2 hI2 (by simp only[zP]) (by simp only[dF]) (fun k hk=>by simp (disch:=(try simp only[sP]);omega) only[eV]),e3,?_,by simp only[zP];exact hs2',?_⟩,?_⟩
   ·rw[qi _ _ _ _ (by omega),qi _ _ _ _ (by omega)];exact e1'
   ·rw[qi _ _ _ _ (by omega),qi _ _ _ _ (by omega),e0,qi _ _ _ _ (by omega)];exact ht0
   ·show len-(intOf _).toNat<len-(intOf _).toNat
    rw[e3,h2]
    simp only[intOf,Int.toNat_natCast]
    omega
  | _=>exact h.elim
 ·intro hge
  have hi':i=len:=by simp at hge;omega
  subst hi'
  refine xc ?_
  show Exit.inBlock b _ (.exit b) _ _
  simp only[Exit.inBlock,if_true]
  exact vN (done _ _ (stab i a1 _ w1 hI (zP _ _ _) (dF _ _ _) (fun k hk=>qi _ _ _ _ (by omega))))
end
end Go.Km
namespace Go.Km
open Go Go.RowKit
attribute [local irreducible] vc rO_ qz
def Wr1 (P:Program) (E:Env) (F:FuncId) (U:Gd) (args:List Value) (bs:List UInt8) (w:World):Prop :=
 ∀ dv (xs:List UInt8),w.ownsG U E.tU8 1 dv xs.length (xs.map bv)->U.u<=w.heap.size->xs.length+bs.length<=big →
  qa P F (#[dv]++args.toArray) w fun v' w'=>w'.ownsG U E.tU8 1 v' (xs++bs).length ((xs++bs).map bv)/\Below U.u w w'
def kW (w:World) (U:Nat) (v:Value):Option (List UInt8)->Prop
 | none=>v=.pointer none
 | some l=>∃ q,v=.pointer (some ⟨q,0,none⟩)/\q<U/\w.cell? ⟨q,0,none⟩=some (.string ⟨l.toArray⟩)
def jp (w:World) (U:Nat) (v:Value):Option (List UInt8)->Prop
 | none=>v=.slice none 0 0
 | some l=>∃ q o cap,v=.slice (some ⟨q,o,none⟩) l.length cap/\q<U/\qb w q o (l.map bv)
structure EnvW (P:Program) (E:Env) (T:List (Nat × List UInt8)->Prop):Prop where
 bytes:xw P E.tB=some (E.tU8,1)
 scal:∀ s,E.wScal s≠0->∀ n (U:Gd) w,s.ok n->Wr1 P E (E.wScal s) U [s.val n] (s.wr n) w
 uuid:E.wUuid≠0->∀ l (U:Gd) w,l.length=16->Wr1 P E E.wUuid U [.agg (l.map bv).toArray] l w
 str:E.wStr≠0->∀ l (U:Gd) w,Wr1 P E E.wStr U [.string ⟨l.toArray⟩] (xS false l) w
 cstr:E.wCStr≠0->∀ l (U:Gd) w,Wr1 P E E.wCStr U [.string ⟨l.toArray⟩] (xS true l) w
 nstr:E.wNStr≠0->∀ v o (U:Gd) w,kW w U.u v o->Wr1 P E E.wNStr U [v] (xL false o) w
 cnstr:E.wCNStr≠0->∀ v o (U:Gd) w,kW w U.u v o->Wr1 P E E.wCNStr U [v] (xL true o) w
 octs:E.wBytes≠0->∀ v o (U:Gd) w,jp w U.u v o->Wr1 P E E.wBytes U [v] (xb false (o.getD [])) w
 cocts:E.wCBytes≠0->∀ v o (U:Gd) w,jp w U.u v o->Wr1 P E E.wCBytes U [v] (xb true (o.getD [])) w
 nocts:E.wNBytes≠0->∀ v o (U:Gd) w,jp w U.u v o->Wr1 P E E.wNBytes U [v] (xm false o) w
 cnocts:E.wCNBytes≠0->∀ v o (U:Gd) w,jp w U.u v o->Wr1 P E E.wCNBytes U [v] (xm true o) w
 len:E.wLen≠0->∀ (n:Nat) (U:Gd) w,n<=big->Wr1 P E E.wLen U [.int .i64 n] (zk false n) w
 clen:E.wCLen≠0->∀ (n:Nat) (U:Gd) w,n<=big->Wr1 P E E.wCLen U [.int .i64 n] (zk true n) w
 nlen:E.wNLen≠0->∀ (n:Nat) (b:Bool) (U:Gd) w,n<=big->Wr1 P E E.wNLen U [.int .i64 n,.bool b] (if b then jb false else zk false n) w
 cnlen:E.wCNLen≠0->∀ (n:Nat) (b:Bool) (U:Gd) w,n<=big->Wr1 P E E.wCNLen U [.int .i64 n,.bool b] (if b then jb true else zk true n) w
 uvar:E.wUvarint≠0->∀ (n:Nat) (U:Gd) w,n<4294967296->Wr1 P E E.wUvarint U [.int .u32 n] (Go.Km.uvar n) w
 tlen:E.tLen≠0->∀ W0 (sb:Sb) b o v tags w,sb.T=T->W0.cell? ⟨b,o,none⟩=some v->xG W0 sb 0 v tags->Below W0.heap.size W0 w →
  qa P E.tLen #[.pointer (some ⟨b,o,none⟩)] w fun r w'=>r=.int .i64 (tags.length:Int)/\Grow w w'
 teach:E.tEach≠0->∀ W0 (sb:Sb) b o v tags w,sb.T=T->W0.cell? ⟨b,o,none⟩=some v->xG W0 sb 0 v tags->Below W0.heap.size W0 w →
  ∀ (G:Nat->Option Obj) dv (xs:List UInt8),w.ownsG ⟨W0.heap.size,G⟩ E.tU8 1 dv xs.length (xs.map bv)->xs.length+((tags.map qR).flatten).length<=big →
   qa P E.tEach #[.pointer (some ⟨b,o,none⟩),dv] w fun v' w' =>
    w'.ownsG ⟨W0.heap.size,G⟩ E.tU8 1 v' (xs++(tags.map qR).flatten).length ((xs++(tags.map qR).flatten).map bv)/\Below W0.heap.size w w'
def wH (P:Program) (t:TypeId) (n:Nat):Bool :=
 match qH P t with
 | some (.agg c)=>c.size==n
 | _=>false
theorem zeroAgg_inv {P:Program} {t n} (h:wH P t n=true):∃ z:List Value,qH P t=some (.agg z.toArray)/\z.length=n:=by
 unfold wH at h
 split at h
 ·rename_i c hc
  exact ⟨c.toList,by simpa using hc,by simpa using h⟩
 ·cases h
def sliceB (P:Program) (t:TypeId) (n:Nat):Bool :=
 match xw P t with
 | some (_,s)=>s==n
 | none=>false
theorem sliceB_inv {P:Program} {t n} (h:sliceB P t n=true):∃ e,xw P t=some (e,n):=by
 unfold sliceB at h
 split at h
 ·rename_i e s hs
  simp only[beq_iff_eq] at h
  subst h
  exact ⟨e,hs⟩
 ·cases h
def ptrB (P:Program) (t:TypeId):Bool :=
 match P.underlying t with
 | some (.pointer _)=>true
 | _=>false
theorem gg {P:Program} {t} (h:ptrB P t=true):∃ e,P.underlying t=some (.pointer e):=by
 unfold ptrB at h
 split at h
 ·rename_i e he
  exact ⟨e,he⟩
 ·cases h
def Cx.ok (x:Cx) (F G:FuncId):Bool:=(G != 0)&&(x.fl.isNone||F != 0)
def Ver.nxt (m:Nat):Ver->Nat
 | .tag k _=>k+1
 | _=>m
def Scal.isInt:Scal->Bool
 | .bool | .f64=>false
 | _=>true
def Ver.okK (P:Program) (E:Env) (x:Cx) (m:Nat) (t:Ty):Ver->Bool
 | .tag k _=>decide (m<=k)&&decide (k<4294967296)&&x.fl.isSome&&xd P E.tU32s E.tW 1&&qQ P E.tW&&E.tW != E.tU8&&(match t with | .scal c _=>c.isInt | .list _ none _=>true | _=>false)
 | _=>true
mutual
def Ty.okW (P:Program) (E:Env) (x:Cx):Ty->Bool
 | .scal s _=>E.wScal s != 0&&qQ P (E.tScal s)
 | .named s T _=>E.wScal s != 0&&qQ P T
 | .uuid=>E.wUuid != 0&&zb P E.tUuid==some 16&&wH P E.tUuid 16
 | .text=>x.ok E.wCStr E.wStr&&qQ P E.tStr
 | .ntext=>x.ok E.wCNStr E.wNStr&&qQ P E.tPStr
 | .ntextFrom _=>x.ok E.wCStr E.wStr&&x.ok E.wCNStr E.wNStr&&qQ P E.tPStr&&qQ P E.tStr&&ptrB P E.tPStr
 | .bytes=>x.ok E.wCBytes E.wBytes&&qQ P E.tB
 | .nbytes=>x.ok E.wCNBytes E.wNBytes&&qQ P E.tB
 | .list TS null e=>(if null.isSome then x.ok E.wCNLen E.wNLen else x.ok E.wCLen E.wLen)&&qQ P TS&&sliceB P TS e.size && !e.arr&&e.okW P E x
 | .struct _ TU _ fs=>fs.okW P E x TU 0 0
 | .nstruct TP TU _ fs PP=>xd P E.tB E.tU8 1&&ptrB P TP&&qQ P TP&&fs.okW P E x TU 0 0
def Flds.okW (P:Program) (E:Env) (x:Cx) (TU:TypeId) (idx off:Nat) (m:Nat:=0):Flds->Bool
 | .nil tags=>x.fl.isNone||(tags&&ql P TU idx==some off&&E.tLen != 0&&E.tEach != 0&&E.wUvarint != 0)
 | .cons v t r=>ql P TU idx==some off&&t.okW P E x&&(v.okK P E x m t&&Flds.okW P E x TU (idx+1) (off+t.size) (v.nxt m) r)
end
structure WSt (P:Program) (E:Env) (W0:World) (G:Nat->Option Obj) (x:Cx) (ver:Nat) (fx:Bool) (a:Act) (w:World) (xs:List UInt8):Prop where
 below:Below W0.heap.size W0 w
 own:w.ownsG ⟨W0.heap.size,G⟩ E.tU8 1 (a.eval (.tmp 1)) xs.length (xs.map bv)
 ver:a.eval (.tmp x.vs)=.int .i16 (ver:Int)
 fl:∀ f,x.fl=some f->a.eval (.tmp f)=.bool fx
def KW (L n t:Nat) (k:Nat):Prop:=k≠1/\(k<n\/(L<=k/\k<t))
theorem KW.mono {L n n' t t':Nat} (hn:n<=n') (ht:t<=t'):∀ k,KW L n t k->KW L n' t' k:=fun k ⟨h1,h2⟩=>⟨h1,by omega⟩
structure WSl (x:Cx) (L n t:Nat) (fx:Bool):Prop where
 one:1<n
 vs:x.vs<n/\x.vs≠1
 fl:∀ f,x.fl=some f->f<n/\f≠1
 no:x.fl=none->fx=false
 nL:n<=L
 Lt:L<=t
theorem WSl.kt {x:Cx} {L n t:Nat} {fx:Bool} (h:WSl x L n t fx):∀ d,t<=d->¬ KW L n t d:=by
 rintro d hd ⟨_,h2⟩
 have:=h.nL;have:=h.Lt
 omega
theorem WSl.k1 {x:Cx} {L n t:Nat} {fx:Bool} (h:WSl x L n t fx):¬ KW L n t 1:=fun h=>h.1 rfl
theorem WSl.up {x:Cx} {L n t n' t':Nat} {fx:Bool} (h:WSl x L n t fx) (hn:n<=n') (hL:n'<=L) (ht:t<=t'):WSl x L n' t' fx :=
 ⟨by have:=h.one;omega,⟨by have:=h.vs.1;omega,h.vs.2⟩,fun f hf=>⟨by have:=(h.fl f hf).1;omega,(h.fl f hf).2⟩,h.no,hL,by have:=h.Lt;omega⟩
section
variable {P : Program} {E : Env} {W0 : World} {sb : Sb} {G : Nat → Option Obj}
theorem WSt.fr {x:Cx} {ver:Nat} {fx:Bool} {a a':Act} {w:World} {xs:List UInt8} {L n t:Nat} (h:WSt P E W0 G x ver fx a w xs) (hs:WSl x L n t fx) (hf:Fr (KW L n t) a a') (h1:a'.eval (.tmp 1)=a.eval (.tmp 1)) :
  WSt P E W0 G x ver fx a' w xs :=
 ⟨h.below,by rw[h1];exact h.own,by rw[hf.slot _ ⟨hs.vs.2,.inl hs.vs.1⟩];exact h.ver,fun f hh=>by rw[hf.slot _ ⟨(hs.fl f hh).2,.inl (hs.fl f hh).1⟩];exact h.fl f hh⟩
theorem WSt.step {x:Cx} {ver:Nat} {fx:Bool} {a a':Act} {w w':World} {xs bs:List UInt8} {v':Value} {L n t:Nat} (h:WSt P E W0 G x ver fx a w xs) (hs:WSl x L n t fx) (hf:Fr (KW L n t) a a') (h1:a'.eval (.tmp 1)=v')
  (hc:w'.ownsG ⟨W0.heap.size,G⟩ E.tU8 1 v' (xs++bs).length ((xs++bs).map bv)/\Below W0.heap.size w w'):WSt P E W0 G x ver fx a' w' (xs++bs) :=
 ⟨h.below.trans hc.2,by rw[h1];exact hc.1,by rw[hf.slot _ ⟨hs.vs.2,.inl hs.vs.1⟩];exact h.ver,fun f hh=>by rw[hf.slot _ ⟨(hs.fl f hh).2,.inl (hs.fl f hh).1⟩];exact h.fl f hh⟩
theorem WSt.size {x:Cx} {ver:Nat} {fx:Bool} {a:Act} {w:World} {xs:List UInt8} (h:WSt P E W0 G x ver fx a w xs):W0.heap.size<=w.heap.size:=h.below.size
def Ty.Holds (W0 w:World) (a:Act) (v:Nat) (cs:List Value) (t:Ty):Prop :=
 match t.tp with
 | some _=>∃ b o,a.eval (.tmp v)=.pointer (some ⟨b,o,none⟩)/\qb W0 b o cs
 | none=>if t.arr then ∃ q,a.eval (.tmp v)=.pointer (some ⟨q,0,none⟩)/\qb w q 0 cs else cs=[a.eval (.tmp v)]
def Ty.WOk (P:Program) (E:Env) (W0:World) (sb:Sb) (ty:Ty):Prop :=
 ∀ (G:Nat->Option Obj) (x:Cx) (ver:Nat) (fx:Bool) (L v n t b B:Nat) (a:Act) (w:World) (xs:List UInt8) (cs:List Value) (d:D) (Q:Exit->Act->World->Prop),
  ty.okW P E x=true->WSl x L n t fx->v<n->v≠1->n+ty.wn<=L->t+ty.wt x<=a.tmps.size →
  WSt P E W0 G x ver fx a w xs->ty.Holds W0 w a v cs->ty.Rep W0 sb B cs d->xs.length+(ty.wr fx ver d).length<=big →
  (∀ a' w',Fr (KW L n t) a a'->WSt P E W0 G x ver fx a' w' (xs++ty.wr fx ver d)->Q .normal a' w')->vc P (sq (ty.wc E x v n t b)) Q a w
def u32v (n:Nat):Value:=.int .u32 n
def KW1 (L n t:Nat) (k:Nat):Prop:=k<n\/(L<=k/\k<t)
structure KX where
 kw:KWr
 p:Option (List UInt8)
structure KX.ok (P:Program) (E:Env) (W0:World) (x:Cx) (ver:Nat) (fx:Bool) (s pb po:Nat) (e:KX):Prop where
 ask:fx=true->∀ (L n t U:Nat) (a:Act) (w:World) (ns:List Nat) (Q:Exit->Act->World->Prop),L<=t->n+1<=L->s<n->t+e.kw.askT<=a.tmps.size->a.eval (.tmp s)=.pointer (some ⟨pb,po,none⟩)->Below W0.heap.size W0 w->U<=w.heap.size->ns.length+1<=big →
  w.ownsRow U E.tW 1 (a.eval (.tmp n)) ns.length (ns.map u32v) →
  (∀ a' w',Fr (KW1 L n t) a a'->w'.ownsRow U E.tW 1 (a'.eval (.tmp n)) (ns++if e.p.isSome then [e.kw.k] else []).length ((ns++if e.p.isSome then [e.kw.k] else []).map u32v)->Below U w w'->Q .normal a' w')->vc P (e.kw.ask n t) Q a w
 cas:∀ pl,e.p=some pl->∀ (G:Nat->Option Obj) (L n t b:Nat) (a:Act) (w:World) (xs:List UInt8) (Q:Exit->Act->World->Prop),WSl x L n t fx->s<n->s≠1->n+e.kw.casN<=L->t+e.kw.casT<=a.tmps.size →
  WSt P E W0 G x ver fx a w xs->a.eval (.tmp s)=.pointer (some ⟨pb,po,none⟩)->xs.length+(qR (e.kw.k,pl)).length<=big →
  (∀ a' w',Fr (KW L n t) a a'->WSt P E W0 G x ver fx a' w' (xs++qR (e.kw.k,pl))->Q .normal a' w')->vc P (e.kw.cas n t b) Q a w
def qC (kt:List KX):List (Nat × List UInt8):=kt.filterMap fun e=>e.p.map fun p=>(e.kw.k,p)
structure KXs (P:Program) (E:Env) (W0:World) (x:Cx) (ver:Nat) (fx:Bool) (s pb po m:Nat) (kt:List KX) (tags:List (Nat × List UInt8)):Prop where
 ok:∀ e ∈ kt,e.ok P E W0 x ver fx s pb po
 lt:∀ e ∈ kt,e.kw.k<m
 asc:kt.Pairwise fun e f=>e.kw.k<f.kw.k
 beh:∀ e ∈ kt,∀ y ∈ tags,e.kw.k<y.1
 fl:kt≠[]->x.fl.isSome=true/\xd P E.tU32s E.tW 1=true/\qQ P E.tW=true/\E.tW≠E.tU8/\∀ e ∈ kt,e.kw.k<4294967296
theorem KXs.nil {P:Program} {E:Env} {W0:World} {x:Cx} {ver:Nat} {fx:Bool} {s pb po m:Nat} {tags:List (Nat × List UInt8)}:KXs P E W0 x ver fx s pb po m [] tags :=
 ⟨fun e h=>by simp at h,fun e h=>by simp at h,List.Pairwise.nil,fun e h=>by simp at h,fun h=>absurd rfl h⟩
def Flds.WOk (P:Program) (E:Env) (W0:World) (sb:Sb) (fs:Flds):Prop :=
 ∀ (G:Nat->Option Obj) (x:Cx) (ver:Nat) (fx:Bool) (L TP TU s idx off n t b B pb po m:Nat) (a:Act) (w:World) (xs:List UInt8) (cs:List Value) (ds:List D) (tags:List (Nat × List UInt8)) (kt:List KX) (Q:Exit->Act->World->Prop),
  fs.okW P E x TU idx off m=true->WSl x L n t fx->s<n->s≠1->n+fs.wn (kt.map (·.kw.casN))<=L->t+fs.wt x (kt.map fun e=>e.kw.askT+(2+e.kw.casT))<=a.tmps.size →
  WSt P E W0 G x ver fx a w xs->a.eval (.tmp s)=.pointer (some ⟨pb,po,none⟩)->qb W0 pb (po+off) cs->fs.Rep W0 sb B cs ds tags->KXs P E W0 x ver fx s pb po m kt tags->xs.length+(fs.wr fx ver ds (qC kt++tags)).length<=big →
  (∀ a' w',Fr (KW L n t) a a'->WSt P E W0 G x ver fx a' w' (xs++fs.wr fx ver ds (qC kt++tags))->Q .normal a' w')->vc P (sq (Flds.wc E x TP TU s idx (kt.map (·.kw)) n t b fs)) Q a w
theorem w_app {F:FuncId} {T:TypeId} {x:Cx} {ver:Nat} {fx:Bool} {L v n t:Nat} {a:Act} {w:World} {xs bs:List UInt8} {arg:Value} {Q:Exit->Act->World->Prop}
  (hs:WSl x L n t fx) (hv:v<n) (hsz:t+3<=a.tmps.size) (hst:WSt P E W0 G x ver fx a w xs) (ha:a.eval (.tmp v)=arg) (hc:Wr1 P E F ⟨W0.heap.size,G⟩ [arg] bs w) (hb:xs.length+bs.length<=big)
  (k:∀ a' w',Fr (KW L n t) a a'->WSt P E W0 G x ver fx a' w' (xs++bs)->Q .normal a' w'):vc P (kK E F T v t) Q a w:=by
 have h1:=hs.one;have h2:=hs.nL;have h3:=hs.Lt
 exact m_app rfl ha (hc _ xs hst.own hst.size hb) hs.kt hs.k1 (by omega) (by omega) hsz (fun a' v' w' hf e hS=>k a' w' hf (hst.step hs hf e hS))
theorem w_flex {F F2:FuncId} {T:TypeId} {x:Cx} {ver:Nat} {fx:Bool} {L v n t:Nat} {a:Act} {w:World} {xs:List UInt8} {bs:Bool->List UInt8} {arg:Value} {Q:Exit->Act->World->Prop}
  (hs:WSl x L n t fx) (hv:v<n) (hv1:v≠1) (hsz:t+x.nt 3<=a.tmps.size) (hst:WSt P E W0 G x ver fx a w xs) (ha:a.eval (.tmp v)=arg)
  (hF:fx=true->Wr1 P E F ⟨W0.heap.size,G⟩ [arg] (bs true) w) (hG:fx=false->Wr1 P E F2 ⟨W0.heap.size,G⟩ [arg] (bs false) w) (hb:xs.length+(bs fx).length<=big)
  (k:∀ a' w',Fr (KW L n t) a a'->WSt P E W0 G x ver fx a' w' (xs++bs fx)->Q .normal a' w'):vc P (kL E x t 3 (kK E F T v) (kK E F2 T v)) Q a w:=by
 have h1:=hs.one;have h2:=hs.nL;have h3:=hs.Lt
 refine m_flex (K:=KW L n t) (fx:=fx) (fun f hf=>⟨hst.fl f hf,by have:=(hs.fl f hf).1;omega⟩) hs.no hs.kt (by omega) hsz ?_ ?_
 ·intro hfx a' t' hf ht' hsz' he
  subst hfx
  refine w_app (n:=n) (L:=L) (hs.up (Nat.le_refl _) hs.nL ht') hv (by rw[hf.size];exact hsz') (hst.fr hs hf (he 1 (by omega))) (by rw[he v (by omega)];exact ha) (hF rfl) hb ?_
  exact fun a2 w2 hf2 hst2=>k a2 w2 (hf.trans (hf2.mono (KW.mono (Nat.le_refl _) ht'))) hst2
 ·intro hfx a' t' hf ht' hsz' he
  subst hfx
  refine w_app (n:=n) (L:=L) (hs.up (Nat.le_refl _) hs.nL ht') hv (by rw[hf.size];exact hsz') (hst.fr hs hf (he 1 (by omega))) (by rw[he v (by omega)];exact ha) (hG rfl) hb ?_
  exact fun a2 w2 hf2 hst2=>k a2 w2 (hf.trans (hf2.mono (KW.mono (Nat.le_refl _) ht'))) hst2
theorem Cx.ok_inv {x:Cx} {F G:FuncId} (h:x.ok F G=true):G≠0/\(∀ fx,(x.fl=none->fx=false)->fx=true->F≠0):=by
 simp only[Cx.ok,Bool.and_eq_true,bne_iff_ne,ne_eq,Bool.or_eq_true] at h
 refine ⟨h.1,fun fx hno hfx=>?_⟩
 rcases h.2 with h | h
 ·cases hx:x.fl with
  | none=>have:=hno hx;rw[this] at hfx;cases hfx
  | some f=>rw[hx] at h;cases h
 ·exact h
theorem wok_scal (H:EnvW P E sb.T) (s:Scal) (df:Int):(Ty.scal s df).WOk P E W0 sb:=by
 intro G x ver fx L v n t b B a w xs cs d Q hok hs hv hv1 hn ht hst hh hr hb k
 simp only[Ty.okW,Bool.and_eq_true,bne_iff_ne,ne_eq] at hok
 cases d with
 | int m =>
  simp only[Ty.Rep] at hr
  simp only[Ty.Holds,Ty.tp,Ty.arr] at hh
  have he:a.eval (.tmp v)=s.val m:=by
   have:=hh.symm.trans hr.1
   simpa using this
  simp only[Ty.wr] at hb k
  simp only[Ty.wc]
  exact w_app hs hv ht hst he (H.scal s hok.1 m _ _ hr.2) hb k
 | _=>exact absurd hr (by simp[Ty.Rep])
theorem wok_named (H:EnvW P E sb.T) (s:Scal) (T:TypeId) (df:Int):(Ty.named s T df).WOk P E W0 sb:=by
 intro G x ver fx L v n t b B a w xs cs d Q hok hs hv hv1 hn ht hst hh hr hb k
 simp only[Ty.okW,Bool.and_eq_true,bne_iff_ne,ne_eq] at hok
 have h1:=hs.one;have h2:=hs.nL;have h3:=hs.Lt
 simp only[Ty.wn] at hn
 simp only[Ty.wt] at ht
 cases d with
 | int m =>
  simp only[Ty.Rep] at hr
  simp only[Ty.Holds,Ty.tp,Ty.arr] at hh
  have he:a.eval (.tmp v)=s.val m:=by
   have:=hh.symm.trans hr.1
   simpa using this
  simp only[Ty.wr] at hb k
  simp only[Ty.wc]
  refine vX (rM (rA (dn ?_)))
  have hf:Fr (KW L n t) a ((a.put (some t) (a.eval (.tmp v))).put (some n) ((a.put (some t) (a.eval (.tmp v))).eval (.tmp t))) :=
   ((Fr.refl _ a).put _ (hs.kt t (Nat.le_refl _))).put _ (by rintro ⟨_,h | h⟩<;>omega)
  have he1:((a.put (some t) (a.eval (.tmp v))).put (some n) ((a.put (some t) (a.eval (.tmp v))).eval (.tmp t))).eval (.tmp 1)=a.eval (.tmp 1):=by simp (disch:=(try simp only[sP]);omega) only[eV]
  have hen:((a.put (some t) (a.eval (.tmp v))).put (some n) ((a.put (some t) (a.eval (.tmp v))).eval (.tmp t))).eval (.tmp n)=s.val m:=by simp (disch:=(try simp only[sP]);omega) only[eV,he]
  refine vS (w_app (n:=n+1) (t:=t+1) (hs.up (by omega) (by omega) (by omega)) (by omega) (by rw[hf.size];omega) (hst.fr hs hf he1) hen (H.scal s hok.1 m _ _ hr.2) hb ?_)
  exact fun a' w' hf' hst'=>vN (k a' w' (hf.trans (hf'.mono (KW.mono (by omega) (by omega)))) hst')
 | _=>exact absurd hr (by simp[Ty.Rep])
theorem wok_uuid (H:EnvW P E sb.T):(Ty.uuid).WOk P E W0 sb:=by
 intro G x ver fx L v n t b B a w xs cs d Q hok hs hv hv1 hn ht hst hh hr hb k
 simp only[Ty.okW,Bool.and_eq_true,bne_iff_ne,ne_eq,beq_iff_eq] at hok
 have h1:=hs.one;have h2:=hs.nL;have h3:=hs.Lt
 cases d with
 | bytes o =>
  cases o with
  | none=>exact absurd hr (by simp[Ty.Rep])
  | some l =>
   simp only[Ty.Rep] at hr
   obtain ⟨hl,rfl⟩:=hr
   simp only[Ty.Holds,Ty.tp,Ty.arr,if_true] at hh
   obtain ⟨q,hq,hc⟩:=hh
   simp only[Ty.wr] at hb k
   simp only[Ty.wc]
   refine vS (m_appArr (K:=KW L n t) rfl hq (by rw[hok.1.2];simp[hl]) hc (H.uuid hok.1.1 l _ _ hl _ xs hst.own hst.size hb) hs.kt hs.k1 (by omega) (by omega) ht ?_)
   exact fun a' v' w' hf e hS=>vN (k a' w' hf (hst.step hs hf e hS))
 | _=>exact absurd hr (by simp[Ty.Rep])
theorem wok_text (H:EnvW P E sb.T):(Ty.text).WOk P E W0 sb:=by
 intro G x ver fx L v n t b B a w xs cs d Q hok hs hv hv1 hn ht hst hh hr hb k
 simp only[Ty.okW,Bool.and_eq_true] at hok
 obtain ⟨hG,hF⟩:=Cx.ok_inv hok.1
 cases d with
 | bytes o =>
  cases o with
  | none=>exact absurd hr (by simp[Ty.Rep])
  | some l =>
   simp only[Ty.Rep] at hr
   simp only[Ty.Holds,Ty.tp,Ty.arr] at hh
   have he:a.eval (.tmp v)=.string ⟨l.toArray⟩:=by
    have:=hh.symm.trans hr
    simpa using this
   simp only[Ty.wr] at hb k
   simp only[Ty.wc]
   exact w_flex (bs:=fun fx=>xS fx l) hs hv hv1 ht hst he (fun hfx=>H.cstr (hF fx hs.no hfx) l _ _) (fun _=>H.str hG l _ _) hb k
 | _=>exact absurd hr (by simp[Ty.Rep])
theorem pstr_of_rep {w:World} {B:Nat} {v:Value} {o:Option (List UInt8)} (hw:Below W0.heap.size W0 w) (h:(Ty.ntext).Rep W0 sb B [v] (.bytes o)):kW w W0.heap.size v o:=by
 cases o with
 | none=>simp only[Ty.Rep] at h;simpa [kW] using h
 | some l =>
  simp only[Ty.Rep] at h
  obtain ⟨q,hv,_,hc⟩:=h
  have hq:=qj hc
  exact ⟨q,by simpa using hv,hq,by rw[hw.cell (p:=⟨q,0,none⟩) hq];exact hc⟩
theorem qb.below {w w':World} {B b o:Nat} {cs:List Value} (h:qb w b o cs) (hw:Below B w w') (hb:b<B):qb w' b o cs :=
 fun i v hv=>by rw[hw.cell (p:=⟨b,o+i,none⟩) hb];exact h i v hv
theorem oct_of_rep {w:World} {B:Nat} {v:Value} {o:Option (List UInt8)} (hw:Below W0.heap.size W0 w) (h:(Ty.nbytes).Rep W0 sb B [v] (.bytes o)):jp w W0.heap.size v o:=by
 cases o with
 | none=>simp only[Ty.Rep] at h;simpa [jp] using h
 | some l =>
  simp only[Ty.Rep] at h
  obtain ⟨q,o,cap,hv,_,hc,hq⟩:=h
  exact ⟨q,o,cap,by simpa using hv,hq,hc.below hw hq⟩
theorem wok_ntext (H:EnvW P E sb.T):(Ty.ntext).WOk P E W0 sb:=by
 intro G x ver fx L v n t b B a w xs cs d Q hok hs hv hv1 hn ht hst hh hr hb k
 simp only[Ty.okW,Bool.and_eq_true] at hok
 obtain ⟨hG,hF⟩:=Cx.ok_inv hok.1
 have hh':cs=[a.eval (.tmp v)]:=by simpa [Ty.Holds,Ty.tp,Ty.arr] using hh
 subst hh'
 cases d with
 | bytes o =>
  have hp:kW w W0.heap.size (a.eval (.tmp v)) o:=pstr_of_rep hst.below hr
  simp only[Ty.wr] at hb k
  simp only[Ty.wc]
  exact w_flex (bs:=fun fx=>xL fx o) hs hv hv1 ht hst rfl (fun hfx=>H.cnstr (hF fx hs.no hfx) _ o _ _ hp) (fun _=>H.nstr hG _ o _ _ hp) hb k
 | _=>exact absurd hr (by simp[Ty.Rep])
theorem r_neNilP {d T x ty p af g ad} {e:TypeId} {a:Act} {w:World} {r:List Oper} {Q:Exit->Act->World->Prop} (hT:P.underlying T=some (.pointer e)) (hx:a.eval x=.pointer ad) (h:rO_ P Q r (a.put (some d) (.bool (!ad.isNone))) w) :
  rO_ P Q (⟨some d,.binOp .neq T x (.const (.pointer none)) T,ty,p,af,g⟩::r) a w:=by
 refine st ?_
 have hb:(binOp .neq T (.pointer ad) (.pointer none)).run P w=.ok (.bool (!ad.isNone)) w:=by
  have h0:∀ k:Nat,(Op.equalIn (k+1) T (.pointer ad) (.pointer none)).run P w=.ok ad.isNone w:=fun k=>by
   cases ad<;>simp[Op.equalIn,run_underlying hT]
  simp only[binOp]
  simp[Op.equal,Op.maxDepth,h0 9999]
 have hg:(eqGuard .neq T x (.const (.pointer none)) (.pointer ad) (.pointer none))=pure ():=by cases ad<;>rfl
 simp only[Oper.wp,execOp,hx,xi,hg,hb,Sem.run_bind,Sem.run_pure,Result.andThen_ok,Oper.upon_value]
 exact h
set_option maxHeartbeats 1000000 in
theorem wok_ntextFrom (H:EnvW P E sb.T) (N:Nat):(Ty.ntextFrom N).WOk P E W0 sb:=by
 intro G x ver fx L v n t b B a w xs cs d Q hok hs hv hv1 hn ht hst hh hr hb k
 simp only[Ty.okW,Bool.and_eq_true] at hok
 obtain ⟨⟨⟨⟨hok1,hok2⟩,hP⟩,hS⟩,hT⟩:=hok
 obtain ⟨hG1,hF1⟩:=Cx.ok_inv hok1
 obtain ⟨hG2,hF2⟩:=Cx.ok_inv hok2
 obtain ⟨te,hT⟩:=gg hT
 have h1:=hs.one;have h2:=hs.nL;have h3:=hs.Lt
 simp only[Ty.wn] at hn
 simp only[Ty.wt] at ht
 have hh':cs=[a.eval (.tmp v)]:=by simpa [Ty.Holds,Ty.tp,Ty.arr] using hh
 subst hh'
 cases d with
 | bytes o =>
  have hr':(Ty.ntext).Rep W0 sb B [a.eval (.tmp v)] (.bytes o):=by cases o<;>simpa [Ty.Rep] using hr
  have hp:kW w W0.heap.size (a.eval (.tmp v)) o:=pstr_of_rep hst.below hr'
  simp only[Ty.wr] at hb k
  simp only[Ty.wc]
  refine vS (m_ifLss (K:=KW L n t) hst.ver (by have:=hs.vs.1;omega) hs.kt (by omega) ?_ ?_)
  ·intro hlt a1 hf1 he1
   rw[if_pos hlt] at hb
   simp only[if_pos hlt] at k
   have hz1:=hf1.size
   have fin:∀ a2,Fr (KW L n t) a a2->a2.eval (.tmp n)=.string ⟨(o.getD []).toArray⟩->a2.eval (.tmp 1)=a.eval (.tmp 1) →
     vc P (sq [rg [qd (t+7) (.tmp n) E.tStr,qc (n+1) (.tmp (t+7)) E.tStr],kL E x (t+8) 3 (kK E E.wCStr E.tStr (n+1)) (kK E E.wStr E.tStr (n+1))]) (Exit.then (vc P (sq []) Q) Q) a2 w:=by
    intro a2 hf2 hen he21
    have hz2:=hf2.size
    refine vX (rM (rA (dn ?_)))
    generalize ha3:Act.put _ (some (n+1)) _=a3
    have hf3:Fr (KW L n t) a a3:=by
     subst ha3
     exact (hf2.put _ (hs.kt _ (by omega))).put _ (by rintro ⟨_,h | h⟩<;>omega)
    have he3:a3.eval (.tmp (n+1))=.string ⟨(o.getD []).toArray⟩:=by subst ha3;simp (disch:=(try simp only[sP]);omega) only[eV,hen]
    have he31:a3.eval (.tmp 1)=a.eval (.tmp 1):=by subst ha3;simp (disch:=(try simp only[sP]);omega) only[eV,he21]
    clear ha3
    refine vS (w_flex (n:=n+2) (L:=L) (t:=t+8) (bs:=fun fx=>xS fx (o.getD [])) (hs.up (by omega) (by omega) (by omega)) (by omega) (by omega) (by rw[hf3.size];omega) (hst.fr hs hf3 he31) he3 (fun hfx=>H.cstr (hF1 fx hs.no hfx) _ _ _) (fun _=>H.str hG1 _ _ _) hb ?_)
    exact fun a4 w4 hf4 hst4=>vN (vN (k a4 w4 (hf3.trans (hf4.mono (KW.mono (by omega) (by omega)))) hst4))
   have hva:a1.eval (.tmp v)=a.eval (.tmp v):=he1 v (by omega)
   have h11:a1.eval (.tmp 1)=a.eval (.tmp 1):=he1 1 (by omega)
   refine vX (rA (dn ?_))
   generalize ha2:Act.put a1 (some n) _=a2
   have hf2:Fr (KW L n t) a a2:=by subst ha2;exact hf1.put _ (by rintro ⟨_,h | h⟩<;>omega)
   have hz2:=hf2.size
   have he2:a2.eval (.tmp n)=.string ⟨#[]⟩:=by subst ha2;simp (disch:=(try simp only[sP]);omega) only[eV]
   have he2v:a2.eval (.tmp v)=a.eval (.tmp v):=by subst ha2;simp (disch:=(try simp only[sP]);omega) only[eV,hva]
   have he21:a2.eval (.tmp 1)=a.eval (.tmp 1):=by subst ha2;simp (disch:=(try simp only[sP]);omega) only[eV,h11]
   clear ha2
   refine vS (vX (rM ?_))
   cases o with
   | none =>
    have hpv:a.eval (.tmp v)=.pointer none:=hp
    refine r_neNilP (ad:=none) hT (by simp (disch:=(try simp only[sP]);omega) only[eV,he2v,hpv]) ?_
    refine dn ?_
    refine vS (vC (t:=false) (by simp (disch:=(try simp only[sP]);omega) only[eV,Option.isNone,Bool.not_true]) (fun h=>by cases h) (fun _=>?_))
    refine vK (vN ?_)
    refine fin _ ((hf2.put _ (hs.kt _ (by omega))).put _ (hs.kt _ (by omega))) ?_ ?_
    ·simp (disch:=(try simp only[sP]);omega) only[eV,he2]
     rfl
    ·simp (disch:=(try simp only[sP]);omega) only[eV,he21]
   | some l =>
    obtain ⟨q,hpv,hq,hqc⟩:=hp
    refine r_neNilP (ad:=some ⟨q,0,none⟩) hT (by simp (disch:=(try simp only[sP]);omega) only[eV,he2v,hpv]) ?_
    refine dn ?_
    refine vS (vC (t:=true) (by simp (disch:=(try simp only[sP]);omega) only[eV,Option.isNone,Bool.not_false]) (fun _=>?_) (fun h=>by cases h))
    refine vR (by simp) ?_
    refine rM ?_
    refine qV (ad:=⟨q,0,none⟩) (by simp (disch:=(try simp only[sP]);omega) only[eV,he2v,hpv]) ?_
    refine rL (b:=q) (o:=0) (v:=.string ⟨l.toArray⟩) (by simp (disch:=(try simp only[sP]);omega) only[eV]) hS hqc ?_
    refine rA (dn (vN ?_))
    refine fin _ ((((((hf2.put _ (hs.kt _ (by omega))).put _ (hs.kt _ (by omega))).put _ (hs.kt _ (by omega))).put _ (hs.kt _ (by omega))).put _ (hs.kt _ (by omega))).put _ (by rintro ⟨_,h | h⟩<;>omega)) ?_ ?_
    ·simp (disch:=(try simp only[sP]);omega) only[eV]
     rfl
    ·simp (disch:=(try simp only[sP]);omega) only[eV,he21]
  ·intro hlt a1 hf1 he1
   rw[if_neg hlt] at hb
   simp only[if_neg hlt] at k
   have hva:a1.eval (.tmp v)=a.eval (.tmp v):=he1 v (by omega)
   have h11:a1.eval (.tmp 1)=a.eval (.tmp 1):=he1 1 (by omega)
   refine w_flex (n:=n) (L:=L) (t:=t+8+x.nt 3) (bs:=fun fx=>xL fx o) (hs.up (Nat.le_refl _) (by omega) (by omega)) hv hv1 (by rw[hf1.size];omega) (hst.fr hs hf1 h11) hva (fun hfx=>H.cnstr (hF2 fx hs.no hfx) _ o _ _ hp) (fun _=>H.nstr hG2 _ o _ _ hp) hb ?_
   exact fun a4 w4 hf4 hst4=>vN (k a4 w4 (hf1.trans (hf4.mono (KW.mono (by omega) (by omega)))) hst4)
 | _=>exact absurd hr (by simp[Ty.Rep])
theorem wok_bytes (H:EnvW P E sb.T):(Ty.bytes).WOk P E W0 sb:=by
 intro G x ver fx L v n t b B a w xs cs d Q hok hs hv hv1 hn ht hst hh hr hb k
 simp only[Ty.okW,Bool.and_eq_true] at hok
 obtain ⟨hG,hF⟩:=Cx.ok_inv hok.1
 have hh':cs=[a.eval (.tmp v)]:=by simpa [Ty.Holds,Ty.tp,Ty.arr] using hh
 subst hh'
 cases d with
 | bytes o =>
  have hr':(Ty.nbytes).Rep W0 sb B [a.eval (.tmp v)] (.bytes o):=by cases o<;>simpa [Ty.Rep] using hr
  have hp:jp w W0.heap.size (a.eval (.tmp v)) o:=oct_of_rep hst.below hr'
  simp only[Ty.wr] at hb k
  simp only[Ty.wc]
  exact w_flex (bs:=fun fx=>xb fx (o.getD [])) hs hv hv1 ht hst rfl (fun hfx=>H.cocts (hF fx hs.no hfx) _ o _ _ hp) (fun _=>H.octs hG _ o _ _ hp) hb k
 | _=>exact absurd hr (by simp[Ty.Rep])
theorem wok_nbytes (H:EnvW P E sb.T):(Ty.nbytes).WOk P E W0 sb:=by
 intro G x ver fx L v n t b B a w xs cs d Q hok hs hv hv1 hn ht hst hh hr hb k
 simp only[Ty.okW,Bool.and_eq_true] at hok
 obtain ⟨hG,hF⟩:=Cx.ok_inv hok.1
 have hh':cs=[a.eval (.tmp v)]:=by simpa [Ty.Holds,Ty.tp,Ty.arr] using hh
 subst hh'
 cases d with
 | bytes o =>
  have hp:jp w W0.heap.size (a.eval (.tmp v)) o:=oct_of_rep hst.below hr
  simp only[Ty.wr] at hb k
  simp only[Ty.wc]
  exact w_flex (bs:=fun fx=>xm fx o) hs hv hv1 ht hst rfl (fun hfx=>H.cnocts (hF fx hs.no hfx) _ o _ _ hp) (fun _=>H.nocts hG _ o _ _ hp) hb k
 | _=>exact absurd hr (by simp[Ty.Rep])
end
end Go.Km
namespace Go.Km
open Go Go.RowKit
attribute [local irreducible] vc rO_ qz
theorem vr (f n:Nat):1<=(uvF f n).length:=by
 cases f with
 | zero=>simp[uvF]
 | succ f=>simp only[uvF];split<;>simp
theorem uvar_pos (n:Nat):1<=(uvar n).length:=vr 9 n
theorem we (tags:List (Nat × List UInt8)):tags.length<=((tags.map qR).flatten).length:=by
 induction tags with
 | nil=>simp
 | cons x l ih =>
  have:=uvar_pos x.1
  simp only[List.map_cons,List.flatten_cons,List.length_cons,List.length_append,qR]
  omega
section
variable {P : Program} {E : Env} {W0 : World} {sb : Sb} {G : Nat → Option Obj}
structure EnvI (P:Program) (E:Env):Prop where
 int:qs P E.tI=some .i64
 u32:qs P E.tW=some .u32
 mixed:P.follows .mixedOrders=true
 bytes:xd P E.tB E.tU8 1=true
theorem ownsRow_grow {w w':World} {B e s:Nat} {v:Value} {n:Nat} {xs:List Value} (h:w.ownsRow B e s v n xs) (hg:Grow w w'):w'.ownsRow B e s v n xs:=by
 refine ⟨h.1,?_⟩
 rcases h.2 with hn | ⟨g,cap,cur,hv,hb,hh,r⟩
 ·exact .inl hn
 ·refine .inr ⟨g,cap,cur,hv,hb,?_,r⟩
  rw[hg.blockEq (Array.getElem?_eq_some_iff.1 hh).1 (fun _ h=>h)]
  exact hh
theorem ws {w w':World} {U:Gd} {e s:Nat} {v:Value} {n:Nat} {xs:List Value} (h:w.ownsG U e s v n xs) (hg:Grow w w'):w'.ownsG U e s v n xs :=
 ⟨ownsRow_grow h.own hg,fun b o hb=>⟨by rw[hg.blockEq (Array.getElem?_eq_some_iff.1 (h.kept b o hb).1).1 (fun _ h=>h)];exact (h.kept b o hb).1,(h.kept b o hb).2⟩⟩
theorem ownsRow_below {w w':World} {B e s:Nat} {v:Value} {n:Nat} {xs:List Value} (h:w.ownsRow B e s v n xs) (hb:Below w.heap.size w w'):w'.ownsRow B e s v n xs:=by
 refine ⟨h.1,?_⟩
 rcases h.2 with hn | ⟨g,cap,cur,hv,hb1,hh,r⟩
 ·exact .inl hn
 ·refine .inr ⟨g,cap,cur,hv,hb1,?_,r⟩
  rw[hb.block g (Array.getElem?_eq_some_iff.1 hh).1]
  exact hh
theorem ownsG_below {w w':World} {U:Gd} {e s:Nat} {v:Value} {n:Nat} {xs:List Value} (h:w.ownsG U e s v n xs) (hb:Below w.heap.size w w'):w'.ownsG U e s v n xs :=
 ⟨ownsRow_below h.own hb,fun b o hg=>⟨by rw[hb.block b (Array.getElem?_eq_some_iff.1 (h.kept b o hg).1).1];exact (h.kept b o hg).1,(h.kept b o hg).2⟩⟩
theorem wD.mono {w:World} {B B':Nat} {v:Value} {l:List UInt8} (h:wD w sb B v l) (hB:B'<=B):wD w sb B' v l:=by
 rcases h with h | ⟨c,o,cap,hv,hc,h⟩
 ·exact .inl h
 ·exact .inr ⟨c,o,cap,hv,hc.imp id (fun h=>by omega),h⟩
theorem xG.mono {w:World} {B B':Nat} {v:Value} {tags:List (Nat × List UInt8)} (h:xG w sb B v tags) (hB:B'<=B):xG w sb B' v tags:=by
 obtain ⟨h1,h0,h2⟩:=h
 refine ⟨h1,h0,?_⟩
 rcases h2 with h2 | ⟨q,es,clock,hv,hq,hs,hm,hb,hn,l,hl,hsz,he⟩
 ·exact .inl h2
 ·refine .inr ⟨q,es,clock,hv,by omega,hs,hm,hb,hn,l,hl,hsz,fun i x hx=>?_⟩
  obtain ⟨e,h1,h2,h3⟩:=he i x hx
  exact ⟨e,h1,h2,h3.mono hB⟩
section
variable {Q : Exit → Act → World → Prop} {a : Act} {w : World} {K : Nat → Prop}
theorem m_tagsA {TP TU:TypeId} {s f t pb po off:Nat} {dv:Value} {n:Nat} {S1:World->Prop} {S:Value->World->Prop} (HI:EnvI P E) (hd:a.eval (.tmp 1)=dv) (hp:a.eval (.tmp s)=.pointer (some ⟨pb,po,none⟩)) (hoff:ql P TU f=some off)
  (hlen:qa P E.tLen #[.pointer (some ⟨pb,po+off,none⟩)] w fun r w'=>r=.int .i64 (n:Int)/\S1 w') (hn:n<4294967296)
  (happ:∀ w1,S1 w1->qa P E.wUvarint #[dv,.int .u32 (n:Int)] w1 S) (ht:∀ d,t<=d->¬ K d) (hk1:¬ K 1) (h1:1<t) (hst:s<t) (hsz:t+9<=a.tmps.size)
  (k:∀ a' v' w',Fr K a a'->a'.eval (.tmp 1)=v'->S v' w'->Q .normal a' w') :
  vc P (rg [qd (t+1) (.tmp 1) E.tB,qd (t+2) (.tmp s) TP,jk (t+3) (.tmp (t+2)),xr (t+4) TU (.tmp (t+3)) f,xf (some (t+5)) E.tLen #[.tmp (t+4)] #[E.tTags] E.tI,
    vP (t+6) E.tI E.tW (.tmp (t+5)),zT (t+7) .add E.tW (.const (.int .u32 0)) (.tmp (t+6)) E.tW E.tW,
    xf (some (t+8)) E.wUvarint #[.tmp (t+1),.tmp (t+7)] #[E.tB,E.tW] E.tB,qc 1 (.tmp (t+8)) E.tB]) Q a w:=by
 have hwr:IntKind.u32.wrap (n:Int)=(n:Int):=IntWalk.u32_in _ ⟨by omega,by omega⟩
 refine vR (by simp) ?_
 refine rM (rM ?_)
 refine qV (ad:=⟨pb,po,none⟩) (by simp (disch:=(try simp only[sP]);omega) only[eV,hp]) ?_
 refine rF (b:=pb) (o:=po) (by simp (disch:=(try simp only[sP]);omega) only[eV]) hoff ?_
 refine q8 (args:=#[.pointer (some ⟨pb,po+off,none⟩)]) ?_ hlen ?_
 ·simp only[lM]
  simp (disch:=(try simp only[sP]);omega) only[eV]
 rintro r w1 ⟨rfl,hs1⟩
 refine qM (k:=.i64) (k':=.u32) (m:=n) HI.int HI.u32 (by simp (disch:=(try simp only[sP]);omega) only[eV]) ?_
 rw[hwr]
 refine xP (k:=.u32) (m:=0) (n:=n) rfl (by simp (disch:=(try simp only[sP]);omega) only[eV]) ?_
 rw[Int.zero_add,hwr]
 refine q8 (args:=#[dv,.int .u32 (n:Int)]) ?_ (happ w1 hs1) ?_
 ·simp only[lM]
  simp (disch:=(try simp only[sP]);omega) only[eV,hd]
 intro v' w2 hs2
 refine rA (dn ?_)
 refine k _ v' w2 ?_ (by simp (disch:=(try simp only[sP]);omega) only[eV]) hs2
 exact (((((((((Fr.refl K a).put _ (ht _ (by omega))).put _ (ht _ (by omega))).put _ (ht _ (by omega))).put _ (ht _ (by omega))).put _ (ht _ (by omega))).put _ (ht _ (by omega))).put _ (ht _ (by omega))).put _ (ht _ (by omega))).put _ hk1
theorem m_tagsB {TP TU:TypeId} {s f t pb po off:Nat} {dv:Value} {S:Value->World->Prop} (hd:a.eval (.tmp 1)=dv) (hp:a.eval (.tmp s)=.pointer (some ⟨pb,po,none⟩)) (hoff:ql P TU f=some off)
  (hc:qa P E.tEach #[.pointer (some ⟨pb,po+off,none⟩),dv] w S) (ht:∀ d,t<=d->¬ K d) (hk1:¬ K 1) (h1:1<t) (hst:s<t) (hsz:t+14<=a.tmps.size)
  (k:∀ a' v' w',Fr K a a'->a'.eval (.tmp 1)=v'->S v' w'->Q .normal a' w') :
  vc P (rg [qd (t+9) (.tmp s) TP,jk (t+10) (.tmp (t+9)),xr (t+11) TU (.tmp (t+10)) f,qd (t+12) (.tmp 1) E.tB,
    xf (some (t+13)) E.tEach #[.tmp (t+11),.tmp (t+12)] #[E.tTags,E.tB] E.tB,qc 1 (.tmp (t+13)) E.tB]) Q a w:=by
 refine vR (by simp) ?_
 refine rM ?_
 refine qV (ad:=⟨pb,po,none⟩) (by simp (disch:=(try simp only[sP]);omega) only[eV,hp]) ?_
 refine rF (b:=pb) (o:=po) (by simp (disch:=(try simp only[sP]);omega) only[eV]) hoff ?_
 refine rM ?_
 refine q8 (args:=#[.pointer (some ⟨pb,po+off,none⟩),dv]) ?_ hc ?_
 ·simp only[lM]
  simp (disch:=(try simp only[sP]);omega) only[eV,hd]
 intro v' w2 hs2
 refine rA (dn ?_)
 refine k _ v' w2 ?_ (by simp (disch:=(try simp only[sP]);omega) only[eV]) hs2
 exact ((((((Fr.refl K a).put _ (ht _ (by omega))).put _ (ht _ (by omega))).put _ (ht _ (by omega))).put _ (ht _ (by omega))).put _ (ht _ (by omega))).put _ hk1
end
theorem yh:∀ (l:List (Nat × List UInt8)) (k:Nat) (p:List UInt8) (r:List (Nat × List UInt8)),(∀ x ∈ l,x.1<k)->(∀ x ∈ r,k<x.1)->qx k p (l++r)=l++(k,p)::r
 | [],k,p,[],_,_=>rfl
 | [],k,p,x::r,_,h=>by
  have:=h x (by simp)
  simp[qx,this]
 | x::l,k,p,r,h1,h2=>by
  have:=h1 x (by simp)
  simp only[List.cons_append,qx]
  rw[if_neg (by omega),if_neg (by omega),yh l k p r (fun y hy=>h1 y (by simp[hy])) h2]
theorem knTags_mem {kt:List KX} {x:Nat × List UInt8} (h:x ∈ qC kt):∃ e ∈ kt,e.kw.k=x.1/\e.p=some x.2:=by
 unfold qC at h
 obtain ⟨e,he,hx⟩:=List.mem_filterMap.1 h
 cases hp:e.p with
 | none=>rw[hp] at hx;cases hx
 | some p =>
  rw[hp] at hx
  simp only[Option.map_some,Option.some.injEq] at hx
  subst hx
  exact ⟨e,he,rfl,hp⟩
theorem knTags_snoc (kt:List KX) (e:KX):qC (kt++[e])=qC kt++(match e.p with | some p=>[(e.kw.k,p)] | none=>[]):=by
 unfold qC
 rw[List.filterMap_append]
 cases hp:e.p<;>simp[hp]
theorem flatten_take' (l:List (Nat × List UInt8)) (i:Nat) (h:i<l.length):((l.take (i+1)).map qR).flatten=((l.take i).map qR).flatten++qR l[i]:=by
 rw[List.take_succ_eq_append_getElem h,List.map_append,List.flatten_append]
 simp
theorem flatten_take_le' (l:List (Nat × List UInt8)) (i:Nat):((l.take i).map qR).flatten.length<=((l.map qR).flatten).length:=by
 have:l=l.take i++l.drop i:=(List.take_append_drop i l).symm
 conv=>rhs;rw[this]
 rw[List.map_append,List.flatten_append,List.length_append]
 omega
theorem KW1.mono {L n t t':Nat} (ht:t<=t'):∀ k,KW1 L n t k->KW1 L n t' k:=fun k h=>h.imp id (fun h=>⟨h.1,by omega⟩)
theorem KW1.kt {L n t:Nat} (hnL:n<=L) (hLt:L<=t):∀ d,t<=d->¬ KW1 L n t d:=by
 rintro d hd (h | h)<;>omega
section
variable {x : Cx} {ver : Nat} {fx : Bool} {s pb po : Nat}
theorem m_asks (hfx:fx=true) {L n U:Nat} {rest:List Code}:∀ (kt:List KX) (t:Nat) (a:Act) (w:World) (ns:List Nat) (Q:Exit->Act->World->Prop),(∀ e ∈ kt,e.ok P E W0 x ver fx s pb po)->L<=t->n+1<=L->s<n->t+qT (kt.map (·.kw))<=a.tmps.size →
  a.eval (.tmp s)=.pointer (some ⟨pb,po,none⟩)->Below W0.heap.size W0 w->W0.heap.size<=U->U<=w.heap.size->ns.length+(qC kt).length+1<=big->w.ownsRow U E.tW 1 (a.eval (.tmp n)) ns.length (ns.map u32v) →
  (∀ a' w',Fr (KW1 L n t) a a'->w'.ownsRow U E.tW 1 (a'.eval (.tmp n)) (ns++(qC kt).map (·.1)).length ((ns++(qC kt).map (·.1)).map u32v)->Below U w w'->vc P (sq rest) Q a' w')->vc P (sq (kwAsks n (kt.map (·.kw)) t++rest)) Q a w
 | [],t,a,w,ns,Q,hok,hL,hn,hs,hsz,hp,hb,hU0,hU,hl,hown,k=>by
  simp only[List.map_nil,kwAsks,List.nil_append]
  exact k a w (Fr.refl _ _) (by simpa [qC] using hown) (Below.refl _ _)
 | e::kt,t,a,w,ns,Q,hok,hL,hn,hs,hsz,hp,hb,hU0,hU,hl,hown,k=>by
  simp only[List.map_cons,kwAsks,List.cons_append]
  simp only[qT,List.map_cons,List.sum_cons] at hsz
  have hkl:(if e.p.isSome then 1 else 0)+(qC kt).length=(qC (e::kt)).length:=by
   unfold qC
   cases hp:e.p<;>simp[hp];omega
  refine vS ((hok e (by simp)).ask hfx L n t U a w ns _ hL hn hs (by omega) hp hb hU (by omega) hown ?_)
  intro a1 w1 hf1 hown1 hb1
  have hz1:=hb1.size
  have hle:(ns++if e.p.isSome then [e.kw.k] else []).length=ns.length+(if e.p.isSome then 1 else 0):=by cases e.p<;>simp
  refine m_asks hfx kt (t+e.kw.askT) a1 w1 _ Q (fun f hf=>hok f (by simp[hf])) (by omega) hn hs (by rw[hf1.size];unfold qT;omega) (by rw[hf1.slot s (.inl hs)];exact hp) (hb.trans (hb1.mono hU0)) hU0 (by omega) (by omega) hown1 ?_
  intro a2 w2 hf2 hown2 hb2
  refine k a2 w2 (hf1.trans (hf2.mono (KW1.mono (by omega)))) ?_ (hb1.trans hb2)
  have he:(ns++if e.p.isSome then [e.kw.k] else [])++(qC kt).map (·.1)=ns++(qC (e::kt)).map (·.1):=by
   unfold qC
   cases hp:e.p<;>simp[hp]
  rw[he] at hown2
  exact hown2
theorem m_chain {G:Nat->Option Obj} {L key k:Nat} {pl:List UInt8}:∀ (kt:List KX) (n t b:Nat) (a:Act) (w:World) (xs:List UInt8) (Q:Exit->Act->World->Prop),(∀ e ∈ kt,e.ok P E W0 x ver fx s pb po)->kt.Pairwise (fun e f=>e.kw.k<f.kw.k)->(k,pl) ∈ qC kt →
  WSl x L n t fx->s<n->s≠1->n+(kt.map (·.kw.casN)).sum<=L->t+zF (kt.map (·.kw))<=a.tmps.size->key<t->L<=key->a.eval (.tmp key)=.int .u32 (k:Int)->WSt P E W0 G x ver fx a w xs->a.eval (.tmp s)=.pointer (some ⟨pb,po,none⟩)->xs.length+(qR (k,pl)).length<=big →
  (∀ a' w',Fr (KW L n t) a a'->WSt P E W0 G x ver fx a' w' (xs++qR (k,pl))->Q .normal a' w')->vc P (gk E key (kt.map (·.kw)) n t b) Q a w
 | [],n,t,b,a,w,xs,Q,hok,has,hm,hs,hsn,hs1,hn,ht,hkt,hLk,hk,hst,hp,hb,kk=>by simp[qC] at hm
 | e::kt,n,t,b,a,w,xs,Q,hok,has,hm,hs,hsn,hs1,hn,ht,hkt,hLk,hk,hst,hp,hb,kk=>by
  have h1:=hs.one;have h2:=hs.nL;have h3:=hs.Lt
  have has':=List.pairwise_cons.1 has
  simp only[List.map_cons,List.sum_cons] at hn
  simp only[zF,List.map_cons,List.sum_cons] at ht
  simp only[List.map_cons,gk]
  refine vX ?_
  refine xA (k:=.u32) (m:=(k:Int)) (n:=(e.kw.k:Int)) (by simp (disch:=(try simp only[sP]);omega) only[eV,hk]) rfl ?_
  refine rA (dn ?_)
  generalize hA:Act.put _ (some t) _=A
  have hf:Fr (KW L n t) a A:=by subst hA;exact ((Fr.refl _ a).put _ (hs.kt _ (by omega))).put _ (hs.kt _ (by omega))
  have he:∀ j,j<t->A.eval (.tmp j)=a.eval (.tmp j):=by intro j hj;subst hA;simp (disch:=(try simp only[sP]);omega) only[eV]
  have hc:A.eval (.tmp t)=.bool ((k:Int)==(e.kw.k:Int)):=by subst hA;simp (disch:=(try simp only[sP]);omega) only[eV]
  have hz:=hf.size
  clear hA
  have hst':=hst.fr hs hf (he 1 (by omega))
  have hmem:(k,pl) ∈ qC (e::kt):=hm
  refine vS (vC (t:=((k:Int)==(e.kw.k:Int))) hc ?_ ?_)
  ·intro hkk
   have hkk:k=e.kw.k:=by
    have:=eq_of_beq hkk
    omega
   have hpe:e.p=some pl:=by
    obtain ⟨f,hf1,hf2,hf3⟩:=knTags_mem hmem
    rcases List.mem_cons.1 hf1 with rfl | hf1
    ·exact hf3
    ·have:=has'.1 f hf1
     simp only at hf2
     omega
   rw[hkk] at hb kk
   refine (hok e (by simp)).cas pl hpe G L n (t+2) b A w xs _ (hs.up (Nat.le_refl _) hs.nL (by omega)) hsn hs1 (by omega) (by rw[hz];omega) hst' (by rw[he s (by omega)];exact hp) hb ?_
   intro a' w' hf2 hst2
   exact vN (kk a' w' (hf.trans (hf2.mono (KW.mono (Nat.le_refl _) (by omega)))) hst2)
  ·intro hkk
   have hkk:k≠e.kw.k:=fun h=>by rw[h] at hkk;simp at hkk
   have hm':(k,pl) ∈ qC kt:=by
    unfold qC at hmem ⊢
    rw[List.filterMap_cons] at hmem
    cases hpe:e.p with
    | none=>simpa [hpe] using hmem
    | some q =>
     simp only[hpe,Option.map_some,List.mem_cons,Prod.mk.injEq] at hmem
     rcases hmem with ⟨h,_⟩ | h
     ·exact absurd h hkk
     ·exact h
   refine qZ _ (m_chain kt (n+e.kw.casN) (t+2+e.kw.casT) (b+e.kw.casB) A w xs (fun ex a' w'=>ex=.normal/\Q .normal a' w') (fun f hf=>hok f (by simp[hf])) has'.2 hm' (hs.up (by omega) (by omega) (by omega)) (by omega) hs1 (by omega) (by rw[hz];unfold zF;omega) (by omega) hLk (by rw[he key (by omega)];exact hk) hst' (by rw[he s (by omega)];exact hp) hb ?_) ?_
   ·intro a' w' hf2 hst2
    exact ⟨rfl,kk a' w' (hf.trans (hf2.mono (KW.mono (by omega) (by omega)))) hst2⟩
   ·rintro ex a' w' ⟨rfl,hq⟩
    exact vN hq
end
def jW (G:Nat->Option Obj) (v:Value) (w:World):Nat->Option Obj:=fun b=>if v.ownBlock=some b then w.heap[b]? else G b
theorem keepRow_ok {G:Nat->Option Obj} {w w0:World} {U0 U n:Nat} {v dv:Value} {e e2:TypeId} {m:Nat} {zs xs:List Value} (hne:e≠e2) (hown:w.ownsG ⟨U0,G⟩ e2 1 dv m xs) (hr:w.ownsRow U e 1 v n zs):w.ownsG ⟨U0,jW G v w⟩ e2 1 dv m xs:=by
 refine ⟨hown.own,fun b o hb=>?_⟩
 unfold jW at hb
 simp only at hb
 split at hb
 ·rename_i hv
  rcases hr.2 with ⟨rfl,_⟩ | ⟨g,cap,cur,rfl,_,h3,_⟩
  ·cases hv
  ·simp only[Value.ownBlock,Option.some.injEq] at hv
   subst hv
   rw[h3] at hb
   cases hb
   exact ⟨h3,fun cur' h=>by cases h;exact hne rfl⟩
 ·exact hown.kept b o hb
theorem gm {G:Nat->Option Obj} {w w':World} {U0 U n:Nat} {v dv:Value} {e e2:TypeId} {m:Nat} {zs xs:List Value} (hr:w.ownsRow U e 1 v n zs) (h:w'.ownsG ⟨U0,jW G v w⟩ e2 1 dv m xs) :
  ∃ ad cap,v=.slice ad n cap/\∀ j u,zs[j]? = some u->∃ g,ad=some ⟨g,0,none⟩/\w'.cell? ⟨g,j,none⟩=some u:=by
 rcases hr.2 with ⟨rfl,rfl⟩ | ⟨g,cap,cur,rfl,hb,h3,h4,h5,h6,h7⟩
 ·refine ⟨none,0,rfl,fun j u hu=>?_⟩
  have:zs=[]:=List.eq_nil_of_length_eq_zero (by simpa using hr.1)
  subst this
  simp at hu
 ·refine ⟨some ⟨g,0,none⟩,cap,rfl,fun j u hu=>⟨g,rfl,?_⟩⟩
  have h8:=hr.cells (g:=g) rfl j u hu
  rw[Addr.add_lit,Nat.zero_add] at h8
  have h9:=(h.kept g (.cells cur e (0,0)) (by simp[jW,Value.ownBlock,h3])).1
  rw[World.cell?_of_block (w:=w) (w':=w') (a:=⟨g,j,none⟩) (by rw[h9,h3])]
  exact h8
theorem keepRow_back {G:Nat->Option Obj} {w w0 w':World} {U0 U n:Nat} {v dv dv0:Value} {e e2:TypeId} {m m0:Nat} {zs xs xs0:List Value} (h0:w0.ownsG ⟨U0,G⟩ e2 1 dv0 m0 xs0) (hU:w0.heap.size<=U) (hr:w.ownsRow U e 1 v n zs) (h:w'.ownsG ⟨U0,jW G v w⟩ e2 1 dv m xs):w'.ownsG ⟨U0,G⟩ e2 1 dv m xs:=by
 refine ⟨h.own,fun b o hb=>?_⟩
 refine h.kept b o ?_
 unfold jW
 simp only
 rw[if_neg ?_]
 ·exact hb
 ·intro hv
  have h1:=(Array.getElem?_eq_some_iff.1 (h0.kept b o hb).1).1
  have h2:=(hr.lt b hv).1
  omega
theorem wTagsK_eq (E:Env) (x:Cx) (TP TU:TypeId) (s f n t b:Nat) (kt:List KWr) (fl:Nat) (h:x.fl=some fl):wTagsK E x TP TU s f n t b kt =
  [sq [rg [qd t (.tmp fl) E.tO],.cond (.tmp t) (sq (rg [qc n (.const (.slice none 0 0)) E.tU32s]::(kwAsks n kt (t+1) ++
   [rg [qd (t+1+qT kt) (.tmp 1) E.tB,qd (t+1+qT kt+1) (.tmp n) E.tU32s,xI (t+1+qT kt+2) .len #[.tmp (t+1+qT kt+1)] #[E.tU32s] E.tI,qd (t+1+qT kt+3) (.tmp s) TP,jk (t+1+qT kt+4) (.tmp (t+1+qT kt+3)),xr (t+1+qT kt+5) TU (.tmp (t+1+qT kt+4)) f,
    xf (some (t+1+qT kt+6)) E.tLen #[.tmp (t+1+qT kt+5)] #[E.tTags] E.tI,zT (t+1+qT kt+7) .add E.tI (.tmp (t+1+qT kt+2)) (.tmp (t+1+qT kt+6)) E.tI E.tI,vP (t+1+qT kt+8) E.tI E.tW (.tmp (t+1+qT kt+7)),
    xf (some (t+1+qT kt+9)) E.wUvarint #[.tmp (t+1+qT kt),.tmp (t+1+qT kt+8)] #[E.tB,E.tW] E.tB,qc 1 (.tmp (t+1+qT kt+9)) E.tB],
    wLoop E E.tU32s n (t+1+qT kt+10) b (t+1+qT kt+17+zF kt) (sq [rg [j3 (t+1+qT kt+14) E.tU32s (.tmp (t+1+qT kt+10)) (.tmp (t+1+qT kt+12)),kE (t+1+qT kt+15) E.tW (.tmp (t+1+qT kt+14)),qc (n+2) (.tmp (t+1+qT kt+15)) E.tW],
       rg [qd (t+1+qT kt+16) (.tmp (n+2)) E.tW],.block (b+2) (gk E (t+1+qT kt+16) kt (n+3) (t+1+qT kt+17) (b+3))]),
    rg [qd (t+1+qT kt+17+zF kt+1) (.tmp s) TP,jk (t+1+qT kt+17+zF kt+2) (.tmp (t+1+qT kt+17+zF kt+1)),xr (t+1+qT kt+17+zF kt+3) TU (.tmp (t+1+qT kt+17+zF kt+2)) f,qd (t+1+qT kt+17+zF kt+4) (.tmp 1) E.tB,
    xf (some (t+1+qT kt+17+zF kt+5)) E.tEach #[.tmp (t+1+qT kt+17+zF kt+3),.tmp (t+1+qT kt+17+zF kt+4)] #[E.tTags,E.tB] E.tB,qc 1 (.tmp (t+1+qT kt+17+zF kt+5)) E.tB]]))) .skip]]:=by
 unfold wTagsK
 rw[h]
 rfl
theorem kwT_sum:∀ kt:List KX,qT (kt.map (·.kw))+zF (kt.map (·.kw))=(kt.map fun e=>e.kw.askT+(2+e.kw.casT)).sum
 | []=>rfl
 | e::l=>by
  have ih:=kwT_sum l
  unfold qT zF at ih ⊢
  simp only[List.map_cons,List.sum_cons] at ih ⊢
  omega
set_option maxHeartbeats 2000000 in
theorem wok_nilK (H:EnvW P E sb.T) (HI:EnvI P E) {tg:Bool} {x:Cx} {ver:Nat} {fx:Bool} {L TP TU s idx off n t b B pb po m:Nat} {a:Act} {w:World} {xs:List UInt8} {cs:List Value} {ds:List D} {tags:List (Nat × List UInt8)} {kt:List KX} {Q:Exit->Act->World->Prop} (hne:kt≠[])
  (hok:(Flds.nil tg).okW P E x TU idx off m=true) (hs:WSl x L n t fx) (hsn:s<n) (hs1:s≠1) (hn:n+(3+(kt.map (·.kw.casN)).sum)<=L) (ht:t+(1+17+(kt.map fun e=>e.kw.askT+(2+e.kw.casT)).sum+1+5)<=a.tmps.size)
  (hst:WSt P E W0 G x ver fx a w xs) (hp:a.eval (.tmp s)=.pointer (some ⟨pb,po,none⟩)) (hc:qb W0 pb (po+off) cs) (hr:(Flds.nil tg).Rep W0 sb B cs ds tags) (hkx:KXs P E W0 x ver fx s pb po m kt tags) (hb:xs.length+((Flds.nil tg).wr fx ver ds (qC kt++tags)).length<=big)
  (k:∀ a' w',Fr (KW L n t) a a'->WSt P E W0 G x ver fx a' w' (xs++(Flds.nil tg).wr fx ver ds (qC kt++tags))->Q .normal a' w'):vc P (sq (wTagsK E x TP TU s idx n t b (kt.map (·.kw)))) Q a w:=by
 have h1:=hs.one;have h2:=hs.nL;have h3:=hs.Lt
 obtain ⟨hfl,hrow,hone,hneq,hk32⟩:=hkx.fl hne
 obtain ⟨f,hx⟩:=Option.isSome_iff_exists.1 hfl
 simp only[Flds.okW,hx,Option.isNone_some,Bool.false_or,Bool.and_eq_true,bne_iff_ne,ne_eq,beq_iff_eq] at hok
 obtain ⟨⟨⟨⟨rfl,hoff⟩,htl⟩,hte⟩,hu⟩:=hok
 cases ds with
 | cons d ds=>exact absurd hr (by simp[Flds.Rep])
 | nil =>
 simp only[Flds.Rep,if_true] at hr
 obtain ⟨v,rfl,htr0⟩:=hr
 have htr:=htr0.mono (Nat.zero_le B)
 have hcv:W0.cell? ⟨pb,po+off,none⟩=some v:=by have:=hc 0 v rfl;simpa using this
 have hflv:=hst.fl f hx
 have hfn:=hs.fl f hx
 have hT:qT (kt.map (·.kw))+zF (kt.map (·.kw))=(kt.map fun e=>e.kw.askT+(2+e.kw.casT)).sum:=kwT_sum kt
 rw[wTagsK_eq E x TP TU s idx n t b _ f hx]
 generalize hq1:qT (kt.map (·.kw))=q1 at *
 generalize hq2:zF (kt.map (·.kw))=q2 at *
 refine vS (vX (rM (dn ?_)))
 have hf0:Fr (KW L n t) a (a.put (some t) (a.eval (.tmp f))):=(Fr.refl _ a).put _ (hs.kt t (Nat.le_refl _))
 have hst0:=hst.fr hs hf0 (qi _ _ _ _ (by omega))
 have hz0:=hf0.size
 refine vS (vC (t:=fx) (by simp (disch:=(try simp only[sP]);omega) only[eV,hflv]) ?_ ?_)
 ·intro hfx
  subst hfx
  simp only[Flds.wr,if_true] at hb k
  have htb:=we (qC kt++tags)
  simp only[zX,List.length_append] at hb htb
  have hup:=uvar_pos ((qC kt).length+tags.length)
  have hlt:(qC kt).length+tags.length<4294967296:=by unfold big at hb;omega
  refine vX (rA (dn ?_))
  generalize hA:Act.put _ (some n) _=A
  have hfA:Fr (KW L n t) a A:=by subst hA;exact hf0.put _ (by rintro ⟨_,h | h⟩<;>omega)
  have hA1:A.eval (.tmp 1)=a.eval (.tmp 1):=by subst hA;simp (disch:=(try simp only[sP]);omega) only[eV]
  have hAn:A.eval (.tmp n)=.slice none 0 0:=by subst hA;simp (disch:=(try simp only[sP]);omega) only[eV]
  have hzA:=hfA.size
  clear hA
  have hstA:=hst.fr hs hfA hA1
  have hpA:A.eval (.tmp s)=.pointer (some ⟨pb,po,none⟩):=by rw[hfA.slot s ⟨hs1,.inl hsn⟩];exact hp
  refine m_asks rfl (L:=L) (n:=n) (U:=w.heap.size) kt (t+1) A w [] _ hkx.ok (by omega) (by omega) hsn (by rw[hzA,hq1];omega) hpA hst.below hst.size (Nat.le_refl _) (by simp only[List.length_nil];omega) (by rw[hAn];exact World.ownsRow_nil _ _ _ _) ?_
  intro a1 w1 hf1 hown1 hb1
  have hz1:=hf1.size
  have hw1:=hb1.size
  simp only[List.nil_append] at hown1
  have hfa1:Fr (KW L n t) a a1:=hfA.trans (hf1.mono (fun j hj=>hj.2.imp id (fun h=>⟨h.1,by omega⟩)))
  have h11:a1.eval (.tmp 1)=a.eval (.tmp 1):=by rw[hf1.slot 1 (.inl (by omega)),hA1]
  have hsl1:∀ j,j<n->a1.eval (.tmp j)=A.eval (.tmp j):=fun j hj=>hf1.slot j (.inl hj)
  have hownG:w1.ownsG ⟨W0.heap.size,jW G (a1.eval (.tmp n)) w1⟩ E.tU8 1 (a1.eval (.tmp 1)) xs.length (xs.map bv):=by
   rw[h11]
   exact keepRow_ok (w0:=w) (fun h=>hneq h) (ownsG_below hst.own hb1) hown1
  have hst1:WSt P E W0 (jW G (a1.eval (.tmp n)) w1) x ver true a1 w1 xs :=
   ⟨hst.below.trans (hb1.mono hst.size),hownG,by rw[hsl1 _ hs.vs.1];exact hstA.ver,fun g hg=>by rw[hsl1 _ (hs.fl g hg).1];exact hstA.fl g hg⟩
  have hp1:a1.eval (.tmp s)=.pointer (some ⟨pb,po,none⟩):=by rw[hsl1 s hsn];exact hpA
  obtain ⟨ad,cap,htv,_⟩:=gm hown1 hownG
  have hnl:((qC kt).map (·.1)).length=(qC kt).length:=by simp
  have hwa:IntKind.i64.wrap ((((qC kt).map (·.1)).length:Int)+(tags.length:Int))=(((qC kt).length+tags.length:Nat):Int):=by rw[hnl,wrap_i64 (by omega) (by omega)];omega
  have hwu:IntKind.u32.wrap (((qC kt).length+tags.length:Nat):Int)=(((qC kt).length+tags.length:Nat):Int):=IntWalk.u32_in _ ⟨by omega,by omega⟩
  generalize hG1:jW G (a1.eval (.tmp n)) w1=G1 at *
  refine vX (rM (rM ?_))
  refine qY (ad:=ad) (n:=((qC kt).map (·.1)).length) (c:=cap) (rB hrow) (by simp (disch:=(try simp only[sP]);omega) only[eV,htv]) ?_
  refine rM ?_
  refine qV (ad:=⟨pb,po,none⟩) (by simp (disch:=(try simp only[sP]);omega) only[eV,hp1]) ?_
  refine rF (b:=pb) (o:=po) (by simp (disch:=(try simp only[sP]);omega) only[eV]) hoff ?_
  refine q8 (args:=#[.pointer (some ⟨pb,po+off,none⟩)]) ?_ (H.tlen htl W0 sb pb (po+off) v tags w1 rfl hcv htr hst1.below) ?_
  ·simp only[lM]
   simp (disch:=(try simp only[sP]);omega) only[eV]
  rintro r w2 ⟨rfl,hg2⟩
  refine xP (k:=.i64) (m:=(((qC kt).map (·.1)).length:Int)) (n:=(tags.length:Int)) (by simp (disch:=(try simp only[sP]);omega) only[eV]) (by simp (disch:=(try simp only[sP]);omega) only[eV]) ?_
  rw[hwa]
  refine qM (k:=.i64) (k':=.u32) (m:=(((qC kt).length+tags.length:Nat):Int)) HI.int HI.u32 (by simp (disch:=(try simp only[sP]);omega) only[eV]) ?_
  rw[hwu]
  refine q8 (args:=#[a1.eval (.tmp 1),.int .u32 (((qC kt).length+tags.length:Nat):Int)]) ?_ (H.uvar hu ((qC kt).length+tags.length) ⟨W0.heap.size,G1⟩ w2 hlt _ xs (ws hst1.own hg2) (by have:=hg2.size;have:=hst1.size;show W0.heap.size<=_;omega) (by omega)) ?_
  ·simp only[lM]
   simp (disch:=(try simp only[sP]);omega) only[eV]
  intro v3 w3 hS3
  refine rA (dn ?_)
  generalize hB:Act.put _ (some 1) _=Bf
  have hfB:Fr (KW L (n+3) t) a1 Bf:=by
   subst hB
   exact ((((((((((((Fr.refl _ a1).put _ (by rintro ⟨_,h | h⟩<;>omega)).put _ (by rintro ⟨_,h | h⟩<;>omega)).put _ (by rintro ⟨_,h | h⟩<;>omega)).put _ (by rintro ⟨_,h | h⟩<;>omega)).put _ (by rintro ⟨_,h | h⟩<;>omega)).put _ (by rintro ⟨_,h | h⟩<;>omega)).put _ (by rintro ⟨_,h | h⟩<;>omega)).put _ (by rintro ⟨_,h | h⟩<;>omega)).put _ (by rintro ⟨_,h | h⟩<;>omega)).put _ (by rintro ⟨_,h | h⟩<;>omega)).put _ (fun h=>h.1 rfl))
  have hB1:Bf.eval (.tmp 1)=v3:=by subst hB;simp (disch:=(try simp only[sP]);omega) only[eV]
  have hzB:=hfB.size
  clear hB
  have hst3:WSt P E W0 G1 x ver true Bf w3 (xs++uvar ((qC kt).length+tags.length)):=by
   have h4:=hst1.step (hs.up (n':=n+3) (t':=t) (by omega) (by omega) (Nat.le_refl _)) hfB hB1 (w':=w3) (bs:=uvar ((qC kt).length+tags.length)) ⟨hS3.1,(hg2.below.mono hst1.size).trans hS3.2⟩
   exact h4
  have hnB:Bf.eval (.tmp n)=.slice ad ((qC kt).map (·.1)).length cap:=by rw[hfB.slot n ⟨by omega,.inl (by omega)⟩];exact htv
  have hpB:Bf.eval (.tmp s)=.pointer (some ⟨pb,po,none⟩):=by rw[hfB.slot s ⟨hs1,.inl (by omega)⟩];exact hp1
  have hfaB:Fr (KW L n t) a Bf:=hfa1.trans (hfB.mono (KW.mono (by omega) (Nat.le_refl _)))
  let I:Nat->Act->World->Prop:=fun i a' w'=>Fr (KW L n t) a a'/\WSt P E W0 G1 x ver true a' w' (xs++uvar ((qC kt).length+tags.length)++(((qC kt).take i).map qR).flatten)
  have stab:∀ i a' a2 w',I i a' w'->a2.tmps.size=a'.tmps.size->a2.defers=a'.defers->(∀ j,j<t+1+q1+10->a2.eval (.tmp j)=a'.eval (.tmp j))->I i a2 w':=by
   rintro i a' a2 w' ⟨hfr,hw⟩ hsz hdf hsl
   refine ⟨⟨hsz.trans hfr.size,hdf.trans hfr.defers,fun j hj=>?_⟩,⟨hw.below,by rw[hsl 1 (by omega)];exact hw.own,by rw[hsl x.vs (by have:=hs.vs.1;omega)];exact hw.ver,fun g hg=>by rw[hsl g (by have:=(hs.fl g hg).1;omega)];exact hw.fl g hg⟩⟩
   rw[hsl j (by have:=hj.2;omega)]
   exact hfr.slot j hj
  refine vS (m_wloop hnB (rB hrow) (by rw[hnl];unfold big at hb;omega) (by omega) (by omega) (by rw[hzB,hz1,hzA];omega) I stab ⟨hfaB,by simpa using hst3⟩ ?_ ?_)
  ·intro i a2 w2' hi ⟨hfr2,hw2⟩ hcnt hsz2 ht02
   rw[hnl] at hi
   have hi':i<(qC kt).length:=hi
   obtain ⟨_,_,hadc,hcell⟩:=gm (U0:=W0.heap.size) (G:=G) (w':=w2') (dv:=a2.eval (.tmp 1)) (e2:=E.tU8) hown1 (by rw[hG1];exact hw2.own)
   rw[htv] at hadc
   cases hadc
   obtain ⟨g,rfl,hcl⟩:=hcell i (u32v (qC kt)[i].1) (by simp[hi'])
   have hmem:(qC kt)[i] ∈ qC kt:=List.getElem_mem hi'
   have hone1:(u32v (qC kt)[i].1).oneCell'=true:=rfl
   refine vX ?_
   refine qA (j:=i) (k:=.i64) (b:=g) (o:=0) (len:=((qC kt).map (·.1)).length) (cap:=cap) (rB hrow) (by simp (disch:=(try simp only[sP]);omega) only[eV,ht02]) (by simp (disch:=(try simp only[sP]);omega) only[eV,hcnt]) (by rw[hnl];exact hi) ?_
   refine rL (b:=g) (o:=0+i*1) (by simp (disch:=(try simp only[sP]);omega) only[eV]) hone (by rw[Nat.zero_add,Nat.mul_one];exact hcl) ?_
   refine rA (dn (vX (rM (dn ?_))))
   generalize hC:Act.put _ (some (t+1+q1+16)) _=C
   have hfC:Fr (KW L (n+2) (t+1+q1+14)) a2 C:=by
    subst hC
    exact ((((Fr.refl _ a2).put _ (by rintro ⟨_,h | h⟩<;>omega)).put _ (by rintro ⟨_,h | h⟩<;>omega)).put _ (by rintro ⟨_,h | h⟩<;>omega)).put _ (by rintro ⟨_,h | h⟩<;>omega)
   have hC1:C.eval (.tmp 1)=a2.eval (.tmp 1):=by subst hC;simp (disch:=(try simp only[sP]);omega) only[eV]
   have hCk:C.eval (.tmp (t+1+q1+16))=.int .u32 ((qC kt)[i].1:Int):=by
    subst hC
    simp (disch:=(try simp only[sP]);omega) only[eV]
    rfl
   have hzC:=hfC.size
   clear hC
   have hs2:WSl x L (n+2) (t+1+q1+14) true:=hs.up (by omega) (by omega) (by omega)
   have hstC:=hw2.fr hs2 hfC hC1
   have htk:=flatten_take' (qC kt) i hi'
   have hle:=flatten_take_le' (qC kt) (i+1)
   rw[htk,List.length_append] at hle
   have heta:(qR ((qC kt)[i].1,(qC kt)[i].2)).length=(qR (qC kt)[i]).length:=rfl
   simp only[List.map_append,List.flatten_append,List.length_append] at hb
   refine vS (qh (m_chain (G:=G1) (L:=L) (key:=t+1+q1+16) (k:=(qC kt)[i].1) (pl:=(qC kt)[i].2) kt (n+3) (t+1+q1+17) (b+2+1) C w2' _ _ hkx.ok hkx.asc hmem (hs.up (by omega) (by omega) (by omega)) (by omega) hs1 (by omega) (by rw[hq2,hzC,hsz2,hzB,hz1,hzA];omega) (by omega) (by omega) hCk hstC (by rw[hfC.slot s ⟨hs1,.inl (by omega)⟩,hfr2.slot s ⟨hs1,.inl hsn⟩];exact hp) (by simp only[List.length_append];omega) ?_))
   intro a3 w3' hf3 hst3'
   refine vN ⟨⟨(hfr2.trans (hfC.mono (KW.mono (by omega) (by omega)))).trans (hf3.mono (KW.mono (by omega) (by omega))),?_⟩,?_,?_,?_,?_⟩
   ·rw[htk]
    simpa [List.append_assoc] using hst3'
   ·rw[hf3.slot _ ⟨by omega,.inr ⟨by omega,by omega⟩⟩,hfC.slot _ ⟨by omega,.inr ⟨by omega,by omega⟩⟩]
   ·rw[hf3.slot _ ⟨by omega,.inr ⟨by omega,by omega⟩⟩,hfC.slot _ ⟨by omega,.inr ⟨by omega,by omega⟩⟩]
   ·rw[hf3.size,hzC]
   ·rw[hf3.slot _ ⟨by omega,.inr ⟨by omega,by omega⟩⟩,hfC.slot _ ⟨by omega,.inr ⟨by omega,by omega⟩⟩]
  ·rintro a2 w2' ⟨hfr2,hw2⟩
   rw[hnl,List.take_length] at hw2
   have hp2:a2.eval (.tmp s)=.pointer (some ⟨pb,po,none⟩):=by rw[hfr2.slot s ⟨hs1,.inl hsn⟩];exact hp
   have hz2:=hfr2.size
   simp only[List.map_append,List.flatten_append,List.length_append] at hb
   refine vX (rM ?_)
   refine qV (ad:=⟨pb,po,none⟩) (by simp (disch:=(try simp only[sP]);omega) only[eV,hp2]) ?_
   refine rF (b:=pb) (o:=po) (by simp (disch:=(try simp only[sP]);omega) only[eV]) hoff ?_
   refine rM ?_
   refine q8 (args:=#[.pointer (some ⟨pb,po+off,none⟩),a2.eval (.tmp 1)]) ?_ (H.teach hte W0 sb pb (po+off) v tags w2' rfl hcv htr hw2.below G1 _ _ hw2.own (by simp only[List.length_append];omega)) ?_
   ·simp only[lM]
    simp (disch:=(try simp only[sP]);omega) only[eV]
   intro v4 w4 hS4
   refine rA (dn ?_)
   generalize hD:Act.put _ (some 1) _=Df
   have hfD:Fr (KW L n t) a2 Df:=by
    subst hD
    exact ((((((Fr.refl _ a2).put _ (hs.kt _ (by omega))).put _ (hs.kt _ (by omega))).put _ (hs.kt _ (by omega))).put _ (hs.kt _ (by omega))).put _ (hs.kt _ (by omega))).put _ hs.k1
   have hD1:Df.eval (.tmp 1)=v4:=by subst hD;simp (disch:=(try simp only[sP]);omega) only[eV]
   clear hD
   have hst4:=hw2.step hs hfD hD1 hS4
   refine vN (vN (vN (k Df w4 (hfr2.trans hfD) ?_)))
   have hback:w4.ownsG ⟨W0.heap.size,G⟩ E.tU8 1 (Df.eval (.tmp 1)) _ _:=keepRow_back hst.own (Nat.le_refl _) hown1 (by rw[hG1];exact hst4.own)
   have hfin:WSt P E W0 G x ver true Df w4 _:=⟨hst4.below,hback,hst4.ver,hst4.fl⟩
   simpa [zX,List.append_assoc] using hfin
 ·intro hfx
  subst hfx
  refine vK (vN (vN (k _ w hf0 ?_)))
  simpa [Flds.wr] using hst0
end
end Go.Km
namespace Go.Km
open Go Go.RowKit
section
variable {P : Program} {Q : Exit → Act → World → Prop} {a : Act} {w : World} {l : Nat} {J : Act → World → Prop} {c : Code} {r : List Code}
theorem vq (hx:findLabel c l=none) (hr:r≠[]) (h:qL P l J (sq r) Q):qL P l J (sq (c::r)) Q:=by
 cases r with
 | nil=>exact absurd rfl hr
 | cons d r=>exact vcFrom_next hx h
theorem vcFrom_lab (hr:r≠[]) (h:∀ a w,J a w->vc P (sq r) Q a w):qL P l J (sq (.label l::r)) Q:=by
 cases r with
 | nil=>exact absurd rfl hr
 | cons d r=>exact vcFrom_here h
theorem vc_label' (h:Q .normal a w):vc P (.label l) Q a w:=h
theorem vc_goto' (h:Q (.goto l) a w):vc P (.goto l) Q a w:=h
end
attribute [local irreducible] vc rO_ qz qI qF
def freeP (ap:List (Nat × Nat)) (ops:Array Oper) (listed:Array Bool) (i:Nat):Bool :=
 decide (i<ops.size)&&(List.range ops.size).all fun j=>j==i||listed.getD j true||match ops[j]? with
  | some oj=>oj.after.any (fun e=>Region.binds .any e&&e.on==i)||ap.contains (i,j)
  | none=>true
def ordP (ap:List (Nat × Nat)) (ops:Array Oper):List (Nat × Bool)->Array Bool->Bool
 | [],listed=>(Region.ready .any ops listed).isEmpty
 | (i,true)::r,listed=>(Region.ready .any ops listed).contains i&&freeP ap ops listed i&&ordP ap ops r (listed.setIfInBounds i true)
 | (i,false)::r,listed=>decide (Region.ready .any ops listed=[i])&&ordP ap ops r (listed.setIfInBounds i true)
theorem freeP_ok {ap:List (Nat × Nat)} {ops:Array Oper} (hap:∀ p ∈ ap,∀ x y,ops[p.1]? = some x->ops[p.2]? = some y->x.apart ops y=true) {listed:Array Bool} {i:Nat} (h:freeP ap ops listed i=true):Region.free .any ops listed i=true:=by
 unfold freeP at h
 unfold Region.free
 simp only[Bool.and_eq_true,decide_eq_true_eq] at h
 obtain ⟨hi,h⟩:=h
 rw[Array.getElem?_eq_getElem hi]
 simp only[List.all_eq_true] at h ⊢
 intro j hj
 have:=h j hj
 revert this
 cases ho:ops[j]? with
 | none=>simp
 | some oj =>
  simp only[Bool.or_eq_true]
  rintro (h | h | h)
  ·exact .inl h
  ·exact .inr (.inl h)
  ·exact .inr (.inr (hap (i,j) (by simpa using h) _ _ (Array.getElem?_eq_getElem hi) ho))
theorem ordP_ok {ap:List (Nat × Nat)} {ops:Array Oper} (hap:∀ p ∈ ap,∀ x y,ops[p.1]? = some x->ops[p.2]? = some y->x.apart ops y=true):∀ (l:List (Nat × Bool)) (listed:Array Bool),ordP ap ops l listed=true->ordB ops l listed=true
 | [],listed,h=>h
 | (i,true)::r,listed,h=>by
  simp only[ordP,ordB,Bool.and_eq_true] at h ⊢
  exact ⟨⟨h.1.1,freeP_ok hap h.1.2⟩,ordP_ok hap r _ h.2⟩
 | (i,false)::r,listed,h=>by
  simp only[ordP,ordB,Bool.and_eq_true] at h ⊢
  exact ⟨h.1,ordP_ok hap r _ h.2⟩
theorem tne {x y:Nat} (h:x≠y):¬ (@Eq Tmp x y):=h
theorem noPanic {P:Program} {a:Act} {w:World} {Q:Exit->Act->World->Prop} {c:Code} (h:vc P c (fun e a w=>(∀ k,e≠.panic k)/\Q e a w) a w):vc P c Q a w:=qZ _ h (fun e a w h=>h.2)
theorem own_form {w:World} {U n:Nat} {e:TypeId} {v:Value} {xs:List Value} (h:w.ownsRow U e 1 v n xs):∃ ad cap,v=.slice ad n cap/\n<=cap:=by
 rcases h.2 with ⟨rfl,rfl⟩ | ⟨g,cap,cur,rfl,_,_,h4,_⟩
 ·exact ⟨none,0,rfl,Nat.le_refl _⟩
 ·exact ⟨_,cap,rfl,h4⟩
theorem own_cut {w:World} {U n cap m:Nat} {e:TypeId} {ad:Option Addr} {xs:List Value} (h:w.ownsRow U e 1 (.slice ad n cap) n xs) (hm:m<=n):w.ownsRow U e 1 (.slice ad m cap) m (xs.take m):=by
 refine ⟨by rw[List.length_take,h.1];omega,?_⟩
 rcases h.2 with ⟨h1,rfl⟩ | ⟨g,cap',cur,h1,h2,h3,h4,h5,h6,h7⟩
 ·cases h1
  have:m=0:=by omega
  subst this
  exact .inl ⟨rfl,rfl⟩
 ·cases h1
  refine .inr ⟨g,_,cur,rfl,h2,h3,by omega,h5,h6,?_⟩
  rw[← h7,List.take_take]
  congr 1
  omega
section
variable {P : Program} {E : Env} {W0 : World} {sb : Sb} {G : Nat → Option Obj}
theorem w_put (H:EnvW P E sb.T) (HI:EnvI P E) {x:Cx} {ver:Nat} {fx:Bool} {L n n0 t:Nat} {a:Act} {w:World} {xs ys:List UInt8} {Q:Exit->Act->World->Prop} (hu:E.wUvarint≠0)
  (hs:WSl x L n0 t fx) (hsz:t+9<=a.tmps.size) (hnt:n<t) (hst:WSt P E W0 G x ver fx a w (xs++ys)) (hn:a.eval (.tmp n)=.int .i64 (xs.length:Int)) (hb:xs.length+ys.length<=big) (hb2:xs.length+(uvar ys.length).length<=big)
  (kk:∀ a' w',Fr (KW L n0 t) a a'->WSt P E W0 G x ver fx a' w' (xs++uvar ys.length)->Q .normal a' w'):vc P (kwPut E n t) Q a w:=by
 have h1:=hs.one;have h2:=hs.nL;have h3:=hs.Lt
 have hbig:big<=2147483000:=Nat.le_refl _
 obtain ⟨ad,cap,hv,hcap⟩:=own_form hst.own.own
 simp only[List.length_append] at hv hcap
 have hsl:=rB HI.bytes
 unfold kwPut
 refine noPanic ?_
 refine vc_runD [(0,true),(1,true),(2,true),(3,true),(4,true),(5,true),(6,true),(7,true),(8,false),(9,false)] (fun _=>True) HI.mixed (by kernel_rfl) rfl (ordP_ok (ap:=[(0,1),(0,3),(0,4),(0,5),(0,6),(0,7),(0,8),(1,3),(1,4),(1,5),(1,6),(1,7),(1,8),(2,3),(2,4),(2,5),(2,6),(2,7),(3,4),(3,6),(3,7),(3,8),(4,6),(4,7),(4,8),(5,7),(5,8),(6,8)]) ?_ _ _ (by kernel_rfl)) (fun c _ _ _ h=>absurd rfl (h.1 c)) ?_
 ·simp only[List.forall_mem_cons,List.mem_nil_iff,false_imp_iff,implies_true,and_true,List.getElem?_toArray,List.getElem?_cons_succ,List.getElem?_cons_zero,Option.some.injEq]
  repeat' apply And.intro
  all_goals (rintro x y rfl rfl;simp[Oper.apart,Oper.looksAt,Op.operands,Call.operands]<;>((repeat' apply And.intro)<;>exact tne (by omega)))
 refine dP rfl rfl rfl (wN rfl) (by first | omega | (simp only[zP];omega)) trivial (fun w' _=>rM (dn ⟨rfl,rfl,rfl⟩)) ?_
 refine dP rfl rfl rfl (wN rfl) (by first | omega | (simp only[zP];omega)) trivial (fun w' _=>rM (dn ⟨rfl,rfl,rfl⟩)) ?_
 refine dP (v:=.slice ad xs.length cap) rfl rfl rfl (wN rfl) (by first | omega | (simp only[zP];omega)) trivial (fun w' _=>jV 0 xs.length cap (ad:=ad) (len:=xs.length+ys.length) (cap:=cap) hsl (by simp (disch:=(try simp only[sP]);omega) only[eV,hv]) rfl ⟨.i64,(by simp (disch:=(try simp only[sP]);omega) only[eV,hn])⟩ rfl (Nat.zero_le _) (by omega) (Nat.le_refl _) (dn ⟨rfl,by cases ad<;>simp[Addr.add_zero'],rfl⟩)) ?_
 refine dP rfl rfl rfl (wN rfl) (by first | omega | (simp only[zP];omega)) trivial (fun w' _=>rM (dn ⟨rfl,rfl,rfl⟩)) ?_
 refine dP rfl rfl rfl (wN rfl) (by first | omega | (simp only[zP];omega)) trivial (fun w' _=>rM (dn ⟨rfl,rfl,rfl⟩)) ?_
 refine dP rfl rfl rfl (wN rfl) (by first | omega | (simp only[zP];omega)) trivial (fun w' _=>jV xs.length (xs.length+ys.length) cap (ad:=ad) (len:=xs.length+ys.length) (cap:=cap) hsl (by simp (disch:=(try simp only[sP]);omega) only[eV,hv]) ⟨.i64,(by simp (disch:=(try simp only[sP]);omega) only[eV,hn])⟩ ⟨rfl,rfl⟩ rfl (by omega) hcap (Nat.le_refl _) (dn ⟨rfl,rfl,rfl⟩)) ?_
 rw[show xs.length+ys.length-xs.length=ys.length by omega]
 generalize (if cap=xs.length then ad else ad.map (·.add (xs.length*1)))=ad2
 refine dP rfl rfl rfl (wN rfl) (by first | omega | (simp only[zP];omega)) trivial (fun w' _=>qY (ad:=ad2) (n:=ys.length) (c:=cap-xs.length) hsl (by simp (disch:=(try simp only[sP]);omega) only[eV]) (dn ⟨rfl,rfl,rfl⟩)) ?_
 refine dP rfl rfl rfl (wN rfl) (by first | omega | (simp only[zP];omega)) trivial (fun w' _=>qM (k:=.i64) (k':=.u32) (m:=(ys.length:Int)) HI.int HI.u32 (by simp (disch:=(try simp only[sP]);omega) only[eV]) (dn ⟨rfl,rfl,rfl⟩)) ?_
 rw[show IntKind.u32.wrap (ys.length:Int)=(ys.length:Int) from IntWalk.u32_in _ ⟨by omega,by omega⟩]
 have hbw:Below w.heap.size w { w with drawn:=w.drawn+1 }:=⟨rfl,rfl,rfl,Nat.le_refl _,fun _ _=>rfl⟩
 have hcut:World.ownsG { w with drawn:=w.drawn+1 } ⟨W0.heap.size,G⟩ E.tU8 1 (.slice ad xs.length cap) xs.length (xs.map bv):=by
  have h0:=ownsG_below hst.own hbw
  rw[List.length_append,hv] at h0
  refine ⟨?_,h0.kept⟩
  have:=own_cut h0.own (m:=xs.length) (by omega)
  rwa [List.map_append,List.take_left' (by simp)] at this
 refine qw rfl (wN rfl) ?_
 refine q8 (args:=#[.slice ad xs.length cap,.int .u32 (ys.length:Int)]) ?_ (H.uvar hu ys.length ⟨W0.heap.size,G⟩ _ (by omega) _ xs hcut hst.size hb2) ?_
 ·simp only[lM]
  simp (disch:=(try simp only[sP]);omega) only[eV]
 intro v' w' hS
 refine dn (qv trivial ?_)
 refine qw rfl (wN rfl) ?_
 refine rA ?_
 refine dn (qv trivial (xx ?_))
 refine ⟨(fun _ h=>by cases h),?_⟩
 generalize hA:Act.put _ (some 1) _=A
 have hf:Fr (KW L n0 t) a A:=by
  subst hA
  exact ((((((((((Fr.refl _ a).put _ (hs.kt _ (by omega))).put _ (hs.kt _ (by omega))).put _ (hs.kt _ (by omega))).put _ (hs.kt _ (by omega))).put _ (hs.kt _ (by omega))).put _ (hs.kt _ (by omega))).put _ (hs.kt _ (by omega))).put _ (hs.kt _ (by omega))).put _ (hs.kt _ (by omega))).put _ hs.k1
 have hA1:A.eval (.tmp 1)=v':=by subst hA;simp (disch:=(try simp only[sP]);omega) only[eV]
 clear hA
 refine kk A w' hf ⟨hst.below.trans ((hbw.mono hst.size).trans hS.2),by rw[hA1];exact hS.1,by rw[hf.slot _ ⟨hs.vs.2,.inl hs.vs.1⟩];exact hst.ver,fun f hh=>by rw[hf.slot _ ⟨(hs.fl f hh).2,.inl (hs.fl f hh).1⟩];exact hst.fl f hh⟩
theorem w_uv (H:EnvW P E sb.T) {x:Cx} {ver:Nat} {fx:Bool} {L n t k:Nat} {a:Act} {w:World} {xs:List UInt8} {Q:Exit->Act->World->Prop} (hu:E.wUvarint≠0) (hk:k<4294967296)
  (hs:WSl x L n t fx) (hsz:t+2<=a.tmps.size) (hst:WSt P E W0 G x ver fx a w xs) (hb:xs.length+(uvar k).length<=big)
  (kk:∀ a' w',Fr (KW L n t) a a'->WSt P E W0 G x ver fx a' w' (xs++uvar k)->Q .normal a' w'):vc P (kwUv E k t) Q a w:=by
 have h1:=hs.one;have h2:=hs.nL;have h3:=hs.Lt
 refine vR (by simp) ?_
 refine rM ?_
 refine q8 (args:=#[a.eval (.tmp 1),.int .u32 (k:Int)]) ?_ (H.uvar hu k ⟨W0.heap.size,G⟩ w hk _ xs hst.own hst.size hb) ?_
 ·simp only[List.map_toArray,List.map_cons,List.map_nil,u32]
  simp (disch:=(try simp only[sP]);omega) only[eV]
 intro v' w' hS
 refine rA (dn ?_)
 have hf:∀ v1 v2 v3,Fr (KW L n t) a (((a.put (some t) v1).put (some (t+1)) v2).put (some 1) v3):=fun _ _ _=>(((Fr.refl _ a).put _ (hs.kt _ (Nat.le_refl _))).put _ (hs.kt _ (by omega))).put _ hs.k1
 exact kk _ w' (hf _ _ _) (hst.step hs (hf _ _ _) (by simp (disch:=(try simp only[sP]);omega) only[eV]) hS)
theorem w_sized (H:EnvW P E sb.T) (HI:EnvI P E) {x:Cx} {ver:Nat} {fx:Bool} {L n t m k lb:Nat} {a:Act} {w:World} {xs pl:List UInt8} {first:Code} {body:List Code} {u:Value} {Q:Exit->Act->World->Prop} (hu:E.wUvarint≠0) (hk:k<4294967296)
  (hs:WSl x L n t fx) (hn:n+3<=L) (hsz:t+19+m<=a.tmps.size) (hfl:findLabel first lb=none) (hst:WSt P E W0 G x ver fx a w xs) (hb:xs.length+(qR (k,pl)).length<=big)
  (hfirst:∀ Q1:Exit->Act->World->Prop,(∀ a1,Fr (KW L n t) a a1->a1.eval (.tmp 1)=a.eval (.tmp 1)->a1.eval (.tmp n)=u->Q1 .normal a1 w)->vc P first Q1 a w)
  (hbody:∀ (a1:Act) (w1:World) (ys:List UInt8) (Q1:Exit->Act->World->Prop),Fr (KW L n t) a a1->a1.eval (.tmp n)=u->WSt P E W0 G x ver fx a1 w1 ys->ys.length+pl.length<=big →
   (∀ a2 w2,Fr (KW L (n+3) (t+8)) a1 a2->WSt P E W0 G x ver fx a2 w2 (ys++pl)->Q1 .normal a2 w2)->vc P (sq body) Q1 a1 w1)
  (kk:∀ a' w',Fr (KW L n t) a a'->WSt P E W0 G x ver fx a' w' (xs++qR (k,pl))->Q .normal a' w') :
  vc P (kwSized E first k lb n t body m) Q a w:=by
 unfold kwSized
 have h1:=hs.one;have h2:=hs.nL;have h3:=hs.Lt
 have hbig:big<=2147483000:=Nat.le_refl _
 simp only[qR,List.length_append] at hb
 have hup:=uvar_pos k
 have hs3:WSl x L (n+3) (t+8) fx:=hs.up (by omega) (by omega) (by omega)
 have ht0:∀ d,t<=d->¬ KW L n t d:=hs.kt
 have hn0:∀ d,n<=d->d<L->¬ KW L n t d:=by rintro d hd hd2 ⟨_,h | h⟩<;>omega
 -- the end
 have tail:∀ (z:Bool) (a1:Act) (w1:World) (ys:List UInt8) (Q1:Exit->Act->World->Prop),Fr (KW L n t) a a1->a1.eval (.tmp n)=u->a1.eval (.tmp (n+1))=.bool z->(z=false->a1.eval (.tmp (n+2))=.int .i64 (ys.length:Int))->WSt P E W0 G x ver fx a1 w1 ys->ys.length+pl.length<=big->(z=false->ys.length+(uvar pl.length).length<=big) →
   (z=true->∀ a2 w2,Fr (KW L n t) a a2->WSt P E W0 G x ver fx a2 w2 (ys++pl)->Q1 .normal a2 w2) →
   (z=false->∀ a2 w2,Fr (KW L n t) a a2->a2.eval (.tmp n)=u->a2.eval (.tmp (n+1))=.bool true->WSt P E W0 G x ver fx a2 w2 (ys++uvar pl.length)->Q1 (.goto lb) a2 w2) →
   vc P (sq (body++[rg [qd (t+8+m) (.tmp (n+1)) E.tO,oUn (t+9+m) .not E.tO (.tmp (t+8+m)) E.tO],
    .cond (.tmp (t+9+m)) (sq [kwPut E (n+2) (t+10+m),rg [qc (n+1) (.const (.bool true)) E.tO],.goto lb]) .skip])) Q1 a1 w1:=by
  intro z a1 w1 ys Q1 hf1 e0 e1 e2 hst1 hb1 hb2 kn kg
  have hz1:=hf1.size
  refine zB (hbody a1 w1 ys _ hf1 e0 hst1 hb1 ?_)
  intro a2 w2 hf2 hst2
  have hz2:=hf2.size
  show vc P (sq _) Q1 a2 w2
  have hf2':Fr (KW L n t) a a2:=hf1.trans (hf2.mono (KW.mono (by omega) (by omega)))
  have g0:a2.eval (.tmp n)=u:=by rw[hf2.slot n ⟨by omega,.inl (by omega)⟩];exact e0
  have g1:a2.eval (.tmp (n+1))=.bool z:=by rw[hf2.slot (n+1) ⟨by omega,.inl (by omega)⟩];exact e1
  have g2:z=false->a2.eval (.tmp (n+2))=.int .i64 (ys.length:Int):=fun h=>by rw[hf2.slot (n+2) ⟨by omega,.inl (by omega)⟩];exact e2 h
  refine vX (rM ?_)
  refine zq (b:=z) (by simp (disch:=(try simp only[sP]);omega) only[eV,g1]) ?_
  refine dn ?_
  generalize hA:Act.put _ (some (t+9+m)) _=A
  have hfA:Fr (KW L (n+3) (t+8)) a2 A:=by
   subst hA
   exact ((Fr.refl _ a2).put _ (hs3.kt _ (by omega))).put _ (hs3.kt _ (by omega))
  have hA9:A.eval (.tmp (t+9+m))=.bool (!z):=by subst hA;simp (disch:=(try simp only[sP]);omega) only[eV]
  have hA1:A.eval (.tmp 1)=a2.eval (.tmp 1):=by subst hA;simp (disch:=(try simp only[sP]);omega) only[eV]
  have hzA:=hfA.size
  clear hA
  have hstA:=hst2.fr hs3 hfA hA1
  have hfA':Fr (KW L n t) a A:=hf2'.trans (hfA.mono (KW.mono (by omega) (by omega)))
  refine vS (vC hA9 ?_ ?_)
  ·intro hz
   have hz:z=false:=by simpa using hz
   refine vS (w_put H HI (n0:=n+3) hu (hs3.up (Nat.le_refl _) (by omega) (by omega)) (by rw[hzA,hz2,hz1];omega) (by omega) hstA (by rw[hfA.slot (n+2) ⟨by omega,.inl (by omega)⟩];exact g2 hz) hb1 (hb2 hz) ?_)
   intro a3 w3 hf3 hst3
   have hz3:=hf3.size
   show vc P (sq _) _ a3 w3
   refine vX (rA (dn ?_))
   refine vS (vc_goto' ?_)
   have hf4:Fr (KW L n t) a (a3.put (some (n+1)) (a3.eval (.const (.bool true)))):=(hfA'.trans (hf3.mono (KW.mono (by omega) (by omega)))).put _ (hn0 _ (by omega) (by omega))
   refine kg hz _ w3 hf4 ?_ ?_ (hst3.fr hs ((Fr.refl _ a3).put _ (hn0 _ (by omega) (by omega))) (by simp (disch:=(try simp only[sP]);omega) only[eV]))
   ·rw[qi _ _ _ _ (by omega),hf3.slot n ⟨by omega,.inl (by omega)⟩,hfA.slot n ⟨by omega,.inl (by omega)⟩]
    exact g0
   ·rw[qB _ _ _ (by omega)]
    rfl
  ·intro hz
   have hz:z=true:=by simpa using hz
   exact vK (vN (kn hz A w2 hfA' hstA))
 refine vc_scope lb (fun a' w'=>Fr (KW L n t) a a'/\a'.eval (.tmp n)=u/\a'.eval (.tmp (n+1))=.bool true/\WSt P E W0 G x ver fx a' w' (xs++uvar k++uvar pl.length)) ?_ ?_
 ·simp only[List.cons_append,List.nil_append]
  refine vS (hfirst _ ?_)
  intro a1 hf1 e11 e1
  have hz1:=hf1.size
  have hst1:=hst.fr hs hf1 e11
  refine vS (w_uv H hu hk (hs.up (n':=n+1) (t':=t+4) (by omega) (by omega) (by omega)) (by rw[hz1];omega) hst1 (by omega) ?_)
  intro a2 w2 hf2 hst2
  have hz2:=hf2.size
  show vc P (sq _) _ a2 w2
  refine vX (rA (dn ?_))
  obtain ⟨ad,cap,hv,hcap⟩:=own_form hst2.own.own
  refine vX (rM ?_)
  refine qY (ad:=ad) (n:=(xs++uvar k).length) (c:=cap) (rB HI.bytes) (by simp (disch:=(try simp only[sP]);omega) only[eV,hv]) ?_
  refine rA (dn ?_)
  generalize hA:Act.put _ (some (n+2)) _=A
  have hfA:Fr (KW L n t) a2 A:=by
   subst hA
   exact ((((Fr.refl _ a2).put _ (hn0 _ (by omega) (by omega))).put _ (ht0 _ (by omega))).put _ (ht0 _ (by omega))).put _ (hn0 _ (by omega) (by omega))
  have hA1:A.eval (.tmp 1)=a2.eval (.tmp 1):=by subst hA;simp (disch:=(try simp only[sP]);omega) only[eV]
  have hAn:A.eval (.tmp n)=u:=by
   have:A.eval (.tmp n)=a2.eval (.tmp n):=by subst hA;simp (disch:=(try simp only[sP]);omega) only[eV]
   rw[this,hf2.slot n ⟨by omega,.inl (by omega)⟩]
   exact e1
  have hAs:A.eval (.tmp (n+1))=.bool false:=by subst hA;simp (disch:=(try simp only[sP]);omega) only[eV]
  have hAl:A.eval (.tmp (n+2))=.int .i64 ((xs++uvar k).length:Int):=by subst hA;simp (disch:=(try simp only[sP]);omega) only[eV]
  clear hA
  have hstA:=hst2.fr hs hfA hA1
  refine vS (vc_label' ?_)
  show vc P (sq _) _ A w2
  refine tail false A w2 (xs++uvar k) _ ((hf1.trans (hf2.mono (KW.mono (by omega) (by omega)))).trans hfA) hAn hAs (fun _=>hAl) hstA (by simp only[List.length_append];omega) (fun _=>by simp only[List.length_append];omega) (fun h=>by cases h) ?_
  intro _ a3 w3 hf3 g0 g1 hst3
  exact ⟨rfl,hf3,g0,g1,hst3⟩
 ·simp only[List.cons_append,List.nil_append]
  refine vq hfl (by simp) (vq rfl (by simp) (vq rfl (by simp) (vq rfl (by simp) (vcFrom_lab (by simp) ?_))))
  rintro a1 w1 ⟨hf1,g0,g1,hst1⟩
  refine tail true a1 w1 (xs++uvar k++uvar pl.length) _ hf1 g0 g1 (fun h=>by cases h) hst1 (by simp only[List.length_append];omega) (fun h=>by cases h) ?_ (fun h=>by cases h)
  ·intro _ a2 w2 hf2 hst2
   refine kk a2 w2 hf2 ?_
   simpa [qR,List.append_assoc] using hst2
end
end Go.Km
namespace Go.Km
open Go Go.RowKit
attribute [local irreducible] vc rO_ qz
section
variable {P : Program} {E : Env} {W0 : World} {sb : Sb} {G : Nat → Option Obj}
theorem wok_nil (H:EnvW P E sb.T) (HI:EnvI P E) (tg:Bool):(Flds.nil tg).WOk P E W0 sb:=by
 intro G x ver fx L TP TU s idx off n t b B pb po m a w xs cs ds tags kt Q hok hs hsn hs1 hn ht hst hp hc hr hkx hb k
 have h1:=hs.one;have h2:=hs.nL;have h3:=hs.Lt
 by_cases hne:kt≠[]
 ·have hme:∀ {α:Type} (f:KX->α),((kt.map f).isEmpty)=false:=by
   intro α f
   cases kt with
   | nil=>exact absurd rfl hne
   | cons e l=>rfl
  obtain ⟨f,hx⟩:=Option.isSome_iff_exists.1 (hkx.fl hne).1
  simp only[Flds.wn,hme,Bool.false_eq_true,if_false] at hn
  simp only[Flds.wt,hx,hme,Bool.false_eq_true,if_false] at ht
  simp only[Flds.wc,hme,Bool.false_eq_true,if_false]
  exact wok_nilK H HI hne hok hs hsn hs1 hn ht hst hp hc hr hkx hb k
 have hne:kt=[]:=by simpa using hne
 subst hne
 simp only[List.map_nil,qC,List.filterMap_nil,List.nil_append] at hn ht hb k ⊢
 simp only[Flds.wc,List.isEmpty_nil,if_true,wTags]
 cases hx:x.fl with
 | none =>
  have hfx:=hs.no hx
  subst hfx
  refine vN (k a w (Fr.refl _ _) ?_)
  simpa [Flds.wr] using hst
 | some f =>
  simp only[Flds.okW,hx,Option.isNone_some,Bool.false_or,Bool.and_eq_true,bne_iff_ne,ne_eq,beq_iff_eq] at hok
  obtain ⟨⟨⟨⟨rfl,hoff⟩,htl⟩,hte⟩,hu⟩:=hok
  simp only[Flds.wt,hx,List.isEmpty_nil,if_true] at ht
  cases ds with
  | cons d ds=>exact absurd hr (by simp[Flds.Rep])
  | nil =>
  simp only[Flds.Rep,if_true] at hr
  obtain ⟨v,rfl,htr0⟩:=hr
  have htr:=htr0.mono (Nat.zero_le B)
  have hcv:W0.cell? ⟨pb,po+off,none⟩=some v:=by have:=hc 0 v rfl;simpa using this
  have hfl:=hst.fl f hx
  have hfn:=hs.fl f hx
  refine vS (vX (rM (dn ?_)))
  have hf0:Fr (KW L n t) a (a.put (some t) (a.eval (.tmp f))):=(Fr.refl _ a).put _ (hs.kt t (Nat.le_refl _))
  have hst0:=hst.fr hs hf0 (qi _ _ _ _ (by omega))
  have hsz0:(a.put (some t) (a.eval (.tmp f))).tmps.size=a.tmps.size:=zP _ _ _
  refine vS (vC (t:=fx) (by simp (disch:=(try simp only[sP]);omega) only[eV,hfl]) ?_ ?_)
  ·intro hfx
   subst hfx
   simp only[Flds.wr,if_true] at hb k
   have htb:=we tags
   simp only[zX,List.length_append] at hb
   have hlt:tags.length<4294967296:=by unfold big at hb;omega
   refine vS (m_tagsA (K:=KW L n t) (n:=tags.length) (S1:=Grow w) HI rfl (by rw[qi _ _ _ _ (by omega)];exact hp) hoff (H.tlen htl W0 sb pb (po+off) v tags _ rfl hcv htr hst.below) hlt
    (S:=fun v' w'=>w'.ownsG ⟨W0.heap.size,G⟩ E.tU8 1 v' (xs++uvar tags.length).length ((xs++uvar tags.length).map bv)/\Below W0.heap.size w w') ?_ hs.kt hs.k1 (by omega) (by omega) (by omega) ?_)
   ·intro w1 hg
    refine (H.uvar hu tags.length ⟨W0.heap.size,G⟩ w1 hlt _ xs (ws hst0.own hg) (by have:=hg.size;have:=hst.size;show W0.heap.size<=_;omega) (by omega)).mono ?_
    rintro v' w' ⟨h1,h2⟩
    exact ⟨h1,(hg.below.mono hst.size).trans h2⟩
   intro a1 v1 w1 hf1 e1 hS1
   have hst1:=hst0.step hs hf1 e1 hS1
   refine vS (m_tagsB (K:=KW L n t) rfl (by rw[hf1.slot s ⟨hs1,.inl hsn⟩,qi _ _ _ _ (by omega)];exact hp) hoff
    (H.teach hte W0 sb pb (po+off) v tags w1 rfl hcv htr hst1.below G _ _ hst1.own (by simp only[List.length_append];omega)) hs.kt hs.k1 (by omega) (by omega) (by rw[hf1.size];omega) ?_)
   intro a2 v2 w2 hf2 e2 hS2
   have hst2:=hst1.step hs hf2 e2 hS2
   refine vN (vN (vN (k a2 w2 ((hf0.trans hf1).trans hf2) ?_)))
   simpa [zX] using hst2
  ·intro hfx
   subst hfx
   refine vK (vN (vN (k _ w hf0 ?_)))
   simpa [Flds.wr] using hst0
theorem okW_one {x:Cx} {ty:Ty} (h:ty.okW P E x=true) (h1:ty.tp=none) (h2:ty.arr=false):qQ P (ty.T E)=true/\ty.size=1:=by
 cases ty<;>simp_all [Ty.okW,Ty.tp,Ty.arr,Ty.T,Ty.size]
theorem okW_arr {x:Cx} {ty:Ty} (h:ty.okW P E x=true) (h2:ty.arr=true):ty.tp=none/\zb P (ty.T E)=some 16/\wH P (ty.T E) 16=true/\ty.size=16 ∧
  ∀ cs B d,ty.Rep W0 sb B cs d->cs.length=16/\∀ v ∈ cs,v.oneCell'=true:=by
 cases ty<;>simp_all [Ty.okW,Ty.tp,Ty.arr,Ty.T,Ty.size]
 intro cs B d hr
 cases d with
 | bytes o =>
  cases o with
  | none=>exact absurd hr (by simp[Ty.Rep])
  | some l =>
   simp only[Ty.Rep] at hr
   obtain ⟨hl,rfl⟩:=hr
   refine ⟨by simp[hl],?_⟩
   intro v hv
   obtain ⟨b,_,rfl⟩:=List.mem_map.1 hv
   rfl
 | _=>exact absurd hr (by simp[Ty.Rep])
theorem qb.take {w:World} {b o:Nat} {cs:List Value} (h:qb w b o cs) (n:Nat):qb w b o (cs.take n):=fun i v hv=>h i v (by
 rw[List.getElem?_take] at hv
 split at hv
 ·exact hv
 ·cases hv)
theorem qb.drop {w:World} {b o:Nat} {cs:List Value} (h:qb w b o cs) (n:Nat):qb w b (o+n) (cs.drop n):=fun i v hv=>by
 rw[List.getElem?_drop] at hv
 have:=h (n+i) v hv
 rwa [show o+n+i=o+(n+i) by omega]
theorem wn_cons {v:Ver} (h:v.isTag=false) (kz:List Nat) (t:Ty) (r:Flds):Flds.wn kz (.cons v t r)=1+t.wn+Flds.wn kz r:=by cases v<;>first | rfl | cases h
theorem wt_cons {v:Ver} (h:v.isTag=false) (x:Cx) (kz:List Nat) (t:Ty) (r:Flds):Flds.wt x kz (.cons v t r)=v.nt+t.h+t.wt x+Flds.wt x kz r:=by cases v<;>first | rfl | cases h
theorem wc_cons {v:Ver} (h:v.isTag=false) (E:Env) (x:Cx) (TP TU:TypeId) (s idx:Nat) (kt:List KWr) (n t b:Nat) (ty:Ty) (r:Flds):Flds.wc E x TP TU s idx kt n t b (.cons v ty r) =
  ifVer E x v t (match ty.tp with
   | some TP'=>sq (rg [qd (t+v.nt) (.tmp s) TP,jk (t+v.nt+1) (.tmp (t+v.nt)),xr (t+v.nt+2) TU (.tmp (t+v.nt+1)) idx,qc n (.tmp (t+v.nt+2)) TP']::Ty.wc E x n (n+1) (t+v.nt+3) b ty)
   | none=>sq ((if ty.arr then wLoadArr TP TU (ty.T E) n s idx (t+v.nt) else yC TP TU (ty.T E) n s idx (t+v.nt))::Ty.wc E x n (n+1) (t+v.nt+4) b ty)) ::
  Flds.wc E x TP TU s (idx+1) kt (n+1+ty.wn) (t+v.nt+ty.h+ty.wt x) (b+ty.wb) r:=by cases v<;>first | rfl | cases h
set_option maxHeartbeats 1000000 in
theorem wok_cons (v:Ver) (ty:Ty) (r:Flds) (hvt:v.isTag=false) (hty:ty.WOk P E W0 sb) (hr':r.WOk P E W0 sb) (hrep:∀ cs B d,ty.Rep W0 sb B cs d->ty.tp=none->ty.arr=false->∃ u,cs=[u]):(Flds.cons v ty r).WOk P E W0 sb:=by
 intro G x ver fx L TP TU s idx off n t b B pb po m a w xs cs ds tags kt Q hok hs hsn hs1 hn ht hst hp hc hr hkx hb k
 have h1:=hs.one;have h2:=hs.nL;have h3:=hs.Lt
 simp only[Flds.okW,Bool.and_eq_true,beq_iff_eq] at hok
 obtain ⟨⟨hoff,hokt⟩,_,hokr⟩:=hok
 rw[show v.nxt m=m by cases v<;>first | rfl | cases hvt] at hokr
 cases ds with
 | nil=>exact absurd hr (by simp[Flds.Rep])
 | cons d ds =>
 simp only[Flds.Rep] at hr
 obtain ⟨hrt,hrr,_⟩:=hr
 rw[wn_cons hvt] at hn
 rw[wt_cons hvt] at ht
 simp only[Flds.wr,Ver.addTag_no hvt] at hb k
 rw[wc_cons hvt]
 -- the rest
 have hrest:∀ (part:List UInt8) a1 w1,part=(if v.has ver=true then ty.wr fx ver d else [])->Fr (KW L n t) a a1->WSt P E W0 G x ver fx a1 w1 (xs++part) →
   vc P (sq (Flds.wc E x TP TU s (idx+1) (kt.map (·.kw)) (n+1+ty.wn) (t+v.nt+ty.h+ty.wt x) (b+ty.wb) r)) Q a1 w1:=by
  intro part a1 w1 hpart hf hst1
  refine hr' G x ver fx L TP TU s (idx+1) (off+ty.size) (n+1+ty.wn) _ (b+ty.wb) B pb po m a1 w1 (xs++part) (cs.drop ty.size) ds tags kt Q hokr (hs.up (by omega) (by omega) (by omega)) (by omega) hs1 (by omega) (by rw[hf.size];omega) hst1 (by rw[hf.slot s ⟨hs1,.inl hsn⟩];exact hp) (by have:=hc.drop ty.size;rwa [Nat.add_assoc] at this) hrr hkx ?_ ?_
  ·rw[hpart]
   simp only[List.length_append] at hb ⊢
   omega
  ·intro a2 w2 hf2 hst2
   refine k a2 w2 (hf.trans (hf2.mono (KW.mono (by omega) (by omega)))) ?_
   rw[hpart] at hst2
   simpa [List.append_assoc] using hst2
 refine vS (m_ver hvt (K:=KW L n t) hst.ver (by have:=hs.vs.1;omega) hs.kt (by omega) ?_ ?_)
 ·intro hhas a0 hf0 he0
  have hst0:=hst.fr hs hf0 (he0 1 (by omega))
  have hp0:a0.eval (.tmp s)=.pointer (some ⟨pb,po,none⟩):=by rw[he0 s (by omega)];exact hp
  have hsz0:=hf0.size
  have hpart:ty.wr fx ver d=(if v.has ver=true then ty.wr fx ver d else []):=by rw[if_pos hhas]
  have hbt:xs.length+(ty.wr fx ver d).length<=big:=by
   rw[hhas] at hb
   simp only[if_true,List.length_append] at hb
   omega
  have hct:qb W0 pb (po+off) (cs.take ty.size):=hc.take _
  have hpbW:=hc
  cases htp:ty.tp with
  | some TP' =>
   have hh:ty.h=3:=by simp[Ty.h,htp]
   simp only[hh] at ht hrest ⊢
   refine vX (rM ?_)
   refine qV (ad:=⟨pb,po,none⟩) (by simp (disch:=(try simp only[sP]);omega) only[eV,hp0]) ?_
   refine rF (b:=pb) (o:=po) (by simp (disch:=(try simp only[sP]);omega) only[eV]) hoff ?_
   refine rA (dn ?_)
   generalize hA:(((a0.put (some (t+v.nt)) (a0.eval (.tmp s))).put (some (t+v.nt+1)) (.pointer (some ⟨pb,po,none⟩))).put (some (t+v.nt+2)) (.pointer (some ⟨pb,po+off,none⟩)))=A
   have hAe:A.eval (.tmp (t+v.nt+2))=.pointer (some ⟨pb,po+off,none⟩):=by rw[← hA];simp (disch:=(try simp only[sP]);omega) only[eV]
   have hA1:∀ k,k<t->A.eval (.tmp k)=a0.eval (.tmp k):=by intro k hk;rw[← hA];simp (disch:=(try simp only[sP]);omega) only[eV]
   have hAs:A.tmps.size=a0.tmps.size:=by rw[← hA];simp only[zP]
   have hAf:Fr (KW L n t) a0 A:=by
    rw[← hA]
    exact (((Fr.refl _ _).put _ (hs.kt _ (by omega))).put _ (hs.kt _ (by omega))).put _ (hs.kt _ (by omega))
   have hf1:Fr (KW L n t) a (A.put (some n) (A.eval (.tmp (t+v.nt+2)))):=(hf0.trans hAf).put _ (by rintro ⟨_,h | h⟩<;>omega)
   have hst1:=hst.fr hs hf1 (by rw[qi _ _ _ _ (by omega),hA1 1 (by omega),he0 1 (by omega)])
   refine hty G x ver fx L n (n+1) (t+v.nt+3) b B _ w xs (cs.take ty.size) d _ hokt (hs.up (by omega) (by omega) (by omega)) (by omega) (by omega) (by omega) (by rw[hf1.size];omega) hst1 ?_ hrt hbt ?_
   ·simp only[Ty.Holds,htp]
    exact ⟨pb,po+off,by rw[qB _ _ _ (by rw[hAs,hsz0];omega),hAe],hct⟩
   ·intro a2 w2 hf2 hst2
    exact hrest _ a2 w2 hpart (hf1.trans (hf2.mono (KW.mono (by omega) (by omega)))) hst2
  | none =>
   have hh:ty.h=4:=by simp[Ty.h,htp]
   simp only[hh] at ht hrest ⊢
   cases harr:ty.arr with
   | true =>
    simp only[if_true]
    obtain ⟨_,hagg,hz,hsz16,hcell⟩:=okW_arr (W0:=W0) (sb:=sb) hokt harr
    obtain ⟨z,hz,hzl⟩:=zeroAgg_inv hz
    obtain ⟨hl16,h1c⟩:=hcell _ _ _ hrt
    have hw:qb w pb (po+off) (cs.take ty.size):=by
     have:pb<W0.heap.size:=by
      have h0:=hct.get (i:=0) (by omega)
      exact qj h0
     exact hct.below hst.below this
    refine vS (m_loadArr (K:=KW1 L n t) (z:=z) (cs:=cs.take ty.size) hp0 hoff (by rw[hl16];exact hagg) hz (by omega) h1c hw (by rintro (h | h)<;>omega) (fun d hd=>by rintro (h | h)<;>omega) (by omega) (by rw[hsz0];omega) ?_)
    intro a1 w1 q hf1' hq hqs hqc hg
    have hf1:Fr (KW L n t) a0 a1:=hf1'.mono (fun k hk=>hk.2)
    have hbw1:Below W0.heap.size w w1:=hg.below.mono hst.size
    have hst1:WSt P E W0 G x ver fx a1 w1 xs:=by
     have h1':a1.eval (.tmp 1)=a0.eval (.tmp 1):=hf1'.slot 1 (.inl (by omega))
     exact ⟨hst.below.trans hbw1,by rw[h1'];exact ws hst0.own hg,by rw[hf1.slot _ ⟨hs.vs.2,.inl hs.vs.1⟩];exact hst0.ver,fun f hh=>by rw[hf1.slot _ ⟨(hs.fl f hh).2,.inl (hs.fl f hh).1⟩];exact hst0.fl f hh⟩
    refine hty G x ver fx L n (n+1) (t+v.nt+4) b B a1 w1 xs (cs.take ty.size) d _ hokt (hs.up (by omega) (by omega) (by omega)) (by omega) (by omega) (by omega) (by rw[hf1.size,hsz0];omega) hst1 ?_ hrt hbt ?_
    ·simp only[Ty.Holds,htp,harr,if_true]
     exact ⟨q,hq,hqc⟩
    ·intro a2 w2 hf2 hst2
     exact hrest _ a2 w2 hpart ((hf0.trans hf1).trans (hf2.mono (KW.mono (by omega) (by omega)))) hst2
   | false =>
    simp only[Bool.false_eq_true,if_false]
    obtain ⟨hone,hsz1⟩:=okW_one hokt htp harr
    obtain ⟨u,hu⟩:=hrep _ _ _ hrt htp harr
    have hcu:W0.cell? ⟨pb,po+off,none⟩=some u:=by have:=hct 0 u (by rw[hu];rfl);simpa using this
    have hcw:w.cell? ⟨pb,po+off,none⟩=some u:=by rw[hst.below.cell (p:=⟨pb,po+off,none⟩) (qj hcu)];exact hcu
    refine vS (m_load (K:=KW1 L n t) hp0 hoff hone hcw (by rintro (h | h)<;>omega) (fun d hd=>by rintro (h | h)<;>omega) (by omega) (by rw[hsz0];omega) ?_)
    intro a1 hf1' he1
    have hf1:Fr (KW L n t) a0 a1:=hf1'.mono (fun k hk=>hk.2)
    have hst1:WSt P E W0 G x ver fx a1 w xs:=by
     have h1':a1.eval (.tmp 1)=a0.eval (.tmp 1):=hf1'.slot 1 (.inl (by omega))
     exact hst0.fr hs hf1 h1'
    refine hty G x ver fx L n (n+1) (t+v.nt+4) b B a1 w xs (cs.take ty.size) d _ hokt (hs.up (by omega) (by omega) (by omega)) (by omega) (by omega) (by omega) (by rw[hf1.size,hsz0];omega) hst1 ?_ hrt hbt ?_
    ·simp only[Ty.Holds,htp,harr,Bool.false_eq_true,if_false]
     rw[hu,he1]
    ·intro a2 w2 hf2 hst2
     exact hrest _ a2 w2 hpart ((hf0.trans hf1).trans (hf2.mono (KW.mono (by omega) (by omega)))) hst2
 ·intro hhas a0 hf0 he0
  refine hrest [] a0 w (by rw[hhas];simp) hf0 ?_
  rw[List.append_nil]
  exact hst.fr hs hf0 (he0 1 (by omega))
theorem Scal.val_int {c:Scal} (h:c.isInt=true) (n:Int):c.val n=.int c.kind n:=by cases c<;>first | rfl | cases h
theorem Scal.wr_len (c:Scal) (n:Int):(c.wr n).length=c.width:=by cases c<;>simp[Scal.wr,Scal.width,qG]
theorem kw_k (E:Env) (x:Cx) (TP TU:TypeId) (s idx k lb:Nat) (body:Nat->Nat->Nat->Nat->List Code) (wn wt wb:Nat) (ty:Ty):(ty.kw E x TP TU s idx k lb body wn wt wb).k=k/\(ty.kw E x TP TU s idx k lb body wn wt wb).askT=ty.kwA/\(ty.kw E x TP TU s idx k lb body wn wt wb).casN=ty.kwN wn/\(ty.kw E x TP TU s idx k lb body wn wt wb).casT=ty.kwT wt:=by
 cases ty<;>exact ⟨rfl,rfl,rfl,rfl⟩
theorem w_add {L n t U k:Nat} {a:Act} {w:World} {ns:List Nat} {Q:Exit->Act->World->Prop} (hrow:xd P E.tU32s E.tW 1=true) (hL:L<=t) (hn:n+1<=L) (hsz:t+3<=a.tmps.size) (hU:U<=w.heap.size) (hl:ns.length+1<=big)
  (hown:w.ownsRow U E.tW 1 (a.eval (.tmp n)) ns.length (ns.map u32v))
  (kk:∀ a' w',Fr (KW1 L n t) a a'->w'.ownsRow U E.tW 1 (a'.eval (.tmp n)) (ns++[k]).length ((ns++[k]).map u32v)->Below U w w'->Q .normal a' w'):vc P (kwAdd E k n t) Q a w:=by
 refine vR (by simp) ?_
 refine rM ?_
 refine xB (s:=1) (vs:=[u32v k]) hrow (by simp[xi,u32,u32v]) rfl (by intro v hv;simp only[List.mem_singleton] at hv;subst hv;rfl) (by omega) (by omega) ?_
 refine xe (sz:=1) (m:=1) (U:=U) (v:=a.eval (.tmp n)) (n:=ns.length) (xs:=ns.map u32v) (u:=.slice (some ⟨w.heap.size,0,none⟩) 1 1) (news:=[u32v k]) hrow (by simp (disch:=(try simp only[sP]);omega) only[eV]) (by simp (disch:=(try simp only[sP]);omega) only[eV]) (hown.alloc _) (by simp;omega) ?_ hl ?_
 ·refine xW (rB hrow) ?_ rfl (by intro u hu;simp only[List.mem_singleton] at hu;subst hu;rfl)
  intro j u hu
  rw[Nat.zero_add]
  exact qt w _ E.tW (by simpa [u32v,Value.cells] using hu)
 intro v' w' hown' hbel
 refine rA (dn ?_)
 refine kk _ w' ?_ ?_ (((Below.refl U w).alloc hU _).trans hbel)
 ·exact ((((Fr.refl _ a).put _ (KW1.kt (by omega) hL _ (Nat.le_refl _))).put _ (KW1.kt (by omega) hL _ (by omega))).put _ (KW1.kt (by omega) hL _ (by omega))).put _ (by rintro (h | h)<;>omega)
 ·rw[List.map_append,List.length_append]
  have:∀ A:Act,n<A.tmps.size->A.tmps.size=a.tmps.size->(A.put (some n) v').eval (.tmp n)=v':=fun A h _=>qB _ _ _ h
  simp (disch:=(try simp only[sP]);omega) only[eS,eN]
  exact hown'
set_option maxHeartbeats 1000000 in
theorem kx_scal (H:EnvW P E sb.T) {x:Cx} {ver:Nat} {fx:Bool} {TP TU:TypeId} {s idx k lb off pb po B wn wt wb:Nat} {body:Nat->Nat->Nat->Nat->List Code} {c:Scal} {df:Int} {cs:List Value} {d:D} (hi:c.isInt=true) (hk:k<4294967296) (hrow:xd P E.tU32s E.tW 1=true) (hu:fx=true->E.wUvarint≠0) (hw:E.wScal c≠0) (hone:qQ P (E.tScal c)=true)
  (hoff:ql P TU idx=some off) (hc:qb W0 pb (po+off) cs) (hr:(Ty.scal c df).Rep W0 sb B cs d) :
  KX.ok P E W0 x ver fx s pb po ⟨(Ty.scal c df).kw E x TP TU s idx k lb body wn wt wb,if fx && !(Ty.scal c df).isD d then some ((Ty.scal c df).wr fx ver d) else none⟩:=by
 cases d with
 | int mv =>
  simp only[Ty.Rep] at hr
  obtain ⟨rfl,hmv⟩:=hr
  have hcell:W0.cell? ⟨pb,po+off,none⟩=some (c.val mv):=by have:=hc 0 _ rfl;simpa using this
  refine ⟨?_,?_⟩
  ·intro hfx L n t U a w ns Q hL hn hs hsz hp hb hU hl hown kk
   subst hfx
   simp only[Ty.kw,Ty.kwA] at hsz
   simp only[Ty.kw,Ty.isD,Bool.true_and] at kk ⊢
   have hcw:w.cell? ⟨pb,po+off,none⟩=some (c.val mv):=by rw[hb.cell (p:=⟨pb,po+off,none⟩) (qj hcell)];exact hcell
   refine vX (rM ?_)
   refine qV (ad:=⟨pb,po,none⟩) (by simp (disch:=(try simp only[sP]);omega) only[eV,hp]) ?_
   refine rF (b:=pb) (o:=po) (by simp (disch:=(try simp only[sP]);omega) only[eV]) hoff ?_
   refine rL (b:=pb) (o:=po+off) (by simp (disch:=(try simp only[sP]);omega) only[eV]) hone hcw ?_
   refine r_neq (k:=c.kind) (m:=mv) (n:=df) (by simp (disch:=(try simp only[sP]);omega) only[eV,Scal.val_int hi]) (by rw[xi,Scal.val_int hi]) ?_
   refine dn ?_
   generalize hA:Act.put _ (some (t+4)) _=A
   have hfA:Fr (KW1 L n t) a A:=by
    subst hA
    exact (((((Fr.refl _ a).put _ (KW1.kt (by omega) hL _ (Nat.le_refl _))).put _ (KW1.kt (by omega) hL _ (by omega))).put _ (KW1.kt (by omega) hL _ (by omega))).put _ (KW1.kt (by omega) hL _ (by omega))).put _ (KW1.kt (by omega) hL _ (by omega))
   have hAc:A.eval (.tmp (t+4))=.bool (mv != df):=by subst hA;simp (disch:=(try simp only[sP]);omega) only[eV]
   have hAn:A.eval (.tmp n)=a.eval (.tmp n):=by subst hA;simp (disch:=(try simp only[sP]);omega) only[eV]
   have hzA:=hfA.size
   clear hA
   refine vS (vC (t:=mv != df) hAc ?_ ?_)
   ·intro hne
    have hne':(mv==df)=false:=by simpa using hne
    refine w_add (L:=L) hrow (by omega) hn (by rw[hzA];omega) hU hl (by rw[hAn];exact hown) ?_
    intro a' w' hf' hown' hb'
    refine vN (kk a' w' (hfA.trans (hf'.mono (KW1.mono (by omega)))) ?_ hb')
    simpa [hne'] using hown'
   ·intro heq
    have heq':(mv==df)=true:=by
     have:mv=df:=by simpa using heq
     simp[this]
    refine vK (vN (kk A w hfA ?_ (Below.refl _ _)))
    simpa [heq',hAn] using hown
  ·intro pl hpl G L n t b a w xs Q hs hsn hs1 hn ht hst hp hb kk
   have h1:=hs.one;have h2:=hs.nL;have h3:=hs.Lt
   simp only[Ty.wr] at hpl
   by_cases hcnd:(fx && !(Ty.scal c df).isD (.int mv))=true
   ·rw[if_pos hcnd] at hpl
    simp only[Bool.and_eq_true] at hcnd
    obtain ⟨hfx,_⟩:=hcnd
    simp only[Option.some.injEq] at hpl
    subst hpl
    simp only[Ty.kw,Ty.kwN] at hn
    simp only[Ty.kw,Ty.kwT] at ht
    simp only[Ty.kw] at hb kk ⊢
    have hlen:=c.wr_len mv
    simp only[qR,List.length_append] at hb
    rw[hlen] at hb
    have hwd:c.width<4294967296:=by cases c<;>decide
    refine vS (m_load (K:=KW1 L n t) hp hoff hone (by rw[hst.below.cell (p:=⟨pb,po+off,none⟩) (qj hcell)];exact hcell) (by rintro (h | h)<;>omega) (fun d hd=>by rintro (h | h)<;>omega) (by omega) (by omega) ?_)
    intro a1 hf1' he1
    have hf1:Fr (KW L n t) a a1:=hf1'.mono (fun k hk=>hk.2)
    have hst1:WSt P E W0 G x ver fx a1 w xs:=hst.fr hs hf1 (hf1'.slot 1 (.inl (by omega)))
    have hs':WSl x L (n+1) (t+4) fx:=hs.up (by omega) (by omega) (by omega)
    refine vS (w_uv H (hu hfx) hk hs' (by rw[hf1.size];omega) hst1 (by omega) ?_)
    intro a2 w2 hf2 hst2
    refine vS (w_uv H (hu hfx) hwd (hs'.up (Nat.le_refl _) (by omega) (by omega)) (by rw[hf2.size,hf1.size];omega) hst2 (by simp only[List.length_append];omega) ?_)
    intro a3 w3 hf3 hst3
    have hs3:WSl x L (n+1) (t+8) fx:=hs'.up (Nat.le_refl _) (by omega) (by omega)
    refine vS (w_app hs3 (v:=n) (by omega) (by rw[hf3.size,hf2.size,hf1.size];omega) hst3 (by rw[hf3.slot n ⟨by omega,.inl (by omega)⟩,hf2.slot n ⟨by omega,.inl (by omega)⟩];exact he1) (H.scal c hw mv _ _ hmv) (by simp only[List.length_append];omega) ?_)
    intro a4 w4 hf4 hst4
    refine vN (kk a4 w4 (((hf1.trans (hf2.mono (KW.mono (by omega) (by omega)))).trans (hf3.mono (KW.mono (by omega) (by omega)))).trans (hf4.mono (KW.mono (by omega) (by omega)))) ?_)
    simp only[qR]
    rw[hlen]
    simpa [List.append_assoc] using hst4
   ·rw[if_neg hcnd] at hpl
    cases hpl
 | _=>exact absurd hr (by simp[Ty.Rep])
theorem wLoad_lab (TP TU T:TypeId) (x s f t l:Nat):findLabel (yC TP TU T x s f t) l=none:=rfl
set_option maxHeartbeats 1000000 in
theorem kx_list (H:EnvW P E sb.T) (HI:EnvI P E) {x:Cx} {ver:Nat} {fx:Bool} {TP TU TS:TypeId} {s idx k lb off pb po B:Nat} {e:Ty} {cs:List Value} {d:D} (hty:(Ty.list TS none e).WOk P E W0 sb) (hok:(Ty.list TS none e).okW P E x=true) (hk:k<4294967296) (hrow:xd P E.tU32s E.tW 1=true) (hu:fx=true->E.wUvarint≠0)
  (hoff:ql P TU idx=some off) (hc:qb W0 pb (po+off) cs) (hr:(Ty.list TS none e).Rep W0 sb B cs d) :
  KX.ok P E W0 x ver fx s pb po ⟨(Ty.list TS none e).kw E x TP TU s idx k lb (fun v n t b=>Ty.wc E x v n t b (.list TS none e)) (Ty.list TS none e).wn ((Ty.list TS none e).wt x) (Ty.list TS none e).wb,if fx && !(Ty.list TS none e).isD d then some ((Ty.list TS none e).wr fx ver d) else none⟩:=by
 have hok':=hok
 simp only[Ty.okW,Bool.and_eq_true] at hok'
 obtain ⟨⟨⟨⟨_,hone⟩,hsl⟩,_⟩,_⟩:=hok'
 obtain ⟨e1,hsl⟩:=sliceB_inv hsl
 obtain ⟨ad,len,cap,hcs,hlen,hisD⟩:∃ ad len cap,cs=[.slice ad len cap]/\len<=big/\(Ty.list TS none e).isD d=decide (len=0):=by
  cases d with
  | list o =>
   cases o with
   | none =>
    simp only[Ty.Rep] at hr
    rcases hr with hr | ⟨_,q,cap,hr,_⟩
    ·exact ⟨none,0,0,hr,Nat.zero_le _,rfl⟩
    ·exact ⟨_,0,cap,hr,Nat.zero_le _,rfl⟩
   | some l =>
    simp only[Ty.Rep] at hr
    obtain ⟨q,cap,rfl,_,_,hl,_⟩:=hr
    exact ⟨_,_,_,rfl,hl,by cases l<;>simp[Ty.isD]⟩
  | _=>exact absurd hr (by simp[Ty.Rep])
 have hcell:W0.cell? ⟨pb,po+off,none⟩=some (.slice ad len cap):=by have:=hc 0 _ (by rw[hcs];rfl);simpa using this
 refine ⟨?_,?_⟩
 ·intro hfx L n t U a w ns Q hL hn hs hsz hp hb hU hl hown kk
  subst hfx
  simp only[Ty.kw,Ty.kwA] at hsz
  simp only[Ty.kw,hisD,Bool.true_and] at kk ⊢
  have hcw:w.cell? ⟨pb,po+off,none⟩=some (.slice ad len cap):=by rw[hb.cell (p:=⟨pb,po+off,none⟩) (qj hcell)];exact hcell
  refine vX (rM ?_)
  refine qV (ad:=⟨pb,po,none⟩) (by simp (disch:=(try simp only[sP]);omega) only[eV,hp]) ?_
  refine rF (b:=pb) (o:=po) (by simp (disch:=(try simp only[sP]);omega) only[eV]) hoff ?_
  refine rL (b:=pb) (o:=po+off) (by simp (disch:=(try simp only[sP]);omega) only[eV]) hone hcw ?_
  refine qY (ad:=ad) (n:=len) (c:=cap) hsl (by simp (disch:=(try simp only[sP]);omega) only[eV]) ?_
  refine je (k:=.i64) (m:=(len:Int)) (n:=0) (by simp (disch:=(try simp only[sP]);omega) only[eV]) rfl ?_
  refine dn ?_
  generalize hA:Act.put _ (some (t+5)) _=A
  have hfA:Fr (KW1 L n t) a A:=by
   subst hA
   exact ((((((Fr.refl _ a).put _ (KW1.kt (by omega) hL _ (Nat.le_refl _))).put _ (KW1.kt (by omega) hL _ (by omega))).put _ (KW1.kt (by omega) hL _ (by omega))).put _ (KW1.kt (by omega) hL _ (by omega))).put _ (KW1.kt (by omega) hL _ (by omega))).put _ (KW1.kt (by omega) hL _ (by omega))
  have hAc:A.eval (.tmp (t+5))=.bool (decide ((len:Int)>0)):=by subst hA;simp (disch:=(try simp only[sP]);omega) only[eV]
  have hAn:A.eval (.tmp n)=a.eval (.tmp n):=by subst hA;simp (disch:=(try simp only[sP]);omega) only[eV]
  have hzA:=hfA.size
  clear hA
  refine vS (vC (t:=decide ((len:Int)>0)) hAc ?_ ?_)
  ·intro hgt
   have hne:decide (len=0)=false:=by
    have:(len:Int)>0:=by simpa using hgt
    simp only[decide_eq_false_iff_not]
    omega
   refine w_add (L:=L) hrow (by omega) hn (by rw[hzA];omega) hU hl (by rw[hAn];exact hown) ?_
   intro a' w' hf' hown' hb'
   refine vN (kk a' w' (hfA.trans (hf'.mono (KW1.mono (by omega)))) ?_ hb')
   simpa [hne] using hown'
  ·intro hgt
   have hne:decide (len=0)=true:=by
    have:¬ (len:Int)>0:=by simpa using hgt
    simp only[decide_eq_true_eq]
    omega
   refine vK (vN (kk A w hfA ?_ (Below.refl _ _)))
   simpa [hne,hAn] using hown
 ·intro pl hpl G L n t b a w xs Q hs hsn hs1 hn ht hst hp hb kk
  have h1:=hs.one;have h2:=hs.nL;have h3:=hs.Lt
  simp only at hpl
  by_cases hcnd:(fx && !(Ty.list TS none e).isD d)=true
  ·rw[if_pos hcnd] at hpl
   simp only[Bool.and_eq_true] at hcnd
   obtain ⟨hfx,_⟩:=hcnd
   simp only[Option.some.injEq] at hpl
   subst hpl
   simp only[Ty.kw,Ty.kwN] at hn
   simp only[Ty.kw,Ty.kwT] at ht
   simp only[Ty.kw] at hb kk ⊢
   refine w_sized H HI (k:=k) (m:=(Ty.list TS none e).wt x) (u:=.slice ad len cap) (pl:=(Ty.list TS none e).wr fx ver d) (hu hfx) hk hs (by omega) (by omega) (wLoad_lab _ _ _ _ _ _ _ _) hst hb ?_ ?_ kk
   ·intro Q1 k1
    refine m_load (K:=KW1 L n t) hp hoff hone (by rw[hst.below.cell (p:=⟨pb,po+off,none⟩) (qj hcell)];exact hcell) (by rintro (h | h)<;>omega) (fun d hd=>by rintro (h | h)<;>omega) (by omega) (by omega) ?_
    intro a1 hf1 he1
    exact k1 a1 (hf1.mono (fun k hk=>hk.2)) (hf1.slot 1 (.inl (by omega))) he1
   ·intro a1 w1 ys Q1 hf1 he1 hst1 hb1 k1
    refine hty G x ver fx L n (n+3) (t+8) b B a1 w1 ys cs d Q1 hok (hs.up (by omega) (by omega) (by omega)) (by omega) (by omega) (by omega) (by rw[hf1.size];omega) hst1 ?_ hr hb1 k1
    simp only[Ty.Holds,Ty.tp,Ty.arr,Bool.false_eq_true,if_false]
    rw[hcs,he1]
  ·rw[if_neg hcnd] at hpl
   cases hpl
theorem Flds.okW_uv {x:Cx}:∀ (fs:Flds) {TU:TypeId} {idx off m:Nat},fs.okW P E x TU idx off m=true->x.fl.isSome=true->E.wUvarint≠0
 | .nil tg,TU,idx,off,m,h,hf=>by
  obtain ⟨f,hf⟩:=Option.isSome_iff_exists.1 hf
  simp only[Flds.okW,hf,Option.isNone_some,Bool.false_or,Bool.and_eq_true,bne_iff_ne,ne_eq] at h
  exact h.2
 | .cons v t r,TU,idx,off,m,h,hf=>by
  simp only[Flds.okW,Bool.and_eq_true] at h
  exact Flds.okW_uv r h.2.2 hf
theorem wok_tag (H:EnvW P E sb.T) (HI:EnvI P E) (v:Ver) (ty:Ty) (r:Flds) (hvt:v.isTag=true) (hty:ty.WOk P E W0 sb) (hr':r.WOk P E W0 sb):(Flds.cons v ty r).WOk P E W0 sb:=by
 cases v with
 | tag kn lb =>
  intro G x ver fx L TP TU s idx off n t b B pb po m a w xs cs ds tags kt Q hok hs hsn hs1 hn ht hst hp hc hr hkx hb k
  simp only[Flds.okW,Ver.okK,Ver.nxt,Bool.and_eq_true,beq_iff_eq,decide_eq_true_eq,bne_iff_ne,ne_eq] at hok
  obtain ⟨⟨hoff,hokt⟩,⟨⟨⟨⟨⟨⟨hmk,hk32⟩,hfl⟩,hrow⟩,hone⟩,hneq⟩,htyp⟩,hokr⟩:=hok
  cases ds with
  | nil=>exact absurd hr (by simp[Flds.Rep])
  | cons d ds =>
  simp only[Flds.Rep,Ver.tagOk] at hr
  obtain ⟨hrt,hrr,htag⟩:=hr
  simp only[Flds.wn] at hn
  simp only[Flds.wt] at ht
  simp only[Flds.wr,Ver.has,Bool.false_eq_true,if_false,List.nil_append,Ver.addTag] at hb k
  simp only[Flds.wc]
  obtain ⟨hkk,hkA,hkN,hkT⟩:=kw_k E x TP TU s idx kn lb (fun v n t b=>Ty.wc E x v n t b ty) ty.wn (ty.wt x) ty.wb ty
  have he:KX.ok P E W0 x ver fx s pb po ⟨ty.kw E x TP TU s idx kn lb (fun v n t b=>Ty.wc E x v n t b ty) ty.wn (ty.wt x) ty.wb,if fx && !ty.isD d then some (ty.wr fx ver d) else none⟩:=by
   cases ty with
   | scal c df =>
    simp only[Ty.okW,Bool.and_eq_true,bne_iff_ne,ne_eq] at hokt
    exact kx_scal H (B:=B) htyp hk32 hrow (fun _=>Flds.okW_uv r hokr hfl) hokt.1 hokt.2 hoff (hc.take _) hrt
   | list TS null e =>
    cases null with
    | none=>exact kx_list H HI (B:=B) hty hokt hk32 hrow (fun _=>Flds.okW_uv r hokr hfl) hoff (hc.take _) hrt
    | some N=>cases htyp
   | _=>cases htyp
  have hkx':KXs P E W0 x ver fx s pb po (kn+1) (kt++[⟨ty.kw E x TP TU s idx kn lb (fun v n t b=>Ty.wc E x v n t b ty) ty.wn (ty.wt x) ty.wb,if fx && !ty.isD d then some (ty.wr fx ver d) else none⟩]) tags:=by
   refine ⟨fun e h=>?_,fun e h=>?_,?_,fun e h=>?_,fun _=>⟨hfl,hrow,hone,hneq,fun e h=>?_⟩⟩
   ·rcases List.mem_append.1 h with h | h
    ·exact hkx.ok e h
    ·simp only[List.mem_singleton] at h;subst h;exact he
   ·rcases List.mem_append.1 h with h | h
    ·have:=hkx.lt e h;omega
    ·simp only[List.mem_singleton] at h;subst h;simp only;omega
   ·refine List.pairwise_append.2 ⟨hkx.asc,List.pairwise_singleton _ _,fun e h f hf=>?_⟩
    simp only[List.mem_singleton] at hf
    subst hf
    have:=hkx.lt e h
    simp only
    omega
   ·rcases List.mem_append.1 h with h | h
    ·exact hkx.beh e h
    ·simp only[List.mem_singleton] at h;subst h;simp only;rw[hkk];exact htag
   ·rcases List.mem_append.1 h with h | h
    ·exact (hkx.fl (List.ne_nil_of_mem h)).2.2.2.2 e h
    ·simp only[List.mem_singleton] at h;subst h;simp only;omega
  have hkn:qC (kt++[⟨ty.kw E x TP TU s idx kn lb (fun v n t b=>Ty.wc E x v n t b ty) ty.wn (ty.wt x) ty.wb,if fx && !ty.isD d then some (ty.wr fx ver d) else none⟩])++tags=if fx && !ty.isD d then qx kn (ty.wr fx ver d) (qC kt++tags) else qC kt++tags:=by
   rw[knTags_snoc]
   by_cases h:(fx && !ty.isD d)=true
   ·simp only[if_pos h,hkk]
    rw[yh _ _ _ _ (fun y hy=>by obtain ⟨e,h1,h2,_⟩:=knTags_mem hy;have:=hkx.lt e h1;omega) htag]
    simp
   ·simp only[if_neg h,List.append_nil]
  have hgo:=hr' G x ver fx L TP TU s (idx+1) (off+ty.size) n t b B pb po (kn+1) a w xs (cs.drop ty.size) ds tags _ Q hokr hs hsn hs1 (by rw[List.map_append,List.map_cons,List.map_nil,hkN];exact hn) (by rw[List.map_append,List.map_cons,List.map_nil,hkA,hkT];exact ht) hst hp (by have:=hc.drop ty.size;rwa [Nat.add_assoc] at this) hrr hkx' (by rw[hkn];exact hb) (by rw[hkn];exact k)
  rw[List.map_append,List.map_cons,List.map_nil] at hgo
  exact hgo
 | _=>cases hvt
end
end Go.Km
namespace Go.Km
open Go Go.RowKit
attribute [local irreducible] vc rO_ qz
section
variable {P : Program} {E : Env} {W0 : World} {sb : Sb} {G : Nat → Option Obj}
theorem wok_struct (TP TU:TypeId) (FD:FuncId) (fs:Flds) (h:fs.WOk P E W0 sb):(Ty.struct TP TU FD fs).WOk P E W0 sb:=by
 intro G x ver fx L v n t b B a w xs cs d Q hok hs hv hv1 hn ht hst hh hr hb k
 cases d with
 | obj ds tags =>
  simp only[Ty.Rep] at hr
  simp only[Ty.Holds,Ty.tp] at hh
  obtain ⟨pb,po,hp,hc⟩:=hh
  simp only[Ty.wr] at hb k
  simp only[Ty.wc]
  exact h G x ver fx L TP TU v 0 0 n t b B pb po 0 a w xs cs ds tags [] Q hok hs hv hv1 hn ht hst hp (by simpa using hc) hr KXs.nil hb k
 | _=>exact absurd hr (by simp[Ty.Rep])
theorem w_lit {x:Cx} {ver:Nat} {fx:Bool} {L n t:Nat} {a:Act} {w:World} {xs:List UInt8} {z:UInt8} {c:Int} {Q:Exit->Act->World->Prop} (hB:xd P E.tB E.tU8 1=true) (hc:Value.int .u8 c=bv z)
  (hs:WSl x L n t fx) (hsz:t+3<=a.tmps.size) (hst:WSt P E W0 G x ver fx a w xs) (hb:xs.length+1<=big)
  (k:∀ a' w',Fr (KW L n t) a a'->WSt P E W0 G x ver fx a' w' (xs++[z])->Q .normal a' w') :
  vc P (rg [qd t (.tmp 1) E.tB,zg (t+1) E.tB 1 #[(0,.const (.int .u8 c))],xI (t+2) .append #[.tmp t,.tmp (t+1)] #[E.tB,E.tB] E.tB,qc 1 (.tmp (t+2)) E.tB]) Q a w:=by
 have h1:=hs.one;have h2:=hs.nL;have h3:=hs.Lt
 have hsize:=hst.size
 refine vR (by simp) ?_
 refine rM ?_
 refine xB (s:=1) (vs:=[bv z]) hB (by simp[xi,hc]) rfl (by intro v hv;simp only[List.mem_singleton] at hv;subst hv;rfl) (by omega) (by omega) ?_
 refine jE (sz:=1) (m:=1) (U:=⟨W0.heap.size,G⟩) (v:=a.eval (.tmp 1)) (n:=xs.length) (xs:=xs.map bv) (u:=.slice (some ⟨w.heap.size,0,none⟩) 1 1) (news:=[bv z]) hB (by simp (disch:=(try simp only[sP]);omega) only[eV]) (by simp (disch:=(try simp only[sP]);omega) only[eV]) (hst.own.alloc _) (by simp;omega) ?_ hb ?_
 ·refine xW (rB hB) ?_ rfl (xo [z])
  intro j u hu
  rw[Nat.zero_add]
  exact qt w _ E.tU8 (by simpa [bv,Value.cells] using hu)
 intro v' w' hown hbel
 refine rA (dn ?_)
 have hf:∀ v1 v2 v3 v4,Fr (KW L n t) a ((((a.put (some t) v1).put (some (t+1)) v2).put (some (t+2)) v3).put (some 1) v4):=fun v1 v2 v3 v4 =>
  ((((Fr.refl _ a).put _ (hs.kt t (Nat.le_refl _))).put _ (hs.kt _ (by omega))).put _ (hs.kt _ (by omega))).put _ hs.k1
 refine k _ w' (hf _ _ _ _) (hst.step hs (hf _ _ _ _) (v':=v') (by simp (disch:=(try simp only[sP]);omega) only[eV]) ⟨?_,?_⟩)
 ·rw[List.map_append,List.length_append]
  exact hown
 ·exact ((Below.refl W0.heap.size w).alloc hsize _).trans hbel
theorem r_eqNilPW {d T x ty p af g ad} {e:TypeId} {a:Act} {w:World} {r:List Oper} {Q:Exit->Act->World->Prop} (hT:P.underlying T=some (.pointer e)) (hx:a.eval x=.pointer ad) (h:rO_ P Q r (a.put (some d) (.bool ad.isNone)) w) :
  rO_ P Q (⟨some d,.binOp .eql T x (.const (.pointer none)) T,ty,p,af,g⟩::r) a w:=by
 refine st ?_
 have hb:(binOp .eql T (.pointer ad) (.pointer none)).run P w=.ok (.bool ad.isNone) w:=by
  have h0:∀ k:Nat,(Op.equalIn (k+1) T (.pointer ad) (.pointer none)).run P w=.ok ad.isNone w:=fun k=>by
   cases ad<;>simp[Op.equalIn,run_underlying hT]
  simp only[binOp]
  simp[Op.equal,Op.maxDepth,h0 9999]
 have hg:(eqGuard .eql T x (.const (.pointer none)) (.pointer ad) (.pointer none))=pure ():=by cases ad<;>rfl
 simp only[Oper.wp,execOp,hx,xi,hg,hb,Sem.run_bind,Sem.run_pure,Result.andThen_ok,Oper.upon_value]
 exact h
theorem wok_nstruct (TP TU:TypeId) (FD:FuncId) (fs:Flds) (PP:TypeId) (h:fs.WOk P E W0 sb):(Ty.nstruct TP TU FD fs PP).WOk P E W0 sb:=by
 intro G x ver fx L v n t b B a w xs cs d Q hok hs hv hv1 hn ht hst hh hr hb k
 simp only[Ty.okW,Bool.and_eq_true] at hok
 obtain ⟨⟨⟨hB,hT⟩,_⟩,hF⟩:=hok
 obtain ⟨te,hT⟩:=gg hT
 have h1:=hs.one;have h2:=hs.nL;have h3:=hs.Lt
 simp only[Ty.wn] at hn
 simp only[Ty.wt] at ht
 have hh':cs=[a.eval (.tmp v)]:=by simpa [Ty.Holds,Ty.tp,Ty.arr] using hh
 subst hh'
 simp only[Ty.wc]
 have hf2:∀ u v2,Fr (KW L n t) a ((a.put (some t) u).put (some (t+1)) v2):=fun u v2=>((Fr.refl _ a).put _ (hs.kt t (Nat.le_refl _))).put _ (hs.kt _ (by omega))
 cases d with
 | list o =>
  rcases o with _ | l
  ·have hpv:a.eval (.tmp v)=.pointer none:=by simpa [Ty.Rep] using hr
   simp only[Ty.wr] at hb k
   refine vS (vX (rM ?_))
   refine r_eqNilPW (ad:=none) hT (by simp (disch:=(try simp only[sP]);omega) only[eV,hpv]) ?_
   refine dn ?_
   refine vS (vC (t:=true) (by simp (disch:=(try simp only[sP]);omega) only[eV,Option.isNone]) (fun _=>?_) (fun h=>by cases h))
   refine w_lit (z:=255) (n:=n) (L:=L) (t:=t+2) hB rfl (hs.up (Nat.le_refl _) hs.nL (by omega)) (by rw[(hf2 _ _).size];omega) (hst.fr hs (hf2 _ _) (by simp (disch:=(try simp only[sP]);omega) only[eV])) (by simpa using hb) ?_
   exact fun a' w' hf hst'=>vN (vN (k a' w' ((hf2 _ _).trans (hf.mono (KW.mono (Nat.le_refl _) (by omega)))) hst'))
  ·rcases l with _ | ⟨d0,_ | ⟨d1,r⟩⟩
   ·exact absurd hr (by simp[Ty.Rep])
   ·cases d0 with
    | obj ds tags =>
     simp only[Ty.Rep] at hr
     obtain ⟨q,c,hcv,hBq,hq,hcl,hcc,hrep⟩:=hr
     have hpv:a.eval (.tmp v)=.pointer (some ⟨q,0,none⟩):=by simpa using hcv
     simp only[Ty.wr,List.length_cons] at hb k
     refine vS (vX (rM ?_))
     refine r_eqNilPW (ad:=some ⟨q,0,none⟩) hT (by simp (disch:=(try simp only[sP]);omega) only[eV,hpv]) ?_
     refine dn ?_
     refine vS (vC (t:=false) (by simp (disch:=(try simp only[sP]);omega) only[eV,Option.isNone]) (fun h=>by cases h) (fun _=>?_))
     refine vS (w_lit (z:=1) (n:=n) (L:=L) (t:=t+5) hB rfl (hs.up (Nat.le_refl _) hs.nL (by omega)) (by rw[(hf2 _ _).size];omega) (hst.fr hs (hf2 _ _) (by simp (disch:=(try simp only[sP]);omega) only[eV])) (by omega) ?_)
     intro a' w' hf hst'
     have hf':Fr (KW L n t) a a':=(hf2 _ _).trans (hf.mono (KW.mono (Nat.le_refl _) (by omega)))
     refine h G x ver fx L TP TU v 0 0 n (t+8) b (q+1) q 0 0 a' w' (xs++[1]) c ds tags [] _ hF (hs.up (Nat.le_refl _) hs.nL (by omega)) hv hv1 hn (by rw[hf'.size];simp only[List.map_nil];omega) hst' (by rw[hf'.slot v ⟨hv1,.inl hv⟩];exact hpv) hcc hrep KXs.nil (by simp only[qC,List.filterMap_nil,List.nil_append,List.length_append,List.length_cons,List.length_nil];omega) ?_
     intro a2 w2 hf3 hst2
     refine vN (vN (k a2 w2 (hf'.trans (hf3.mono (KW.mono (Nat.le_refl _) (by omega)))) ?_))
     simp only[qC,List.filterMap_nil,List.nil_append] at hst2
     rw[List.append_assoc] at hst2
     exact hst2
    | _=>exact absurd hr (by simp[Ty.Rep])
   ·exact absurd hr (by cases d0<;>simp[Ty.Rep])
 | _=>exact absurd hr (by simp[Ty.Rep])
def zG (null:Bool) (fx:Bool) (o:Option (List D)):List UInt8:=if null&&o.isNone then jb fx else zk fx (o.getD []).length
theorem wr_list (fx:Bool) (ver:Nat) (TS:TypeId) (null:Option Nat) (e:Ty) (o:Option (List D)) :
  (Ty.list TS null e).wr fx ver (.list o)=zG null.isSome fx o++((o.getD []).map fun d=>e.wr fx ver d).flatten:=by
 cases o with
 | none=>cases null<;>simp[Ty.wr,zG]
 | some l=>simp[Ty.wr,zG]
theorem w_lens (H:EnvW P E sb.T) {x:Cx} {ver:Nat} {fx:Bool} {TS e:TypeId} {sz L v n t len cap:Nat} {ad:Option Addr} {a:Act} {w:World} {xs:List UInt8} {o:Option (List D)} {null:Bool} {Q:Exit->Act->World->Prop}
  (hok:(if null then x.ok E.wCNLen E.wNLen else x.ok E.wCLen E.wLen)=true) (hT:xw P TS=some (e,sz))
  (hs:WSl x L n t fx) (hv:v<n) (hv1:v≠1) (hsz:t+x.nt (if null then 6 else 4)<=a.tmps.size) (hst:WSt P E W0 G x ver fx a w xs) (ha:a.eval (.tmp v)=.slice ad len cap)
  (hlen:len=(o.getD []).length) (had:null=true->ad.isNone=o.isNone) (hbig:len<=big) (hb:xs.length+(zG null fx o).length<=big)
  (k:∀ a' w',Fr (KW L n t) a a'->WSt P E W0 G x ver fx a' w' (xs++zG null fx o)->Q .normal a' w') :
  vc P (if null=true then kL E x t 6 (wNLens E E.wCNLen TS v) (wNLens E E.wNLen TS v) else kL E x t 4 (wLens E E.wCLen TS v) (wLens E E.wLen TS v)) Q a w:=by
 have h1:=hs.one;have h2:=hs.nL;have h3:=hs.Lt
 cases null with
 | true =>
  simp only[if_true] at hok hsz ⊢
  obtain ⟨hG,hF⟩:=Cx.ok_inv hok
  have hd:∀ f,zG true f o=if ad.isNone=true then jb f else zk f len:=by
   intro f
   rw[had rfl,hlen]
   cases o<;>simp[zG]
  rw[hd] at hb
  refine m_flex (K:=KW L n t) (fx:=fx) (fun f hf=>⟨hst.fl f hf,by have:=(hs.fl f hf).1;omega⟩) hs.no hs.kt (by omega) hsz ?_ ?_
  ·intro hfx a' t' hf ht' hsz' he
   subst hfx
   have hs':=hs.up (Nat.le_refl n) hs.nL ht'
   have hst':=hst.fr hs hf (he 1 (by omega))
   refine m_nlens (K:=KW L n t') rfl (by rw[he v (by omega)];exact ha) hT (H.cnlen (hF _ hs.no rfl) len ad.isNone _ _ hbig _ xs hst'.own hst'.size hb) hs'.kt hs'.k1 (by omega) (by omega) (by rw[hf.size];exact hsz') ?_
   intro a2 v2 w2 hf2 e2 hS
   rw[← hd] at hS
   exact k a2 w2 (hf.trans (hf2.mono (KW.mono (Nat.le_refl _) ht'))) (hst'.step hs' hf2 e2 hS)
  ·intro hfx a' t' hf ht' hsz' he
   subst hfx
   have hs':=hs.up (Nat.le_refl n) hs.nL ht'
   have hst':=hst.fr hs hf (he 1 (by omega))
   refine m_nlens (K:=KW L n t') rfl (by rw[he v (by omega)];exact ha) hT (H.nlen hG len ad.isNone _ _ hbig _ xs hst'.own hst'.size hb) hs'.kt hs'.k1 (by omega) (by omega) (by rw[hf.size];exact hsz') ?_
   intro a2 v2 w2 hf2 e2 hS
   rw[← hd] at hS
   exact k a2 w2 (hf.trans (hf2.mono (KW.mono (Nat.le_refl _) ht'))) (hst'.step hs' hf2 e2 hS)
 | false =>
  simp only[Bool.false_eq_true,if_false] at hok hsz ⊢
  obtain ⟨hG,hF⟩:=Cx.ok_inv hok
  have hd:∀ f,zG false f o=zk f len:=by
   intro f
   rw[hlen]
   simp[zG]
  rw[hd] at hb
  refine m_flex (K:=KW L n t) (fx:=fx) (fun f hf=>⟨hst.fl f hf,by have:=(hs.fl f hf).1;omega⟩) hs.no hs.kt (by omega) hsz ?_ ?_
  ·intro hfx a' t' hf ht' hsz' he
   subst hfx
   have hs':=hs.up (Nat.le_refl n) hs.nL ht'
   have hst':=hst.fr hs hf (he 1 (by omega))
   refine m_lens (K:=KW L n t') rfl (by rw[he v (by omega)];exact ha) hT (H.clen (hF _ hs.no rfl) len _ _ hbig _ xs hst'.own hst'.size hb) hs'.kt hs'.k1 (by omega) (by omega) (by rw[hf.size];exact hsz') ?_
   intro a2 v2 w2 hf2 e2 hS
   rw[← hd] at hS
   exact k a2 w2 (hf.trans (hf2.mono (KW.mono (Nat.le_refl _) ht'))) (hst'.step hs' hf2 e2 hS)
  ·intro hfx a' t' hf ht' hsz' he
   subst hfx
   have hs':=hs.up (Nat.le_refl n) hs.nL ht'
   have hst':=hst.fr hs hf (he 1 (by omega))
   refine m_lens (K:=KW L n t') rfl (by rw[he v (by omega)];exact ha) hT (H.len hG len _ _ hbig _ xs hst'.own hst'.size hb) hs'.kt hs'.k1 (by omega) (by omega) (by rw[hf.size];exact hsz') ?_
   intro a2 v2 w2 hf2 e2 hS
   rw[← hd] at hS
   exact k a2 w2 (hf.trans (hf2.mono (KW.mono (Nat.le_refl _) ht'))) (hst'.step hs' hf2 e2 hS)
theorem jX {α:Type} (l:List D) (f:D->List α) (i:Nat) (h:i<l.length):((l.take (i+1)).map f).flatten=((l.take i).map f).flatten++f l[i]:=by
 rw[List.take_succ_eq_append_getElem h,List.map_append,List.flatten_append]
 simp
theorem yF {α:Type} (l:List D) (f:D->List α) (i:Nat):((l.take i).map f).flatten.length<=((l.map f).flatten).length:=by
 have:l=l.take i++l.drop i:=(List.take_append_drop i l).symm
 conv=>rhs;rw[this]
 rw[List.map_append,List.flatten_append,List.length_append]
 omega
set_option maxHeartbeats 1000000 in
theorem wok_list (H:EnvW P E sb.T) (TS:TypeId) (null:Option Nat) (e:Ty) (he:e.WOk P E W0 sb) (hrep:∀ cs B d,e.Rep W0 sb B cs d->e.tp=none->e.arr=false->∃ u,cs=[u]):(Ty.list TS null e).WOk P E W0 sb:=by
 intro G x ver fx L v n t b B a w xs cs d Q hok hs hv hv1 hn ht hst hh hr hb k
 have h1:=hs.one;have h2:=hs.nL;have h3:=hs.Lt
 simp only[Ty.okW,Bool.and_eq_true,Bool.not_eq_true'] at hok
 obtain ⟨⟨⟨⟨hfn,hTS⟩,hslice⟩,hearr⟩,hoke⟩:=hok
 obtain ⟨te,hT⟩:=sliceB_inv hslice
 have hh':cs=[a.eval (.tmp v)]:=by simpa [Ty.Holds,Ty.tp,Ty.arr] using hh
 subst hh'
 simp only[Ty.wn] at hn
 simp only[Ty.wt] at ht
 cases d with
 | list o =>
  rw[wr_list] at hb k
  -- what the slot holds
  obtain ⟨ad,cap,ha,had,hbig,hel⟩:∃ ad cap,a.eval (.tmp v)=.slice ad (o.getD []).length cap/\(null.isSome=true->ad.isNone=o.isNone)/\(o.getD []).length<=big ∧
    ∀ (i:Nat) (h:i<(o.getD []).length),∃ q,ad=some ⟨q,0,none⟩/\q<W0.heap.size/\∃ c:List Value,c.length=e.size/\qb W0 q (i*e.size) c/\e.Rep W0 sb (q+1) c (o.getD [])[i]:=by
   cases o with
   | none =>
    simp only[Ty.Rep,List.cons.injEq,and_true] at hr
    rcases hr with hr | ⟨rfl,q,cap,hr,_⟩
    ·exact ⟨none,0,hr,fun _=>rfl,Nat.zero_le _,fun i h=>by simp at h⟩
    ·refine ⟨some ⟨q,0,none⟩,cap,hr,?_,Nat.zero_le _,fun i h=>by simp at h⟩
     intro h
     cases h
   | some l =>
    simp only[Ty.Rep] at hr
    obtain ⟨q,cap,hv',hB,hq,hbg,hall⟩:=hr
    simp only[List.cons.injEq,and_true] at hv'
    refine ⟨some ⟨q,0,none⟩,cap,hv',fun _=>rfl,hbg,fun i h=>⟨q,rfl,hq,?_⟩⟩
    exact hall i _ (List.getElem?_eq_getElem h)
  generalize hl:o.getD []=l at *
  have hh0:(zG null.isSome fx o).length<=(zG null.isSome fx o++(l.map fun d=>e.wr fx ver d).flatten).length:=by simp
  simp only[Ty.wc]
  generalize ht1:t+x.nt (if null.isSome=true then 6 else 4)=t1 at *
  have htt1:t<=t1:=by omega
  refine vS (w_lens H hfn hT hs hv hv1 (by rw[ht1];omega) hst ha (by rw[hl]) had hbig (by omega) ?_)
  intro a1 w1 hf1 hst1
  have hav1:a1.eval (.tmp v)=.slice ad l.length cap:=by rw[hf1.slot v ⟨hv1,.inl hv⟩];exact ha
  have hs1:WSl x L n t1 fx:=hs.up (Nat.le_refl _) hs.nL htt1
  -- the state at the head of round i
  let I:Nat->Act->World->Prop:=fun i a' w'=>Fr (KW L n t) a a'/\WSt P E W0 G x ver fx a' w' (xs++zG null.isSome fx o++((l.take i).map fun d=>e.wr fx ver d).flatten)
  have stab:∀ i a' a2 w',I i a' w'->a2.tmps.size=a'.tmps.size->a2.defers=a'.defers->(∀ k,k<t1->a2.eval (.tmp k)=a'.eval (.tmp k))->I i a2 w':=by
   rintro i a' a2 w' ⟨hfr,hw⟩ hsz hdf hsl
   refine ⟨⟨hsz.trans hfr.size,hdf.trans hfr.defers,fun k hk=>?_⟩,⟨hw.below,by rw[hsl 1 (by omega)];exact hw.own,by rw[hsl x.vs (by have:=hs.vs.1;omega)];exact hw.ver,fun f hf=>by rw[hsl f (by have:=(hs.fl f hf).1;omega)];exact hw.fl f hf⟩⟩
   rw[hsl k (by have:=hk.2;omega)]
   exact hfr.slot k hk
  have hI0:I 0 a1 w1:=⟨hf1,by simpa using hst1⟩
  have hdone:∀ a' w',I l.length a' w'->vc P (sq []) Q a' w':=by
   rintro a' w' ⟨hfr,hw⟩
   refine vN (k a' w' hfr ?_)
   rw[List.take_length] at hw
   simpa [List.append_assoc] using hw
  have hsize1:a1.tmps.size=a.tmps.size:=hf1.size
  refine vS ?_
  cases htp:e.tp with
  | some TP' =>
   have hh:e.h=3:=by simp[Ty.h,htp]
   rw[hh] at ht
   refine m_wloop hav1 hT (by unfold big at hbig;omega) (by omega) (by omega) (by omega) I stab hI0 ?_ hdone
   intro i a2 w2 hi ⟨hfr2,hw2⟩ hcnt hsz2 ht02
   obtain ⟨q,rfl,hq,c,hcl,hcc,hrc⟩:=hel i hi
   have hav2:a2.eval (.tmp v)=.slice (some ⟨q,0,none⟩) l.length cap:=by rw[hfr2.slot v ⟨hv1,.inl hv⟩];exact ha
   refine vX (rM (rA (dn (vX (rM (rM ?_))))))
   refine qA (j:=i) (k:=.i64) (b:=q) (o:=0) (len:=l.length) (cap:=cap) hT (by simp (disch:=(try simp only[sP]);omega) only[eV,hav2]) (by simp (disch:=(try simp only[sP]);omega) only[eV,hcnt]) hi ?_
   refine rA (dn ?_)
   generalize hA:((((((a2.put (some (t1+4)) (a2.eval (.tmp (t1+2)))).put (some n) ((a2.put (some (t1+4)) (a2.eval (.tmp (t1+2)))).eval (.tmp (t1+4))))).put (some (t1+5)) _).put (some (t1+6)) _).put (some (t1+7)) (.pointer (some ⟨q,0+i*e.size,none⟩)))=A
   have hA7:A.eval (.tmp (t1+7))=.pointer (some ⟨q,0+i*e.size,none⟩):=by rw[← hA];simp (disch:=(try simp only[sP]);omega) only[eV]
   have hAk:∀ k,k≠n->k<t1+4->A.eval (.tmp k)=a2.eval (.tmp k):=by intro k hk hkt;rw[← hA];simp (disch:=(try simp only[sP]);omega) only[eV]
   have hAs:A.tmps.size=a2.tmps.size:=by rw[← hA];simp only[zP]
   have hAd:A.defers=a2.defers:=by rw[← hA];simp only[dF]
   have hB1:∀ k,k≠n->k≠n+1->k<t1+4->(A.put (some (n+1)) (A.eval (.tmp (t1+7)))).eval (.tmp k)=a2.eval (.tmp k):=by
    intro k h h' h''
    rw[qi _ _ _ _ (by omega)]
    exact hAk k h h''
   have hBf:Fr (KW L n t) a2 (A.put (some (n+1)) (A.eval (.tmp (t1+7)))):=⟨by rw[zP,hAs],by rw[dF,hAd],fun k hk=>hB1 k (by have:=hk.2;omega) (by have:=hk.2;omega) (by have:=hk.2;omega)⟩
   have hstB:=hw2.fr hs hBf (hB1 1 (by omega) (by omega) (by omega))
   refine he G x ver fx L (n+1) (n+2) (t1+8) (b+2) (q+1) _ w2 _ c l[i] _ hoke (hs.up (by omega) (by omega) (by omega)) (by omega) (by omega) (by omega) (by rw[hBf.size];omega) hstB ?_ hrc ?_ ?_
   ·simp only[Ty.Holds,htp]
    refine ⟨q,0+i*e.size,?_,by rw[Nat.zero_add];exact hcc⟩
    rw[qB _ _ _ (by rw[hAs];omega),hA7]
   ·have:=yF l (fun d=>e.wr fx ver d) (i+1)
    rw[jX _ _ _ hi] at this
    simp only[List.length_append] at this hb ⊢
    omega
   ·intro a3 w3 hf3 hst3
    refine ⟨⟨(hfr2.trans hBf).trans (hf3.mono (KW.mono (by omega) (by omega))),?_⟩,?_,?_,?_,?_⟩
    ·rw[jX _ _ _ hi]
     simpa [List.append_assoc] using hst3
    ·rw[hf3.slot (t1+2) ⟨by omega,.inr ⟨by omega,by omega⟩⟩];exact hB1 _ (by omega) (by omega) (by omega)
    ·rw[hf3.slot (t1+1) ⟨by omega,.inr ⟨by omega,by omega⟩⟩];exact hB1 _ (by omega) (by omega) (by omega)
    ·rw[hf3.size,hBf.size]
    ·rw[hf3.slot t1 ⟨by omega,.inr ⟨by omega,by omega⟩⟩];exact hB1 _ (by omega) (by omega) (by omega)
  | none =>
   have hh:e.h=4:=by simp[Ty.h,htp]
   rw[hh] at ht
   obtain ⟨hone,hsz1⟩:=okW_one hoke htp hearr
   refine m_wloop hav1 hT (by unfold big at hbig;omega) (by omega) (by omega) (by omega) I stab hI0 ?_ hdone
   intro i a2 w2 hi ⟨hfr2,hw2⟩ hcnt hsz2 ht02
   obtain ⟨q,rfl,hq,c,hcl,hcc,hrc⟩:=hel i hi
   have hav2:a2.eval (.tmp v)=.slice (some ⟨q,0,none⟩) l.length cap:=by rw[hfr2.slot v ⟨hv1,.inl hv⟩];exact ha
   obtain ⟨u,rfl⟩:=hrep _ _ _ hrc htp hearr
   have hcu:w2.cell? ⟨q,0+i*e.size,none⟩=some u:=by
    have:=hcc 0 u rfl
    rw[Nat.add_zero] at this
    rw[Nat.zero_add,hw2.below.cell (p:=⟨q,i*e.size,none⟩) hq]
    exact this
   refine vX (rM (rA (dn (vX (rM (rM ?_))))))
   refine qA (j:=i) (k:=.i64) (b:=q) (o:=0) (len:=l.length) (cap:=cap) hT (by simp (disch:=(try simp only[sP]);omega) only[eV,hav2]) (by simp (disch:=(try simp only[sP]);omega) only[eV,hcnt]) hi ?_
   refine rL (b:=q) (o:=0+i*e.size) (by simp (disch:=(try simp only[sP]);omega) only[eV]) hone hcu ?_
   refine rA (dn ?_)
   generalize hA:(((((((a2.put (some (t1+4)) (a2.eval (.tmp (t1+2)))).put (some n) ((a2.put (some (t1+4)) (a2.eval (.tmp (t1+2)))).eval (.tmp (t1+4))))).put (some (t1+5)) _).put (some (t1+6)) _).put (some (t1+7)) (.pointer (some ⟨q,0+i*e.size,none⟩))).put (some (t1+8)) u)=A
   have hA7:A.eval (.tmp (t1+8))=u:=by rw[← hA];simp (disch:=(try simp only[sP]);omega) only[eV]
   have hAk:∀ k,k≠n->k<t1+4->A.eval (.tmp k)=a2.eval (.tmp k):=by intro k hk hkt;rw[← hA];simp (disch:=(try simp only[sP]);omega) only[eV]
   have hAs:A.tmps.size=a2.tmps.size:=by rw[← hA];simp only[zP]
   have hAd:A.defers=a2.defers:=by rw[← hA];simp only[dF]
   have hB1:∀ k,k≠n->k≠n+1->k<t1+4->(A.put (some (n+1)) (A.eval (.tmp (t1+8)))).eval (.tmp k)=a2.eval (.tmp k):=by
    intro k h h' h''
    rw[qi _ _ _ _ (by omega)]
    exact hAk k h h''
   have hBf:Fr (KW L n t) a2 (A.put (some (n+1)) (A.eval (.tmp (t1+8)))):=⟨by rw[zP,hAs],by rw[dF,hAd],fun k hk=>hB1 k (by have:=hk.2;omega) (by have:=hk.2;omega) (by have:=hk.2;omega)⟩
   have hstB:=hw2.fr hs hBf (hB1 1 (by omega) (by omega) (by omega))
   refine he G x ver fx L (n+1) (n+2) (t1+9) (b+2) (q+1) _ w2 _ [u] l[i] _ hoke (hs.up (by omega) (by omega) (by omega)) (by omega) (by omega) (by omega) (by rw[hBf.size];omega) hstB ?_ hrc ?_ ?_
   ·simp only[Ty.Holds,htp,hearr,Bool.false_eq_true,if_false]
    rw[qB _ _ _ (by rw[hAs];omega),hA7]
   ·have:=yF l (fun d=>e.wr fx ver d) (i+1)
    rw[jX _ _ _ hi] at this
    simp only[List.length_append] at this hb ⊢
    omega
   ·intro a3 w3 hf3 hst3
    refine ⟨⟨(hfr2.trans hBf).trans (hf3.mono (KW.mono (by omega) (by omega))),?_⟩,?_,?_,?_,?_⟩
    ·rw[jX _ _ _ hi]
     simpa [List.append_assoc] using hst3
    ·rw[hf3.slot (t1+2) ⟨by omega,.inr ⟨by omega,by omega⟩⟩];exact hB1 _ (by omega) (by omega) (by omega)
    ·rw[hf3.slot (t1+1) ⟨by omega,.inr ⟨by omega,by omega⟩⟩];exact hB1 _ (by omega) (by omega) (by omega)
    ·rw[hf3.size,hBf.size]
    ·rw[hf3.slot t1 ⟨by omega,.inr ⟨by omega,by omega⟩⟩];exact hB1 _ (by omega) (by omega) (by omega)
 | _=>exact absurd hr (by simp[Ty.Rep])
end
end Go.Km
namespace Go.Km
open Go Go.RowKit
attribute [local irreducible] vc rO_ qz
theorem rep_one {w:World} {sb:Sb} (ty:Ty):∀ cs B d,ty.Rep w sb B cs d->ty.tp=none->ty.arr=false->∃ u,cs=[u]:=by
 intro cs B d h ht ha
 cases ty<;>first | (cases d<;>simp_all [Ty.Rep,Ty.tp,Ty.arr];done) | skip
 all_goals
  cases d with
  | bytes o=>cases o<;>simp only[Ty.Rep,Ty.tp,Ty.arr,reduceCtorEq] at h ht ha<;>first | exact ⟨_,h⟩ | exact ⟨_,h.1⟩ | (obtain ⟨_,h,_⟩:=h;exact ⟨_,h⟩) | (obtain ⟨_,_,h,_⟩:=h;exact ⟨_,h⟩) | (obtain ⟨_,_,_,h,_⟩:=h;exact ⟨_,h⟩)
  | list o =>
   rcases o with _ | ⟨_ | ⟨d0,_ | ⟨d1,r⟩⟩⟩<;>(try cases d0)<;>simp only[Ty.Rep,Ty.tp,Ty.arr,reduceCtorEq] at h ht ha<;>first | exact ⟨_,h⟩ | (rcases h with h | ⟨_,_,_,h,_⟩<;>exact ⟨_,h⟩) | (obtain ⟨_,_,h,_⟩:=h;exact ⟨_,h⟩) | (obtain ⟨_,h,_⟩:=h;exact ⟨_,h⟩)
  | int m=>simp[Ty.Rep,Ty.tp,Ty.arr] at h ht ha
  | obj l t=>simp[Ty.Rep,Ty.tp,Ty.arr] at h ht ha
section
variable {P : Program} {E : Env} {W0 : World} {sb : Sb} {G : Nat → Option Obj}
mutual
theorem wok_ty (H:EnvW P E sb.T) (HI:EnvI P E):∀ (ty:Ty),ty.WOk P E W0 sb
 | .scal s df=>wok_scal H s df
 | .named s T df=>wok_named H s T df
 | .uuid=>wok_uuid H
 | .text=>wok_text H
 | .ntext=>wok_ntext H
 | .ntextFrom N=>wok_ntextFrom H N
 | .bytes=>wok_bytes H
 | .nbytes=>wok_nbytes H
 | .list TS null e=>wok_list H TS null e (wok_ty H HI e) (rep_one e)
 | .struct TP TU FD fs=>wok_struct TP TU FD fs (yJ H HI fs)
 | .nstruct TP TU FD fs PP=>wok_nstruct TP TU FD fs PP (yJ H HI fs)
theorem yJ (H:EnvW P E sb.T) (HI:EnvI P E):∀ (fs:Flds),fs.WOk P E W0 sb
 | .nil tg=>wok_nil H HI tg
 | .cons v ty r=>by
  have h1:=wok_ty H HI ty
  have h2:=yJ H HI r
  cases hv:v.isTag with
  | false=>exact wok_cons v ty r hv h1 h2 (rep_one ty)
  | true=>exact wok_tag H HI v ty r hv h1 h2
end
def Msg.wtop (m:Msg):Nat:=m.wlocals+(match m.flex with | none=>5 | some _=>8)+m.wfs.wt m.wx+1
def Msg.isFlex (m:Msg) (ver:Nat):Bool:=match m.flex with | none=>false | some f=>decide (f<=ver)
def Msg.okW (P:Program) (E:Env) (m:Msg):Bool :=
 qQ P E.tI16&&ql P m.TU 0==some 0&&m.wfs.okW P E m.wx m.TU m.wi m.wi
theorem rO {P:Program} {w:World} {a:Act} {t:Nat} {v:Value} (h:a.eval (.tmp t)=v):(results { (default:Func) with results:=#[.tmp t] } a.tmps).run P w=.ok v w:=by
 subst h
 simp[results,Act.eval]
theorem qa.enter {P:Program} {f:FuncId} {np nt:Nat} {res:Array ResultVar} {c:Code} (ht:Text P f np nt res c) {args:Array Value} {w:World} {S:Value->World->Prop} (hn:args.size<=nt)
  (h:∀ a,a.tmps.size=nt->a.defers=[]->(∀ i v,args[i]? = some v->a.eval (.tmp i)=v)->vc P c (Out P res S) a w):qa P f args w S:=by
 refine qa.of_vc ht (h _ (by simp;omega) rfl ?_)
 intro i v hv
 have hi:i<args.size:=by
  rcases Nat.lt_or_ge i args.size with h | h
  ·exact h
  ·simp[Array.getElem?_eq_none h] at hv
 simp[Act.eval,Array.getElem?_append_left hi,hv]
theorem appendTo (H:EnvW P E sb.T) (HI:EnvI P E) {m:Msg} {f:FuncId} {np ntmps:Nat} (ht:Text P f np ntmps #[.tmp 4] (m.wcode E)) (hn:m.wtop<=ntmps) (hok:m.okW P E=true)
  {pb po ver:Nat} {cs:List Value} {ds:List D} {tags:List (Nat × List UInt8)} {B:Nat}
  (hver:W0.cell? ⟨pb,po,none⟩=some (.int .i16 (ver:Int))) (hc:qb W0 pb (po+m.wi) cs) (hr:m.wfs.Rep W0 sb B cs ds tags) (hb:(m.wfs.wr (m.isFlex ver) ver ds tags).length<=big) :
  qa P f #[.pointer (some ⟨pb,po,none⟩),.slice none 0 0] W0 fun v w=>w.ownsRow W0.heap.size E.tU8 1 v (m.wfs.wr (m.isFlex ver) ver ds tags).length ((m.wfs.wr (m.isFlex ver) ver ds tags).map bv)/\Below W0.heap.size W0 w:=by
 simp only[Msg.okW,Bool.and_eq_true,beq_iff_eq] at hok
 obtain ⟨⟨ho16,hof⟩,hokf⟩:=hok
 have hlw:6<=m.wlocals:=by unfold Msg.wlocals;cases m.flex<;>simp<;>omega
 have hnt:m.wlocals+6<=ntmps:=by unfold Msg.wtop at hn;cases hfl:m.flex<;>rw[hfl] at hn<;>simp only at hn<;>omega
 refine qa.enter ht (by simp;omega) ?_
 intro a0 hs0 hd0 hargs
 have e0:a0.eval (.tmp 0)=.pointer (some ⟨pb,po,none⟩):=hargs 0 _ rfl
 have e1:a0.eval (.tmp 1)=.slice none 0 0:=hargs 1 _ rfl
 unfold Msg.wcode
 have htop:m.wlocals+(match m.flex with | none=>5 | some _=>8)+m.wfs.wt m.wx+1<=ntmps:=hn
 have hloc:m.wlocals=(match m.flex with | none=>6 | some _=>7)+m.wfs.wn:=rfl
 generalize hL:m.wlocals=L at *
 simp only[List.cons_append,List.nil_append,List.append_assoc]
 refine vX (rA (dn (vS ?_)))
 refine m_load (K:=fun k=>k<L/\k≠5) (b:=pb) (o:=po) (off:=0) (val:=.int .i16 (ver:Int)) (by simp (disch:=(try simp only[sP]);omega) only[eV,e0]) hof ho16 hver (by simp) (fun d hd=>by omega) (by omega) (by simp only[zP];omega) ?_
 intro a1 hf1 he5
 have hs1:a1.tmps.size=ntmps:=by rw[hf1.size,zP,hs0]
 have hd1:a1.defers=[]:=by rw[hf1.defers,dF,hd0]
 have e10:a1.eval (.tmp 0)=.pointer (some ⟨pb,po,none⟩):=by rw[hf1.slot 0 (by omega),qi _ _ _ _ (by omega),e0]
 have e11:a1.eval (.tmp 1)=.slice none 0 0:=by rw[hf1.slot 1 (by omega),qi _ _ _ _ (by omega),e1]
 refine vX (rM (dn ?_))
 have hown:W0.ownsG ⟨W0.heap.size,Gd.none⟩ E.tU8 1 (.slice none 0 0) 0 []:=(World.ownsRow_nil _ _ _ _).toG
 have hbel:Below W0.heap.size W0 W0:=Grow.below (Eff.refl _ _)
 have hend:∀ (t1:Nat) (a2:Act) (w2:World),L<=t1->t1<ntmps->a2.tmps.size=ntmps->a2.defers=[]->WSt P E W0 Gd.none m.wx ver (m.isFlex ver) a2 w2 ([]++m.wfs.wr (m.isFlex ver) ver ds tags) →
   vc P (sq [rg [qd t1 (.tmp 1) E.tB,qc 4 (.tmp t1) E.tB],.ret]) (Out P #[.tmp 4] fun v w=>w.ownsRow W0.heap.size E.tU8 1 v (m.wfs.wr (m.isFlex ver) ver ds tags).length ((m.wfs.wr (m.isFlex ver) ver ds tags).map bv)/\Below W0.heap.size W0 w) a2 w2:=by
  intro t1 a2 w2 hLt htn hs2 hd2 hst
  refine vX (rM (rA (dn (vS (vT ?_)))))
  refine ⟨by simp only[dF];exact hd2,a2.eval (.tmp 1),rO (by simp (disch:=(try simp only[sP]);omega) only[eV]),?_,hst.below⟩
  simpa using hst.own.own
 cases hfl:m.flex with
 | none =>
  simp only[hfl] at htop hloc ⊢
  have hfx:m.isFlex ver=false:=by simp[Msg.isFlex,hfl]
  have hx:m.wx=⟨5,none,7⟩:=by simp[Msg.wx,hfl]
  refine zB ?_
  generalize hA:a1.put (some (L+4)) (a1.eval (.tmp 5))=A
  have hAe:∀ k,k<L->A.eval (.tmp k)=a1.eval (.tmp k):=fun k hk=>by rw[← hA,qi _ _ _ _ (by omega)]
  have hAs:A.tmps.size=ntmps:=by rw[← hA,zP,hs1]
  have hAd:A.defers=a1.defers:=by rw[← hA,dF]
  refine yJ (W0:=W0) (sb:=sb) H HI m.wfs Gd.none m.wx ver (m.isFlex ver) L m.TP m.TU 0 m.wi m.wi 6 (L+5) 0 B pb po 0 A W0 [] cs ds tags [] _ hokf ⟨by omega,by rw[hx];exact ⟨by decide,by decide⟩,by rw[hx];simp,fun _=>hfx,by omega,by omega⟩ (by omega) (by omega) (by simp only[List.map_nil];omega) (by simp only[List.map_nil];omega) ?_ (by rw[hAe 0 (by omega),e10]) hc hr KXs.nil (by simpa [qC] using hb) ?_
  ·exact ⟨hbel,by rw[hAe 1 (by omega),e11];exact hown,by rw[hx];exact (hAe 5 (by omega)).trans he5,by rw[hx];simp⟩
  ·intro a2 w2 hf2 hst
   exact hend _ a2 w2 (by omega) (by omega) (by rw[hf2.size,hAs]) (by rw[hf2.defers,hAd,hd1]) hst
 | some f =>
  simp only[hfl] at htop hloc ⊢
  have hfx:m.isFlex ver=decide ((ver:Int) ≥ (f:Int)):=by simp[Msg.isFlex,hfl]
  have hx:m.wx=⟨5,some 6,7⟩:=by simp[Msg.wx,hfl]
  simp only[List.cons_append,List.nil_append,List.append_assoc]
  refine vX (rM ?_)
  refine y6 (k:=.i16) (m:=(ver:Int)) (n:=(f:Int)) (by simp (disch:=(try simp only[sP]);omega) only[eV,he5]) rfl ?_
  refine rA (dn ?_)
  generalize hB:(((a1.put (some (L+4)) (a1.eval (.tmp 5))).put (some (L+5)) _).put (some (L+6)) (Value.bool (decide ((ver:Int) ≥ (f:Int))))).put (some 6) _=Bf
  have hBe:∀ k,k<L->k≠6->Bf.eval (.tmp k)=a1.eval (.tmp k):=fun k hk hk'=>by rw[← hB];simp (disch:=(try simp only[sP]);omega) only[eV]
  have hB6:Bf.eval (.tmp 6)=.bool (m.isFlex ver):=by rw[← hB,hfx];simp (disch:=(try simp only[sP]);omega) only[eV]
  have hBs:Bf.tmps.size=ntmps:=by rw[← hB];simp only[zP];exact hs1
  have hBd:Bf.defers=a1.defers:=by rw[← hB];simp only[dF]
  clear hB
  refine vX (rM (dn ?_))
  refine zB ?_
  generalize hA:Bf.put (some (L+7)) (Bf.eval (.tmp 6))=A
  have hAe:∀ k,k<L->A.eval (.tmp k)=Bf.eval (.tmp k):=fun k hk=>by rw[← hA,qi _ _ _ _ (by omega)]
  have hAs:A.tmps.size=ntmps:=by rw[← hA,zP,hBs]
  have hAd:A.defers=a1.defers:=by rw[← hA,dF,hBd]
  refine yJ (W0:=W0) (sb:=sb) H HI m.wfs Gd.none m.wx ver (m.isFlex ver) L m.TP m.TU 0 m.wi m.wi 7 (L+8) 0 B pb po 0 A W0 [] cs ds tags [] _ hokf ⟨by omega,by rw[hx];exact ⟨by decide,by decide⟩,by rw[hx];simp,by rw[hx];simp,by omega,by omega⟩ (by omega) (by omega) (by simp only[List.map_nil];omega) (by simp only[List.map_nil];omega) ?_ (by rw[hAe 0 (by omega),hBe 0 (by omega) (by omega),e10]) hc hr KXs.nil (by simpa [qC] using hb) ?_
  ·exact ⟨hbel,by rw[hAe 1 (by omega),hBe 1 (by omega) (by omega),e11];exact hown,by rw[hx];exact (hAe 5 (by omega)).trans ((hBe 5 (by omega) (by omega)).trans he5),by rw[hx];intro f' hf';simp only[Option.some.injEq] at hf';subst hf';exact (hAe 6 (by omega)).trans hB6⟩
  ·intro a2 w2 hf2 hst
   exact hend _ a2 w2 (by omega) (by omega) (by rw[hf2.size,hAs]) (by rw[hf2.defers,hAd,hd1]) hst
end
end Go.Km
namespace Go.Km
open Go Go.RowKit
attribute [local irreducible] vc rO_ qz qI qF
def o8 (z:Int):UInt8:=UInt8.ofNat z.toNat
theorem bv_o8 {z:Int} (h0:0<=z) (h1:z<256):bv (o8 z)=.int .u8 z:=by
 unfold bv o8
 have:z.toNat<256:=by omega
 rw[UInt8.toNat_ofNat']
 congr 1
 omega
theorem map_o8 {zs:List Int} (h:∀ z ∈ zs,0<=z/\z<256):(zs.map o8).map bv=zs.map fun z=>.int .u8 z:=by
 rw[List.map_map]
 apply List.map_congr_left
 intro z hz
 exact bv_o8 (h z hz).1 (h z hz).2
theorem kX (n:Int):IntKind.u8.wrap n=n % 256:=IntKind.wrap_u8' n
theorem xY (n:Int):0<=IntKind.u8.wrap n/\IntKind.u8.wrap n<256:=by rw[kX];omega
theorem flat_u8:∀ zs:List Int,((zs.map fun z=>Value.int .u8 z).flatMap fun v=>v.cells.toList)=zs.map fun z=>Value.int .u8 z
 | []=>rfl
 | z::r=>by simp only[List.map_cons,List.flatMap_cons,flat_u8 r];rfl
section
variable {P : Program} {a : Act} {w : World} {r : List Oper} {Q : Exit → Act → World → Prop}
theorem kA {d d2 s:Nat} {t n ps ty p af g ty2 p2 af2 g2 e v} {U:Gd} {xs:List UInt8} {zs:List Int} (hB:xd P t e 1=true) (hp:(ps.map fun (x:Nat × Operand)=>(x.1,a.eval x.2)).toList=((zs.map fun z=>Value.int .u8 z).zipIdx 0).map fun x=>(x.2,x.1)) (h8:∀ z ∈ zs,0<=z/\z<256) (hn:zs.length=n)
  (hlim:n<=1000) (hn0:0<n) (hs:a.eval (.tmp s)=v) (hsd:d≠s) (hd:d<a.tmps.size) (hown:w.ownsG U e 1 v xs.length (xs.map bv)) (hU:U.u<=w.heap.size) (hb:xs.length+n<=big)
  (h:∀ v' w',w'.ownsG U e 1 v' (xs++zs.map o8).length ((xs++zs.map o8).map bv)->Below U.u w w'->rO_ P Q r ((a.put (some d) (.slice (some ⟨w.heap.size,0,none⟩) n n)).put (some d2) v') w') :
  rO_ P Q (⟨some d,.buildSlice t n ps,ty,p,af,g⟩::⟨some d2,.call { callee:=.builtin .append,args:=#[.tmp s,.tmp d],argTypes:=#[t,t] },ty2,p2,af2,g2⟩::r) a w:=by
 refine xB (s:=1) (vs:=zs.map fun z=>.int .u8 z) hB hp (by simpa using hn) (by intro v hv;obtain ⟨z,_,rfl⟩:=List.mem_map.1 hv;rfl) (by omega) hn0 ?_
 have hcs:((zs.map fun z=>Value.int .u8 z).flatMap fun v=>v.cells.toList)=(zs.map o8).map bv:=by
  rw[map_o8 h8,flat_u8]
 rw[hcs]
 have hlen:(zs.map o8).length=n:=by simpa using hn
 refine jE (sz:=1) (m:=n) (U:=U) (v:=v) (n:=xs.length) (xs:=xs.map bv) (news:=(zs.map o8).map bv) hB (by rw[qi _ _ _ _ hsd];exact hs) (qB _ _ _ hd) (hown.alloc _) (by simp;omega) ?_ hb ?_
 ·refine xW (rB hB) ?_ (by simp[hn]) (xo _)
  intro j u hu
  rw[Nat.zero_add]
  exact qt w _ e (by simpa using hu)
 ·intro v' w' h1 h2
  refine h v' w' (by simpa [hn] using h1) ?_
  exact ((Below.refl U.u w).alloc (o:=.cells _ e) hU).trans h2
end
theorem wrap_i16 (n:Int):IntKind.i16.wrap n=(n+32768) % 65536-32768:=by
 simp[IntKind.wrap,IntKind.bits,IntKind.signed]
 split<;>omega
theorem wrap_i32 (n:Int):IntKind.i32.wrap n=(n+2147483648) % 4294967296-2147483648:=by
 simp[IntKind.wrap,IntKind.bits,IntKind.signed]
 split<;>omega
theorem wrap_u16 (n:Int):IntKind.u16.wrap n=n % 65536:=by simp[IntKind.wrap,IntKind.bits,IntKind.signed]
theorem jM (n:Int):IntKind.u32.wrap n=n % 4294967296:=by simp[IntKind.wrap,IntKind.bits,IntKind.signed]
theorem zo (n:Int):IntKind.u64.wrap n=n % 18446744073709551616:=by simp[IntKind.wrap,IntKind.bits,IntKind.signed]
theorem be1 (n:Int):be 1 n=[o8 (n % 256)]:=by simp[be,o8]
theorem be2 (n:Int):be 2 n=[o8 (n / 256 % 256),o8 (n % 256)]:=by simp[be,o8,Int.fdiv_eq_ediv_of_nonneg]
theorem be4 (n:Int):be 4 n=[o8 (n / 16777216 % 256),o8 (n / 65536 % 256),o8 (n / 256 % 256),o8 (n % 256)]:=by simp[be,o8,Int.fdiv_eq_ediv_of_nonneg]
theorem be8 (n:Int):be 8 n=[o8 (n / 72057594037927936 % 256),o8 (n / 281474976710656 % 256),o8 (n / 1099511627776 % 256),o8 (n / 4294967296 % 256),o8 (n / 16777216 % 256),o8 (n / 65536 % 256),o8 (n / 256 % 256),o8 (n % 256)]:=by
 simp[be,o8,Int.fdiv_eq_ediv_of_nonneg]
theorem be2_mod (n:Int):be 2 (IntKind.u16.wrap n)=be 2 n:=by
 rw[be2,be2,wrap_u16,show n % 65536 / 256 % 256=n / 256 % 256 by omega,show n % 65536 % 256=n % 256 by omega]
theorem be4_mod (n:Int):be 4 (IntKind.u32.wrap n)=be 4 n:=by
 rw[be4,be4,jM,show n % 4294967296 / 16777216 % 256=n / 16777216 % 256 by omega,show n % 4294967296 / 65536 % 256=n / 65536 % 256 by omega,show n % 4294967296 / 256 % 256=n / 256 % 256 by omega,show n % 4294967296 % 256=n % 256 by omega]
theorem be8_mod (n:Int):be 8 (IntKind.u64.wrap n)=be 8 n:=by
 rw[be8,be8,zo,show n % 18446744073709551616 / 72057594037927936 % 256=n / 72057594037927936 % 256 by omega,show n % 18446744073709551616 / 281474976710656 % 256=n / 281474976710656 % 256 by omega,
  show n % 18446744073709551616 / 1099511627776 % 256=n / 1099511627776 % 256 by omega,show n % 18446744073709551616 / 4294967296 % 256=n / 4294967296 % 256 by omega,show n % 18446744073709551616 / 16777216 % 256=n / 16777216 % 256 by omega,
  show n % 18446744073709551616 / 65536 % 256=n / 65536 % 256 by omega,show n % 18446744073709551616 / 256 % 256=n / 256 % 256 by omega,show n % 18446744073709551616 % 256=n % 256 by omega]
section
variable {P : Program} {E : Env} {w : World} {U : Gd}
theorem k_u16 (ht:Text P E.wU16 2 13 #[.tmp 4] (c_wU16 E)) (hB:xd P E.tB E.tU8 1=true) (i16:qs P E.tU16=some .u16) (i8:qs P E.tU8=some .u8) {n:Int} (hn:0<=n/\n<=65535):Wr1 P E E.wU16 U [.int .u16 n] (be 2 n) w:=by
 intro dv xs hown hU hb
 refine qa.enter ht (by simp) ?_
 intro a hsz hdf harg
 have e0:=harg 0 dv (by simp)
 have e1:=harg 1 (.int .u16 n) (by simp)
 unfold c_wU16
 refine vX (rA (dn (vX (rM (rM ?_)))))
 refine r_shr (by (try simp (disch:=(try simp only[sP]);omega) only[eV,e1])<;>(first | rfl | assumption)) (by (try simp (disch:=(try simp only[sP]);omega) only[eV,e1])<;>(first | rfl | assumption)) (by decide) ?_
 refine qM (by assumption) (by assumption) (by (try simp (disch:=(try simp only[sP]);omega) only[eV])<;>(first | rfl | assumption)) ?_
 refine rM ?_
 refine qM (by assumption) (by assumption) (by (try simp (disch:=(try simp only[sP]);omega) only[eV,e1])<;>(first | rfl | assumption)) ?_
 refine kA (zs:=[IntKind.u8.wrap (n.fdiv (2 ^ (min 8 16))),IntKind.u8.wrap n]) hB ?_ (by intro z hz;simp only[List.mem_cons,List.not_mem_nil,or_false] at hz;rcases hz with rfl | rfl<;>first | exact xY _ | decide) rfl (by omega) (by omega) (by simp (disch:=(try simp only[sP]);omega) only[eV,e0]) (by omega) (by simp only[zP];omega) hown hU (by simpa [be] using hb) ?_
 ·simp only[lM]
  simp (disch:=(try simp only[sP]);omega) only[eV]
  rfl
 intro v' w' h1 h2
 rw[show [IntKind.u8.wrap (n.fdiv (2 ^ (min 8 16))),IntKind.u8.wrap n].map o8=be 2 n by rw[be2];simp only[List.map_cons,List.map_nil,kX];rw[Int.fdiv_eq_ediv_of_nonneg _ (by decide)];rfl] at h1
 refine rA (dn (vS (vT ?_)))
 exact ⟨by simp only[dF];exact hdf,v',rO (by simp (disch:=(try simp only[sP]);omega) only[eV]),⟨h1,h2⟩⟩
theorem k_u32 (ht:Text P E.wU32 2 19 #[.tmp 4] (c_wU32 E)) (hB:xd P E.tB E.tU8 1=true) (i32:qs P E.tW=some .u32) (i8:qs P E.tU8=some .u8) {n:Int} (hn:0<=n/\n<=4294967295):Wr1 P E E.wU32 U [.int .u32 n] (be 4 n) w:=by
 intro dv xs hown hU hb
 refine qa.enter ht (by simp) ?_
 intro a hsz hdf harg
 have e0:=harg 0 dv (by simp)
 have e1:=harg 1 (.int .u32 n) (by simp)
 unfold c_wU32
 refine vX (rA (dn (vX (rM (rM ?_)))))
 refine r_shr (by (try simp (disch:=(try simp only[sP]);omega) only[eV,e1])<;>(first | rfl | assumption)) (by (try simp (disch:=(try simp only[sP]);omega) only[eV,e1])<;>(first | rfl | assumption)) (by decide) ?_
 refine qM (by assumption) (by assumption) (by (try simp (disch:=(try simp only[sP]);omega) only[eV])<;>(first | rfl | assumption)) ?_
 refine rM ?_
 refine r_shr (by (try simp (disch:=(try simp only[sP]);omega) only[eV,e1])<;>(first | rfl | assumption)) (by (try simp (disch:=(try simp only[sP]);omega) only[eV,e1])<;>(first | rfl | assumption)) (by decide) ?_
 refine qM (by assumption) (by assumption) (by (try simp (disch:=(try simp only[sP]);omega) only[eV])<;>(first | rfl | assumption)) ?_
 refine rM ?_
 refine r_shr (by (try simp (disch:=(try simp only[sP]);omega) only[eV,e1])<;>(first | rfl | assumption)) (by (try simp (disch:=(try simp only[sP]);omega) only[eV,e1])<;>(first | rfl | assumption)) (by decide) ?_
 refine qM (by assumption) (by assumption) (by (try simp (disch:=(try simp only[sP]);omega) only[eV])<;>(first | rfl | assumption)) ?_
 refine rM ?_
 refine qM (by assumption) (by assumption) (by (try simp (disch:=(try simp only[sP]);omega) only[eV,e1])<;>(first | rfl | assumption)) ?_
 refine kA (zs:=[IntKind.u8.wrap (n.fdiv (2 ^ (min 24 32))),IntKind.u8.wrap (n.fdiv (2 ^ (min 16 32))),IntKind.u8.wrap (n.fdiv (2 ^ (min 8 32))),IntKind.u8.wrap n]) hB ?_ (by intro z hz;simp only[List.mem_cons,List.not_mem_nil,or_false] at hz;rcases hz with rfl | rfl | rfl | rfl<;>first | exact xY _ | decide) rfl (by omega) (by omega) (by simp (disch:=(try simp only[sP]);omega) only[eV,e0]) (by omega) (by simp only[zP];omega) hown hU (by simpa [be] using hb) ?_
 ·simp only[lM]
  simp (disch:=(try simp only[sP]);omega) only[eV]
  rfl
 intro v' w' h1 h2
 rw[show [IntKind.u8.wrap (n.fdiv (2 ^ (min 24 32))),IntKind.u8.wrap (n.fdiv (2 ^ (min 16 32))),IntKind.u8.wrap (n.fdiv (2 ^ (min 8 32))),IntKind.u8.wrap n].map o8=be 4 n by rw[be4];simp only[List.map_cons,List.map_nil,kX];simp only[Int.fdiv_eq_ediv_of_nonneg _ (show (0:Int)<=2 ^ (min 24 32) by decide),Int.fdiv_eq_ediv_of_nonneg _ (show (0:Int)<=2 ^ (min 16 32) by decide),Int.fdiv_eq_ediv_of_nonneg _ (show (0:Int)<=2 ^ (min 8 32) by decide)];rfl] at h1
 refine rA (dn (vS (vT ?_)))
 exact ⟨by simp only[dF];exact hdf,v',rO (by simp (disch:=(try simp only[sP]);omega) only[eV]),⟨h1,h2⟩⟩
theorem k_u64 (ht:Text P E.wU64 2 31 #[.tmp 4] (c_wU64 E)) (hB:xd P E.tB E.tU8 1=true) (i64:qs P E.tU64=some .u64) (i8:qs P E.tU8=some .u8) {n:Int} (hn:0<=n/\n<=18446744073709551615):Wr1 P E E.wU64 U [.int .u64 n] (be 8 n) w:=by
 intro dv xs hown hU hb
 refine qa.enter ht (by simp) ?_
 intro a hsz hdf harg
 have e0:=harg 0 dv (by simp)
 have e1:=harg 1 (.int .u64 n) (by simp)
 unfold c_wU64
 refine vX (rA (dn (vX (rM (rM ?_)))))
 refine r_shr (by (try simp (disch:=(try simp only[sP]);omega) only[eV,e1])<;>(first | rfl | assumption)) (by (try simp (disch:=(try simp only[sP]);omega) only[eV,e1])<;>(first | rfl | assumption)) (by decide) ?_
 refine qM (by assumption) (by assumption) (by (try simp (disch:=(try simp only[sP]);omega) only[eV])<;>(first | rfl | assumption)) ?_
 refine rM ?_
 refine r_shr (by (try simp (disch:=(try simp only[sP]);omega) only[eV,e1])<;>(first | rfl | assumption)) (by (try simp (disch:=(try simp only[sP]);omega) only[eV,e1])<;>(first | rfl | assumption)) (by decide) ?_
 refine qM (by assumption) (by assumption) (by (try simp (disch:=(try simp only[sP]);omega) only[eV])<;>(first | rfl | assumption)) ?_
 refine rM ?_
 refine r_shr (by (try simp (disch:=(try simp only[sP]);omega) only[eV,e1])<;>(first | rfl | assumption)) (by (try simp (disch:=(try simp only[sP]);omega) only[eV,e1])<;>(first | rfl | assumption)) (by decide) ?_
 refine qM (by assumption) (by assumption) (by (try simp (disch:=(try simp only[sP]);omega) only[eV])<;>(first | rfl | assumption)) ?_
 refine rM ?_
 refine r_shr (by (try simp (disch:=(try simp only[sP]);omega) only[eV,e1])<;>(first | rfl | assumption)) (by (try simp (disch:=(try simp only[sP]);omega) only[eV,e1])<;>(first | rfl | assumption)) (by decide) ?_
 refine qM (by assumption) (by assumption) (by (try simp (disch:=(try simp only[sP]);omega) only[eV])<;>(first | rfl | assumption)) ?_
 refine rM ?_
 refine r_shr (by (try simp (disch:=(try simp only[sP]);omega) only[eV,e1])<;>(first | rfl | assumption)) (by (try simp (disch:=(try simp only[sP]);omega) only[eV,e1])<;>(first | rfl | assumption)) (by decide) ?_
 refine qM (by assumption) (by assumption) (by (try simp (disch:=(try simp only[sP]);omega) only[eV])<;>(first | rfl | assumption)) ?_
 refine rM ?_
 refine r_shr (by (try simp (disch:=(try simp only[sP]);omega) only[eV,e1])<;>(first | rfl | assumption)) (by (try simp (disch:=(try simp only[sP]);omega) only[eV,e1])<;>(first | rfl | assumption)) (by decide) ?_
 refine qM (by assumption) (by assumption) (by (try simp (disch:=(try simp only[sP]);omega) only[eV])<;>(first | rfl | assumption)) ?_
 refine rM ?_
 refine r_shr (by (try simp (disch:=(try simp only[sP]);omega) only[eV,e1])<;>(first | rfl | assumption)) (by (try simp (disch:=(try simp only[sP]);omega) only[eV,e1])<;>(first | rfl | assumption)) (by decide) ?_
 refine qM (by assumption) (by assumption) (by (try simp (disch:=(try simp only[sP]);omega) only[eV])<;>(first | rfl | assumption)) ?_
 refine rM ?_
 refine qM (by assumption) (by assumption) (by (try simp (disch:=(try simp only[sP]);omega) only[eV,e1])<;>(first | rfl | assumption)) ?_
 refine kA (zs:=[IntKind.u8.wrap (n.fdiv (2 ^ (min 56 64))),IntKind.u8.wrap (n.fdiv (2 ^ (min 48 64))),IntKind.u8.wrap (n.fdiv (2 ^ (min 40 64))),IntKind.u8.wrap (n.fdiv (2 ^ (min 32 64))),IntKind.u8.wrap (n.fdiv (2 ^ (min 24 64))),IntKind.u8.wrap (n.fdiv (2 ^ (min 16 64))),IntKind.u8.wrap (n.fdiv (2 ^ (min 8 64))),IntKind.u8.wrap n]) hB ?_ (by intro z hz;simp only[List.mem_cons,List.not_mem_nil,or_false] at hz;rcases hz with rfl | rfl | rfl | rfl | rfl | rfl | rfl | rfl<;>first | exact xY _ | decide) rfl (by omega) (by omega) (by simp (disch:=(try simp only[sP]);omega) only[eV,e0]) (by omega) (by simp only[zP];omega) hown hU (by simpa [be] using hb) ?_
 ·simp only[lM]
  simp (disch:=(try simp only[sP]);omega) only[eV]
  rfl
 intro v' w' h1 h2
 rw[show [IntKind.u8.wrap (n.fdiv (2 ^ (min 56 64))),IntKind.u8.wrap (n.fdiv (2 ^ (min 48 64))),IntKind.u8.wrap (n.fdiv (2 ^ (min 40 64))),IntKind.u8.wrap (n.fdiv (2 ^ (min 32 64))),IntKind.u8.wrap (n.fdiv (2 ^ (min 24 64))),IntKind.u8.wrap (n.fdiv (2 ^ (min 16 64))),IntKind.u8.wrap (n.fdiv (2 ^ (min 8 64))),IntKind.u8.wrap n].map o8=be 8 n by rw[be8];simp only[List.map_cons,List.map_nil,kX];simp only[Int.fdiv_eq_ediv_of_nonneg _ (show (0:Int)<=2 ^ (min 56 64) by decide),Int.fdiv_eq_ediv_of_nonneg _ (show (0:Int)<=2 ^ (min 48 64) by decide),Int.fdiv_eq_ediv_of_nonneg _ (show (0:Int)<=2 ^ (min 40 64) by decide),Int.fdiv_eq_ediv_of_nonneg _ (show (0:Int)<=2 ^ (min 32 64) by decide),Int.fdiv_eq_ediv_of_nonneg _ (show (0:Int)<=2 ^ (min 24 64) by decide),Int.fdiv_eq_ediv_of_nonneg _ (show (0:Int)<=2 ^ (min 16 64) by decide),Int.fdiv_eq_ediv_of_nonneg _ (show (0:Int)<=2 ^ (min 8 64) by decide)];rfl] at h1
 refine rA (dn (vS (vT ?_)))
 exact ⟨by simp only[dF];exact hdf,v',rO (by simp (disch:=(try simp only[sP]);omega) only[eV]),⟨h1,h2⟩⟩
theorem k_i16 (ht:Text P E.wI16 2 9 #[.tmp 4] (c_wI16 E)) (is:qs P E.tI16=some .i16) (iu:qs P E.tU16=some .u16) (hc:∀ n U w,0<=n/\n<=65535->Wr1 P E E.wU16 U [.int .u16 n] (be 2 n) w) {n:Int}:Wr1 P E E.wI16 U [.int .i16 n] (be 2 n) w:=by
 intro dv xs hown hU hb
 refine qa.enter ht (by simp) ?_
 intro a hsz hdf harg
 have e0:=harg 0 dv (by simp)
 have e1:=harg 1 (.int .i16 n) (by simp)
 unfold c_wI16
 refine vX (rA (dn (vX (rM (rM ?_)))))
 refine qM (by assumption) (by assumption) (by (try simp (disch:=(try simp only[sP]);omega) only[eV,e1])<;>(first | rfl | assumption)) ?_
 refine q8 (args:=#[dv,.int .u16 (IntKind.u16.wrap n)]) ?_ (hc (IntKind.u16.wrap n) U w (by rw[wrap_u16];omega) dv xs hown hU (by rw[be2_mod];exact hb)) ?_
 ·simp only[lM]
  simp (disch:=(try simp only[sP]);omega) only[eV,e0]
 intro v' w' hs
 rw[be2_mod] at hs
 refine rA (dn (vS (vT ?_)))
 exact ⟨by simp only[dF];exact hdf,v',rO (by simp (disch:=(try simp only[sP]);omega) only[eV]),hs⟩
theorem k_i32 (ht:Text P E.wI32 2 9 #[.tmp 4] (c_wI32 E)) (is:qs P E.tI32=some .i32) (iu:qs P E.tW=some .u32) (hc:∀ n U w,0<=n/\n<=4294967295->Wr1 P E E.wU32 U [.int .u32 n] (be 4 n) w) {n:Int}:Wr1 P E E.wI32 U [.int .i32 n] (be 4 n) w:=by
 intro dv xs hown hU hb
 refine qa.enter ht (by simp) ?_
 intro a hsz hdf harg
 have e0:=harg 0 dv (by simp)
 have e1:=harg 1 (.int .i32 n) (by simp)
 unfold c_wI32
 refine vX (rA (dn (vX (rM (rM ?_)))))
 refine qM (by assumption) (by assumption) (by (try simp (disch:=(try simp only[sP]);omega) only[eV,e1])<;>(first | rfl | assumption)) ?_
 refine q8 (args:=#[dv,.int .u32 (IntKind.u32.wrap n)]) ?_ (hc (IntKind.u32.wrap n) U w (by rw[jM];omega) dv xs hown hU (by rw[be4_mod];exact hb)) ?_
 ·simp only[lM]
  simp (disch:=(try simp only[sP]);omega) only[eV,e0]
 intro v' w' hs
 rw[be4_mod] at hs
 refine rA (dn (vS (vT ?_)))
 exact ⟨by simp only[dF];exact hdf,v',rO (by simp (disch:=(try simp only[sP]);omega) only[eV]),hs⟩
theorem k_i64 (ht:Text P E.wI64 2 9 #[.tmp 4] (c_wI64 E)) (is:qs P E.tI64=some .i64) (iu:qs P E.tU64=some .u64) (hc:∀ n U w,0<=n/\n<=18446744073709551615->Wr1 P E E.wU64 U [.int .u64 n] (be 8 n) w) {n:Int}:Wr1 P E E.wI64 U [.int .i64 n] (be 8 n) w:=by
 intro dv xs hown hU hb
 refine qa.enter ht (by simp) ?_
 intro a hsz hdf harg
 have e0:=harg 0 dv (by simp)
 have e1:=harg 1 (.int .i64 n) (by simp)
 unfold c_wI64
 refine vX (rA (dn (vX (rM (rM ?_)))))
 refine qM (by assumption) (by assumption) (by (try simp (disch:=(try simp only[sP]);omega) only[eV,e1])<;>(first | rfl | assumption)) ?_
 refine q8 (args:=#[dv,.int .u64 (IntKind.u64.wrap n)]) ?_ (hc (IntKind.u64.wrap n) U w (by rw[zo];omega) dv xs hown hU (by rw[be8_mod];exact hb)) ?_
 ·simp only[lM]
  simp (disch:=(try simp only[sP]);omega) only[eV,e0]
 intro v' w' hs
 rw[be8_mod] at hs
 refine rA (dn (vS (vT ?_)))
 exact ⟨by simp only[dF];exact hdf,v',rO (by simp (disch:=(try simp only[sP]);omega) only[eV]),hs⟩
theorem k_i8 (ht:Text P E.wI8 2 10 #[.tmp 4] (c_wI8 E)) (hB:xd P E.tB E.tU8 1=true) (is:qs P E.tI8=some .i8) (i8:qs P E.tU8=some .u8) {n:Int}:Wr1 P E E.wI8 U [.int .i8 n] (be 1 n) w:=by
 intro dv xs hown hU hb
 refine qa.enter ht (by simp) ?_
 intro a hsz hdf harg
 have e0:=harg 0 dv (by simp)
 have e1:=harg 1 (.int .i8 n) (by simp)
 unfold c_wI8
 refine vX (rA (dn (vX (rM (rM ?_)))))
 refine qM (by assumption) (by assumption) (by (try simp (disch:=(try simp only[sP]);omega) only[eV,e1])<;>(first | rfl | assumption)) ?_
 refine kA (zs:=[IntKind.u8.wrap n]) hB ?_ (by intro z hz;simp only[List.mem_cons,List.not_mem_nil,or_false] at hz;rcases hz with rfl<;>first | exact xY _ | decide) rfl (by omega) (by omega) (by simp (disch:=(try simp only[sP]);omega) only[eV,e0]) (by omega) (by simp only[zP];omega) hown hU (by simpa [be] using hb) ?_
 ·simp only[lM]
  simp (disch:=(try simp only[sP]);omega) only[eV]
  rfl
 intro v' w' h1 h2
 rw[show [IntKind.u8.wrap n].map o8=be 1 n by rw[be1];simp only[List.map_cons,List.map_nil,kX]] at h1
 refine rA (dn (vS (vT ?_)))
 exact ⟨by simp only[dF];exact hdf,v',rO (by simp (disch:=(try simp only[sP]);omega) only[eV]),⟨h1,h2⟩⟩
theorem k_bool (ht:Text P E.wBool 2 12 #[.tmp 4] (c_wBool E)) (hB:xd P E.tB E.tU8 1=true) {b:Bool}:Wr1 P E E.wBool U [.bool b] ([if b then 1 else 0]) w:=by
 intro dv xs hown hU hb
 refine qa.enter ht (by simp) ?_
 intro a hsz hdf harg
 have e0:=harg 0 dv (by simp)
 have e1:=harg 1 (.bool b) (by simp)
 unfold c_wBool
 refine vX (rA (dn (vS (vX (rM (dn ?_))))))
 refine vS (vC (t:=b) (by simp (disch:=(try simp only[sP]);omega) only[eV,e1]) ?_ ?_)
 ·intro hbt
  refine vX (rM ?_)
  refine kA (zs:=[1]) hB ?_ (by intro z hz;simp only[List.mem_cons,List.not_mem_nil,or_false] at hz;rcases hz with rfl<;>first | exact xY _ | decide) rfl (by omega) (by omega) (by simp (disch:=(try simp only[sP]);omega) only[eV,e0]) (by omega) (by simp only[zP];omega) hown hU (by simpa [be] using hb) ?_
  ·simp only[lM]
   simp (disch:=(try simp only[sP]);omega) only[eV]
   rfl
  intro v' w' h1 h2
  refine rA (dn (vS (vT ?_)))
  exact ⟨by simp only[dF];exact hdf,v',rO (by simp (disch:=(try simp only[sP]);omega) only[eV]),⟨by rw[hbt];exact h1,h2⟩⟩
 ·intro hbt
  refine vK (vN (vX (rM ?_)))
  refine kA (zs:=[0]) hB ?_ (by intro z hz;simp only[List.mem_cons,List.not_mem_nil,or_false] at hz;rcases hz with rfl<;>first | exact xY _ | decide) rfl (by omega) (by omega) (by simp (disch:=(try simp only[sP]);omega) only[eV,e0]) (by omega) (by simp only[zP];omega) hown hU (by simpa [be] using hb) ?_
  ·simp only[lM]
   simp (disch:=(try simp only[sP]);omega) only[eV]
   rfl
  intro v' w' h1 h2
  refine rA (dn (vS (vT ?_)))
  exact ⟨by simp only[dF];exact hdf,v',rO (by simp (disch:=(try simp only[sP]);omega) only[eV]),⟨by rw[hbt];exact h1,h2⟩⟩
end
end Go.Km
