/- A calculus of weakest preconditions over codes whose positions are struck, and rules for single operations, over any program. Rules for single operations, over any program; frames by their slots. Memory: which cells a call may have written. More rules for single operations. The shapes of kmsg's messages, and the code that its generator writes for them. The texts of the functions of kbin that write (printed by a program from the translation). The texts of the functions of kbin that read (printed by a program from the translation). -/
import Derived.Calls
import Derived.Laws.AppendOwn
import Derived.Laws.MakeOwn
import Derived.ScopeJumps
import Derived.Below
import Derived.KernelRfl
set_option maxHeartbeats 4000000
set_option linter.unusedSimpArgs false
set_option linter.unusedVariables false
namespace Go.Km
open Go
@[simp] abbrev oQ (d : Tmp) (x : Op) (t : TypeId) : Oper := ⟨some d, x, t, "", #[], none⟩
def bareD (o:Oper):Oper:={ o with pos:= "" }
def bareO (o:Oper):Oper:={ o with pos:= "",after:=#[] }
def bare:Code->Code
 | .region _ ops false=>.region 0 (ops.toList.map bareO).toArray false
 | .region _ ops true=>.region 0 (ops.toList.map bareD).toArray true
 | .seq a b=>.seq (bare a) (bare b)
 | .cond c a b=>.cond c (bare a) (bare b)
 | .block id b=>.block id (bare b)
 | .loop b=>.loop (bare b)
 | .scope b=>.scope (bare b)
 | c=>c
mutual
def vc (P:Program):Code->(Exit->Act->World->Prop)->Act->World->Prop
 | .skip,Q,a,w=>Q .normal a w
 | .region _ ops false,Q,a,w=>wpOps P ops Q (List.range ops.size) a w
 | .region _ ops true,Q,a,w=>∀ t,wpOps P ops Q (Region.schedule (P.follows .mixedOrders) ops t) a { w with drawn:=w.drawn+1 }
 | .seq x y,Q,a,w=>vc P x (Exit.then (vc P y Q) Q) a w
 | .cond c x y,Q,a,w=>∃ t,a.eval c=.bool t/\(t=true->vc P x Q a w)/\(t=false->vc P y Q a w)
 | .block id b,Q,a,w=>vc P b (Exit.inBlock id Q) a w
 | .loop b,Q,a,w=>∃ (I:Act->World->Prop) (μ:Act->World->Nat),I a w ∧
   ∀ a w,I a w->vc P b (Exit.then (fun a' w'=>I a' w'/\μ a' w'<μ a w) Q) a w
 | .exit id,Q,a,w=>Q (.exit id) a w
 | .ret,Q,a,w=>Q .ret a w
 | .label _,Q,a,w=>Q .normal a w
 | .goto l,Q,a,w=>Q (.goto l) a w
 | .scope b,Q,a,w=>vc P b (Exit.noGoto Q) a w\/∃ l J,vc P b (Exit.jump l J Q) a w/\qN P l J b (Exit.jump l (fun _ _=>False) Q)
 | _,_,_,_=>False
def qN (P:Program) (l:Nat) (J:Act->World->Prop):Code->(Exit->Act->World->Prop)->Prop
 | .seq x y,Q=>((findLabel x l).isSome=true->qN P l J x (Exit.then (vc P y Q) Q))/\((findLabel x l).isSome=false->qN P l J y Q)
 | .label l',Q=>l'=l/\∀ a w,J a w->Q .normal a w
 | _,_=>False
end
theorem yT (c:Code) (l:Nat):findLabel (bare c) l=(findLabel c l).map bare:=by
 induction c with
 | region id ops d=>cases d<;>rfl
 | seq a b iha ihb =>
  simp only[bare,findLabel,iha,ihb]
  cases findLabel a l<;>rfl
 | cond c a b iha ihb =>
  simp only[bare,findLabel,iha,ihb]
  cases findLabel a l<;>rfl
 | label k =>
  simp only[bare,findLabel]
  split<;>rfl
 | _=>simp_all [bare,findLabel]
theorem vy (c:Code) (l:Nat):(findLabel (bare c) l).isSome=(findLabel c l).isSome:=by rw[yT];cases findLabel c l<;>rfl
theorem vc_sound2 {P:Program} (c:Code):(∀ {Q:Exit->Act->World->Prop} {a:Act} {w:World},vc P c Q a w->c.wp P Q a w) ∧
  ∀ {l:Nat} {J:Act->World->Prop} {Q:Exit->Act->World->Prop},qN P l J c Q->∃ rest,findLabel c l=some rest/\∀ a w,J a w->rest.wp P Q a w:=by
 induction c with
 | skip=>exact ⟨fun h=>wp_skip h,fun h=>(by simp only[qN] at h)⟩
 | region id ops d =>
  refine ⟨?_,fun h=>(by simp only[qN] at h)⟩
  cases d
  ·exact fun h=>wp_region h
  ·exact fun h=>wp_region_draw h
 | seq x y ihx ihy =>
  refine ⟨?_,?_⟩
  ·intro Q a w h
   simp only[vc] at h
   refine wp_seq (wp_mono (ihx.1 h) ?_)
   intro e a w h
   cases e<;>first | exact ihy.1 h | exact h
  ·intro l J Q h
   simp only[qN] at h
   cases hx:findLabel x l with
   | none =>
    obtain ⟨r,h1,h2⟩:=ihy.2 (h.2 (by rw[hx];rfl))
    exact ⟨r,by simp[findLabel,hx,h1],h2⟩
   | some r =>
    obtain ⟨r',h1,h2⟩:=ihx.2 (h.1 (by rw[hx];rfl))
    rw[hx] at h1
    cases h1
    refine ⟨.seq r y,by simp[findLabel,hx],fun a w hj=>wp_seq (wp_mono (h2 a w hj) ?_)⟩
    intro e a w h
    cases e<;>first | exact ihy.1 h | exact h
 | cond c x y ihx ihy =>
  refine ⟨?_,fun h=>(by simp only[qN] at h)⟩
  intro Q a w h
  simp only[vc] at h
  obtain ⟨t,ht,h1,h2⟩:=h
  exact wp_cond_split ht (fun h=>ihx.1 (h1 h)) (fun h=>ihy.1 (h2 h))
 | block id b ih=>exact ⟨fun h=>wp_block (ih.1 (by simpa only[vc] using h)),fun h=>(by simp only[qN] at h)⟩
 | loop b ih =>
  refine ⟨?_,fun h=>(by simp only[qN] at h)⟩
  intro Q a w h
  simp only[vc] at h
  obtain ⟨I,μ,h0,hr⟩:=h
  exact wp_loop I μ h0 (fun a w h=>ih.1 (hr a w h))
 | exit id=>exact ⟨fun h=>wp_exit (by simpa only[vc] using h),fun h=>(by simp only[qN] at h)⟩
 | ret=>exact ⟨fun h=>wp_ret (by simpa only[vc] using h),fun h=>(by simp only[qN] at h)⟩
 | label l =>
  refine ⟨fun h=>wp_label (by simpa only[vc] using h),?_⟩
  intro l' J Q h
  simp only[qN] at h
  obtain ⟨rfl,h⟩:=h
  exact ⟨.skip,by simp[findLabel],fun a w hj=>wp_skip (h a w hj)⟩
 | goto l=>exact ⟨fun h=>wp_goto (by simpa only[vc] using h),fun h=>(by simp only[qN] at h)⟩
 | scope b ih =>
  refine ⟨?_,fun h=>(by simp only[qN] at h)⟩
  intro Q a w h
  simp only[vc] at h
  rcases h with h | ⟨l,J,h1,h2⟩
  ·exact wp_scope_straight (ih.1 h)
  ·obtain ⟨r,h3,h4⟩:=ih.2 h2
   refine wp_scope_jumps l J (fun _ _=>0) h3 (ih.1 h1) (fun a w hj=>wp_mono (h4 a w hj) ?_)
   intro e a w h
   cases e with
   | goto k=>exact h.2.elim
   | _=>exact h
 | rangeFunc=>exact ⟨fun h=>(by simp only[vc] at h),fun h=>(by simp only[qN] at h)⟩
 | refuse=>exact ⟨fun h=>(by simp only[vc] at h),fun h=>(by simp only[qN] at h)⟩
theorem ww {P:Program} (c:Code) {Q:Exit->Act->World->Prop} {a:Act} {w:World} (h:vc P c Q a w):c.wp P Q a w:=(vc_sound2 c).1 h
structure Alike (o o':Oper):Prop where
 dst:o'.dst=o.dst
 op:o'.op=o.op
 type:o'.type=o.type
 guard:o'.guard=o.guard
theorem alike_wp {P:Program} {o o':Oper} (h:Alike o o'):Oper.wp P o'=Oper.wp P o:=by
 obtain ⟨d,p,t,g⟩:=h
 cases o;cases o'
 simp only at d p t g
 subst d;subst p;subst t;subst g
 rfl
theorem alike_asks {P:Program} {o o':Oper} (h:Alike o o'):Oper.asks P o'=Oper.asks P o:=by
 obtain ⟨d,p,t,g⟩:=h
 cases o;cases o'
 simp only at d p t g
 subst d;subst p;subst t;subst g
 rfl
theorem wpOps_map {P:Program} {ops:Array Oper} {f:Oper->Oper} (hf:∀ o,Alike o (f o)) {Q:Exit->Act->World->Prop} (l:List Nat) :
  ∀ {a:Act} {w:World},wpOps P (ops.toList.map f).toArray Q l a w->wpOps P ops Q l a w:=by
 have hy:∀ tmps,yielded (ops.toList.map f).toArray tmps=yielded ops tmps:=by
  intro tmps
  funext j
  unfold yielded
  simp only[List.getElem?_toArray,List.getElem?_map,Array.getElem?_toList]
  cases h:ops[j]? with
  | none=>rfl
  | some o=>simp[(hf o).dst]
 induction l with
 | nil=>exact fun h=>h
 | cons i r ih =>
  intro a w h
  simp only[wpOps,List.getElem?_toArray,List.getElem?_map,Array.getElem?_toList] at h ⊢
  cases ho:ops[i]? with
  | none=>simp only[ho,Option.map_none] at h;exact ih h
  | some o =>
   simp only[ho,Option.map_some,hy] at h
   have hw:Region.wanted (f o) (yielded ops a.tmps)=Region.wanted o (yielded ops a.tmps):=by
    unfold Region.wanted;rw[(hf o).guard]
   rw[hw] at h
   simp only
   split
   ·rename_i hc
    rw[if_pos hc,alike_wp (hf o),alike_asks (hf o)] at h
    rcases h with h | h
    ·left
     unfold Oper.wp at h ⊢
     revert h
     generalize (execOp a.eval o).run P w=res
     intro h
     unfold Oper.upon at h ⊢
     split at h<;>first
      | exact ih h
      | exact h
      | (exact Calls.mono h (fun e w' hh=>by cases e<;>first | exact ih hh | exact hh))
      | (exact Rows.mono h (fun _ _ hh=>ih hh))
    ·exact .inr h
   ·rename_i hc
    rw[if_neg hc,(hf o).dst] at h
    exact ih h
theorem bareO_alike (o:Oper):Alike o (bareO o):=⟨rfl,rfl,rfl,rfl⟩
theorem bareD_alike (o:Oper):Alike o (bareD o):=⟨rfl,rfl,rfl,rfl⟩
theorem linearise_bareD (m:Region.Mode) (ops:Array Oper) (t:Nat):Region.linearise m (ops.toList.map bareD).toArray t=Region.linearise m ops t:=by
 unfold Region.linearise
 have hs:(ops.toList.map bareD).toArray.size=ops.size:=by simp
 rw[hs]
 have key:∀ (fuel t:Nat) (listed:Array Bool) (acc:List Nat),Region.linearise.go m (ops.toList.map bareD).toArray fuel t listed acc=Region.linearise.go m ops fuel t listed acc:=by
  intro fuel
  induction fuel with
  | zero=>intros;rfl
  | succ n ih =>
   intro t listed acc
   simp only[Region.linearise.go,hs]
   have:∀ i:Nat,(((ops.toList.map bareD).toArray[i]?).map (fun o:Oper=>o.after.all fun e=>!Region.binds m e||listed.getD e.on false)).getD false=((ops[i]?).map (fun o:Oper=>o.after.all fun e=>!Region.binds m e||listed.getD e.on false)).getD false:=by
    intro i
    simp only[List.getElem?_toArray,List.getElem?_map,Array.getElem?_toList]
    cases ops[i]?<;>rfl
   simp only[this,ih]
 exact key _ _ _ _
theorem departs_bareD (ops:Array Oper):Region.departs (ops.toList.map bareD).toArray=Region.departs ops:=by
 unfold Region.departs
 simp only[List.any_map,← Array.any_toList]
 rfl
theorem schedule_bareD (b:Bool) (ops:Array Oper) (t:Nat):Region.schedule b (ops.toList.map bareD).toArray t=Region.schedule b ops t:=by
 unfold Region.schedule
 simp only[linearise_bareD,departs_bareD]
theorem qW {P:Program} (c:Code):∀ {Q Q':Exit->Act->World->Prop} {a:Act} {w:World},vc P c Q a w->(∀ e a w,Q e a w->Q' e a w)->vc P c Q' a w:=by
 have ops_mono:∀ (ops:Array Oper) (Q Q':Exit->Act->World->Prop) (_:∀ e a w,Q e a w->Q' e a w) (l:List Nat) (a:Act) (w:World),wpOps P ops Q l a w->wpOps P ops Q' l a w:=by
  intro ops Q Q' hq l
  have hout:LetsOut Q->LetsOut Q':=fun ⟨a,w,h⟩=>⟨a,w,hq _ _ _ h⟩
  induction l with
  | nil=>exact fun a w h=>hq _ _ _ h
  | cons i r ih =>
   intro a w h
   simp only[wpOps] at h ⊢
   cases ho:ops[i]? with
   | none=>simp only[ho] at h;exact ih _ _ h
   | some o =>
    simp only[ho] at h
    simp only
    split
    ·rename_i hc
     rw[if_pos hc] at h
     rcases h with h | ⟨h1,h2⟩
     ·left
      unfold Oper.wp at h ⊢
      revert h
      generalize (execOp a.eval o).run P w=res
      intro h
      unfold Oper.upon at h ⊢
      split at h<;>first
       | exact ih _ _ h
       | exact hq _ _ _ h
       | exact h
       | (exact Calls.mono h (fun e w' hh=>by cases e<;>first | exact ih _ _ hh | exact hq _ _ _ hh | exact hout hh))
       | (exact Rows.mono h (fun _ _ hh=>ih _ _ hh))
     ·exact .inr ⟨h1,hout h2⟩
    ·rename_i hc
     rw[if_neg hc] at h
     exact ih _ _ h
 have jm:∀ (l:Nat) (J:Act->World->Prop) (Q Q':Exit->Act->World->Prop),(∀ e a w,Q e a w->Q' e a w)->∀ e a w,Exit.jump l J Q e a w->Exit.jump l J Q' e a w :=
  fun l J Q Q' hq e a w h=>by cases e<;>first | exact h | exact hq _ _ _ h
 have key:∀ (c:Code),(∀ {Q Q':Exit->Act->World->Prop} {a:Act} {w:World},vc P c Q a w->(∀ e a w,Q e a w->Q' e a w)->vc P c Q' a w) ∧
   ∀ {l:Nat} {J:Act->World->Prop} {Q Q':Exit->Act->World->Prop},qN P l J c Q->(∀ e a w,Q e a w->Q' e a w)->qN P l J c Q':=by
  intro c
  induction c with
  | skip=>exact ⟨fun h hq=>(by simp only[vc] at h ⊢;exact hq _ _ _ h),fun h=>(by simp only[qN] at h)⟩
  | region id ops d =>
   refine ⟨?_,fun h=>(by simp only[qN] at h)⟩
   cases d
   ·exact fun h hq=>(by simp only[vc] at h ⊢;exact ops_mono ops _ _ hq _ _ _ h)
   ·exact fun h hq=>(by simp only[vc] at h ⊢;exact fun t=>ops_mono ops _ _ hq _ _ _ (h t))
  | seq x y ihx ihy =>
   have hth:∀ (Q Q':Exit->Act->World->Prop),(∀ e a w,Q e a w->Q' e a w)->∀ e a w,Exit.then (vc P y Q) Q e a w->Exit.then (vc P y Q') Q' e a w :=
    fun Q Q' hq e a w h=>by cases e<;>first | exact ihy.1 h hq | exact hq _ _ _ h
   exact ⟨fun h hq=>(by simp only[vc] at h ⊢;exact ihx.1 h (hth _ _ hq)),fun h hq=>(by simp only[qN] at h ⊢;exact ⟨fun hs=>ihx.2 (h.1 hs) (hth _ _ hq),fun hs=>ihy.2 (h.2 hs) hq⟩)⟩
  | cond c x y ihx ihy =>
   exact ⟨fun h hq=>(by simp only[vc] at h ⊢;obtain ⟨t,ht,h1,h2⟩:=h;exact ⟨t,ht,fun h=>ihx.1 (h1 h) hq,fun h=>ihy.1 (h2 h) hq⟩),fun h=>(by simp only[qN] at h)⟩
  | block id b ih =>
   refine ⟨fun h hq=>?_,fun h=>(by simp only[qN] at h)⟩
   simp only[vc] at h ⊢
   exact ih.1 h (fun e a w h=>by
    cases e with
    | exit i=>simp only[Exit.inBlock] at h ⊢;split<;>(rename_i hc;simp only[hc,if_true,if_false] at h;exact hq _ _ _ h)
    | _=>exact hq _ _ _ h)
  | loop b ih =>
   refine ⟨fun h hq=>?_,fun h=>(by simp only[qN] at h)⟩
   simp only[vc] at h ⊢
   obtain ⟨I,μ,h0,hr⟩:=h
   exact ⟨I,μ,h0,fun a w h=>ih.1 (hr a w h) (fun e a w h=>by cases e<;>first | exact h | exact hq _ _ _ h)⟩
  | exit id=>exact ⟨fun h hq=>(by simp only[vc] at h ⊢;exact hq _ _ _ h),fun h=>(by simp only[qN] at h)⟩
  | ret=>exact ⟨fun h hq=>(by simp only[vc] at h ⊢;exact hq _ _ _ h),fun h=>(by simp only[qN] at h)⟩
  | label l=>exact ⟨fun h hq=>(by simp only[vc] at h ⊢;exact hq _ _ _ h),fun h hq=>(by simp only[qN] at h ⊢;exact ⟨h.1,fun a w hj=>hq _ _ _ (h.2 a w hj)⟩)⟩
  | goto l=>exact ⟨fun h hq=>(by simp only[vc] at h ⊢;exact hq _ _ _ h),fun h=>(by simp only[qN] at h)⟩
  | scope b ih =>
   refine ⟨fun h hq=>?_,fun h=>(by simp only[qN] at h)⟩
   simp only[vc] at h ⊢
   rcases h with h | ⟨l,J,h1,h2⟩
   ·exact .inl (ih.1 h (fun e a w h=>by cases e<;>first | exact h | exact hq _ _ _ h))
   ·exact .inr ⟨l,J,ih.1 h1 (jm l J _ _ hq),ih.2 h2 (jm l _ _ _ hq)⟩
  | rangeFunc=>exact ⟨fun h=>(by simp only[vc] at h),fun h=>(by simp only[qN] at h)⟩
  | refuse=>exact ⟨fun h=>(by simp only[vc] at h),fun h=>(by simp only[qN] at h)⟩
 intro Q Q' a w h hq
 exact (key c).1 h hq
theorem vc_bare2 {P:Program} (c:Code):(∀ {Q:Exit->Act->World->Prop} {a:Act} {w:World},vc P (bare c) Q a w->vc P c Q a w)/\∀ {l:Nat} {J:Act->World->Prop} {Q:Exit->Act->World->Prop},qN P l J (bare c) Q->qN P l J c Q:=by
 have jt:∀ (x y:Code),(∀ {Q:Exit->Act->World->Prop} {a:Act} {w:World},vc P (bare y) Q a w->vc P y Q a w)->∀ (Q:Exit->Act->World->Prop) e a w,Exit.then (vc P (bare y) Q) Q e a w->Exit.then (vc P y Q) Q e a w :=
  fun x y hy Q e a w h=>by cases e<;>first | exact hy h | exact h
 have fm:∀ (c:Code) {l:Nat} {J:Act->World->Prop} {Q Q':Exit->Act->World->Prop},qN P l J c Q->(∀ e a w,Q e a w->Q' e a w)->qN P l J c Q':=by
  intro c
  induction c with
  | seq x y ihx ihy =>
   intro l J Q Q' h hq
   simp only[qN] at h ⊢
   refine ⟨fun hs=>ihx (h.1 hs) ?_,fun hs=>ihy (h.2 hs) hq⟩
   intro e a w h
   cases e<;>first | exact qW y h hq | exact hq _ _ _ h
  | label k=>exact fun h hq=>(by simp only[qN] at h ⊢;exact ⟨h.1,fun a w hj=>hq _ _ _ (h.2 a w hj)⟩)
  | _=>exact fun h=>(by simp only[qN] at h)
 induction c with
 | region id ops d =>
  refine ⟨?_,fun h=>(by cases d<;>simp only[bare,qN] at h)⟩
  intro Q a w h
  cases d
  ·simp only[bare,vc,List.size_toArray,List.length_map,Array.length_toList] at h ⊢
   exact wpOps_map bareO_alike _ h
  ·simp only[bare,vc,schedule_bareD] at h ⊢
   exact fun t=>wpOps_map bareD_alike _ (h t)
 | seq x y ihx ihy =>
  refine ⟨?_,?_⟩
  ·intro Q a w h
   simp only[bare,vc] at h ⊢
   exact qW x (ihx.1 h) (jt x y ihy.1 Q)
  ·intro l J Q h
   simp only[bare,qN,vy] at h ⊢
   exact ⟨fun hs=>fm x (ihx.2 (h.1 hs)) (jt x y ihy.1 Q),fun hs=>ihy.2 (h.2 hs)⟩
 | cond c x y ihx ihy =>
  refine ⟨?_,fun h=>(by simp only[bare,qN] at h)⟩
  intro Q a w h
  simp only[bare,vc] at h ⊢
  obtain ⟨t,ht,h1,h2⟩:=h
  exact ⟨t,ht,fun h=>ihx.1 (h1 h),fun h=>ihy.1 (h2 h)⟩
 | block id b ih=>exact ⟨fun h=>(by simp only[bare,vc] at h ⊢;exact ih.1 h),fun h=>(by simp only[bare,qN] at h)⟩
 | loop b ih=>exact ⟨fun h=>(by simp only[bare,vc] at h ⊢;obtain ⟨I,μ,h0,hr⟩:=h;exact ⟨I,μ,h0,fun a w h=>ih.1 (hr a w h)⟩),fun h=>(by simp only[bare,qN] at h)⟩
 | scope b ih =>
  refine ⟨?_,fun h=>(by simp only[bare,qN] at h)⟩
  intro Q a w h
  simp only[bare,vc] at h ⊢
  rcases h with h | ⟨l,J,h1,h2⟩
  ·exact .inl (ih.1 h)
  ·exact .inr ⟨l,J,ih.1 h1,ih.2 h2⟩
 | _=>exact ⟨fun h=>h,fun h=>h⟩
theorem vc_bare {P:Program} (c:Code) {Q:Exit->Act->World->Prop} {a:Act} {w:World} (h:vc P (bare c) Q a w):vc P c Q a w:=(vc_bare2 c).1 h
structure Text (P:Program) (f:FuncId) (nparams ntmps:Nat) (res:Array ResultVar) (c:Code):Prop where
 text:∃ fn,P.funcs[f]? = some fn/\fn.body.map bare=some c/\fn.ntmps=ntmps/\fn.results=res/\fn.name ≠ "runtime.NumGoroutine"
def Enters (P:Program) (f:FuncId):Prop:=∀ args w,(callFunc f args).run P w=.ok (.enter f args) w
theorem Text.enters {P:Program} {f:FuncId} {np nt:Nat} {res:Array ResultVar} {c:Code} (h:Text P f np nt res c):Enters P f:=by
 obtain ⟨fn,h1,h2,_,_,h5⟩:=h.text
 intro args w
 have hb:fn.body≠none:=by intro hh;simp[hh] at h2
 simp[callFunc,h1,h5,hb]
def qa (P:Program) (f:FuncId) (args:Array Value) (w:World) (S:Value->World->Prop):Prop :=
 Enters P f/\Calls P f args w fun e w'=>∃ v,e=.returned v/\S v w'
theorem qa.mono {P:Program} {f:FuncId} {args:Array Value} {w:World} {S S':Value->World->Prop} (h:qa P f args w S) (hs:∀ v w',S v w'->S' v w'):qa P f args w S' :=
 ⟨h.1,h.2.mono fun _ _ ⟨v,e,s⟩=>⟨v,e,hs _ _ s⟩⟩
def Ends (P:Program) (res:Array ResultVar) (S:Value->World->Prop) (a:Act) (w:World):Prop :=
 a.defers=[]/\∃ v,(results { (default:Func) with results:=res } a.tmps).run P w=.ok v w/\S v w
def Out (P:Program) (res:Array ResultVar) (S:Value->World->Prop):Exit->Act->World->Prop
 | .normal,a,w | .ret,a,w=>Ends P res S a w
 | _,_,_=>False
theorem qa.of_vc {P:Program} {f:FuncId} {np nt:Nat} {res:Array ResultVar} {c:Code} (ht:Text P f np nt res c) {args:Array Value} {w:World} {S:Value->World->Prop}
  (h:vc P c (Out P res S) { tmps:=args++Array.replicate (nt-args.size) undef,defers:=[] } w):qa P f args w S:=by
 refine ⟨ht.enters,?_⟩
 obtain ⟨fn,h1,h2,h3,h4,_⟩:=ht.text
 cases hb:fn.body with
 | none=>simp[hb] at h2
 | some c0 =>
  simp only[hb,Option.map_some,Option.some.injEq] at h2
  subst h2;subst h3;subst h4
  refine calls_of_wp h1 hb (ww _ (vc_bare _ (qW _ h ?_)))
  intro e a w h
  have hres:∀ t,results { (default:Func) with results:=fn.results } t=results fn t:=fun t=>rfl
  cases e with
  | normal=>exact ⟨h.1,let ⟨v,hv,hs⟩:=h.2;⟨v,(hres _) ▸ hv,v,rfl,hs⟩⟩
  | ret=>exact ⟨h.1,let ⟨v,hv,hs⟩:=h.2;⟨v,(hres _) ▸ hv,v,rfl,hs⟩⟩
  | _=>exact h.elim
end Go.Km
namespace Go.Km
open Go
theorem zP (a:Act) (d:Option Tmp) (v:Value):(a.put d v).tmps.size=a.tmps.size:=by
 cases d<;>simp[Act.put]
theorem dF (a:Act) (d:Option Tmp) (v:Value):(a.put d v).defers=a.defers:=by
 cases d<;>rfl
theorem qD (a:Act) (d:Nat) (v:Value) (h:d<a.tmps.size):(a.put (some d) v).eval (.tmp d)=v:=by
 simp[Act.put,Act.eval,Array.getD_eq_getD_getElem?,h]
theorem qi (a:Act) (d t:Nat) (v:Value) (h:d≠t):(a.put (some d) v).eval (.tmp t)=a.eval (.tmp t):=by
 simp[Act.put,Act.eval,Array.getD_eq_getD_getElem?,h]
theorem xg (a:Act) (v:Value):a.eval (.const v)=v:=rfl
theorem eS (a:Act) (d:Nat) (v:Value) (h:d<a.tmps.size):(a.put (some d) v).eval (.tmp d)=v:=qD a d v h
theorem eN (a:Act) (d t:Nat) (v:Value) (h:d≠t):(a.put (some d) v).eval (.tmp t)=a.eval (.tmp t):=qi a d t v h
theorem eC (a:Act) (v:Value):a.eval (.const v)=v:=rfl
theorem sP (a:Act) (d:Option Tmp) (v:Value):(a.put d v).tmps.size=a.tmps.size:=zP a d v
theorem eV (a:Act):(∀ (d:Nat) (v:Value),d<a.tmps.size->(a.put (some d) v).eval (.tmp d)=v)/\(∀ (d t:Nat) (v:Value),d≠t->(a.put (some d) v).eval (.tmp t)=a.eval (.tmp t))/\∀ v:Value,a.eval (.const v)=v:=⟨eS a,eN a,eC a⟩
theorem zE {p:Prop} (h:p:=by simp (disch:=(try simp only[sP]);omega) only[eV]):p:=h
theorem zH {p:Prop} (h:p:=by omega):p:=h
theorem zS {p:Prop} (h:p:=by simp):p:=h
theorem zA {p:Prop} (h:p:=by (try simp (disch:=(try simp only[sP]);omega) only[eV])<;>(first | assumption | rfl)):p:=h
theorem zM {p:Prop} (h:p:=by (try simp (disch:=(try simp only[sP]);omega) only[eV])<;>(first | rfl | assumption)):p:=h
theorem lM {α β:Type} (f:α->β):(∀ l:List α,l.toArray.map f=(l.map f).toArray)/\(∀ a l,(a::l).map f=f a::l.map f)/\([]:List α).map f=[]:=⟨fun _=>by simp,fun _ _=>rfl,rfl⟩
structure Fr (K:Nat->Prop) (a a':Act):Prop where
 size:a'.tmps.size=a.tmps.size
 defers:a'.defers=a.defers
 slot:∀ k,K k->a'.eval (.tmp k)=a.eval (.tmp k)
theorem Fr.refl (K:Nat->Prop) (a:Act):Fr K a a:=⟨rfl,rfl,fun _ _=>rfl⟩
theorem Fr.trans {K:Nat->Prop} {a b c:Act} (h:Fr K a b) (h':Fr K b c):Fr K a c :=
 ⟨h'.size.trans h.size,h'.defers.trans h.defers,fun k hk=>(h'.slot k hk).trans (h.slot k hk)⟩
theorem Fr.mono {K K':Nat->Prop} {a b:Act} (h:Fr K a b) (hm:∀ k,K' k->K k):Fr K' a b:=⟨h.size,h.defers,fun k hk=>h.slot k (hm k hk)⟩
theorem Fr.put {K:Nat->Prop} {a b:Act} (h:Fr K a b) {d:Nat} (v:Value) (hd:¬ K d):Fr K a (b.put (some d) v) :=
 ⟨(zP _ _ _).trans h.size,(dF _ _ _).trans h.defers,fun k hk=>(qi _ d k _ (fun e=>hd (by rw[e];exact hk))).trans (h.slot k hk)⟩
def rO_ (P:Program) (Q:Exit->Act->World->Prop):List Oper->Act->World->Prop
 | [],a,w=>Q .normal a w
 | o::r,a,w=>o.wp P a w (rO_ P Q r) Q
theorem st {P:Program} {Q:Exit->Act->World->Prop} {o:Oper} {r:List Oper} {a:Act} {w:World} (h:o.wp P a w (rO_ P Q r) Q):rO_ P Q (o::r) a w:=h
theorem dn {P:Program} {Q:Exit->Act->World->Prop} {a:Act} {w:World} (h:Q .normal a w):rO_ P Q [] a w:=h
theorem vc_run {P:Program} {Q:Exit->Act->World->Prop} {id:Nat} {l:List Oper} {a:Act} {w:World} (hg:∀ o ∈ l,o.guard=none) (h:rO_ P Q l a w) :
  vc P (.region id l.toArray false) Q a w:=by
 simp only[vc,List.size_toArray]
 have key:∀ (suf pre:List Oper) (a:Act) (w:World),l=pre++suf->rO_ P Q suf a w->wpOps P l.toArray Q (List.range' pre.length suf.length) a w:=by
  intro suf
  induction suf with
  | nil=>exact fun pre a w _ h=>h
  | cons o r ih =>
   intro pre a w hl h
   have hi:l.toArray[pre.length]? = some o:=by simp[hl]
   simp only[List.length_cons,List.range'_succ,wpOps,hi]
   have ho:o.guard=none:=hg o (by simp[hl])
   have hw:∀ y,Region.wanted o y=true:=fun y=>by simp[Region.wanted,ho]
   rw[if_pos (hw _)]
   left
   have hn:∀ a w,rO_ P Q r a w->wpOps P l.toArray Q (List.range' (pre.length+1) r.length) a w:=by
    intro a w h
    have:=ih (pre++[o]) a w (by simp[hl]) h
    simpa using this
   simp only[rO_] at h
   unfold Oper.wp at h ⊢
   revert h
   generalize (execOp a.eval o).run P w=res
   intro h
   unfold Oper.upon at h ⊢
   split at h<;>first
    | exact hn _ _ h
    | exact h
    | (exact Calls.mono h (fun e w' hh=>by cases e<;>first | exact hn _ _ hh | exact hh))
    | (exact Rows.mono h (fun _ _ hh=>hn _ _ hh))
 have:=key l [] a w rfl h
 simpa [List.range_eq_range'] using this
abbrev qd (d:Tmp) (x:Operand) (t:TypeId):Oper:=(oQ d (.move x) t)
abbrev qc (d:Tmp) (x:Operand) (t:TypeId):Oper:=(oQ d (.assign x) t)
abbrev jk (d:Tmp) (x:Operand):Oper:=(oQ d (.nilCheck x) 0)
abbrev xB (d:Tmp) (s:TypeId) (x:Operand) (f:Nat):Oper:=(oQ d (.fieldAddr s x f) 0)
abbrev kZ (d:Tmp) (t:TypeId) (x:Operand):Oper:=(oQ d (.load t x) t)
abbrev zf (t:TypeId) (x y:Operand):Oper:=⟨none,.store t x y,0,"",#[],none⟩
abbrev xi (d:Option Tmp) (f:FuncId) (xs:Array Operand) (ts:Array TypeId) (t:TypeId):Oper :=
 ⟨d,.call { callee:=.value (.func f),args:=xs,argTypes:=ts },t,"",#[],none⟩
abbrev xH (d:Tmp) (b:Builtin) (xs:Array Operand) (ts:Array TypeId) (t:TypeId):Oper :=
 (oQ d (.call { callee:=.builtin b,args:=xs,argTypes:=ts }) t)
abbrev zL (d:Tmp) (op:BinOp) (xt:TypeId) (x y:Operand) (yt t:TypeId):Oper:=(oQ d (.binOp op xt x y yt) t)
abbrev oUn (d:Tmp) (op:UnOp) (xt:TypeId) (x:Operand) (t:TypeId):Oper:=(oQ d (.unOp op xt x) t)
abbrev wW (d:Tmp) (s t:TypeId) (x:Operand):Oper:=(oQ d (.convert s t x) t)
abbrev yn (d:Tmp) (e:TypeId):Oper:=(oQ d (.alloc e) 0)
abbrev zY (d:Tmp) (t:TypeId) (x i:Operand):Oper:=(oQ d (.indexAddr t x i) 0)
abbrev oSlice (d:Tmp) (t:TypeId) (x:Operand) (l h m:Option Operand):Oper:=(oQ d (.slice t x l h m) t)
abbrev we (d:Tmp) (t:TypeId) (ps:Array (Nat × Operand)):Oper:=(oQ d (.build t ps) t)
abbrev zb (d:Tmp) (t:TypeId) (n:Nat) (ps:Array (Nat × Operand)):Oper:=(oQ d (.buildSlice t n ps) t)
section
variable {P : Program} {a : Act} {w : World} {r : List Oper} {Q : Exit → Act → World → Prop}
theorem rM {d x t p af g} (h:rO_ P Q r (a.put (some d) (a.eval x)) w):rO_ P Q (⟨some d,.move x,t,p,af,g⟩::r) a w:=h
theorem rA {d x t p af g} (h:rO_ P Q r (a.put (some d) (a.eval x)) w):rO_ P Q (⟨some d,.assign x,t,p,af,g⟩::r) a w:=h
theorem qY {d x t p af g ad} (hx:a.eval x=.pointer (some ad)) (h:rO_ P Q r (a.put (some d) (.pointer (some ad))) w):rO_ P Q (⟨some d,.nilCheck x,t,p,af,g⟩::r) a w:=by
 refine st ?_
 simp only[Oper.wp,execOp,hx,Sem.run_pure,Oper.upon_value]
 exact h
def qk (P:Program) (s:TypeId) (f:Nat):Option Nat :=
 match P.underlying s with
 | some (.struct fs)=>match fs[f]? with
  | some fd=>match P.info? fd.type with
   | some i=>if i.size=0 then none else some fd.offset
   | none=>none
  | none=>none
 | _=>none
theorem run_fieldAt {s f off b o} (hf:qk P s f=some off):(Instr.fieldAt s (.pointer (some ⟨b,o,none⟩)) f).run P w=.ok (.pointer (some ⟨b,o+off,none⟩)) w:=by
 unfold qk at hf
 split at hf<;>try cases hf
 rename_i fs hu
 split at hf<;>try cases hf
 rename_i fd hfd
 split at hf<;>try cases hf
 rename_i i hi
 split at hf<;>try cases hf
 rename_i hz
 simp[Instr.fieldAt,run_underlying hu,hfd,Instr.sureAddr,fieldPlace,sizeOf,typeInfo,hi,hz,Addr.add_lit]
theorem rF {d s x f t p af g b o off} (hx:a.eval x=.pointer (some ⟨b,o,none⟩)) (hf:qk P s f=some off) (h:rO_ P Q r (a.put (some d) (.pointer (some ⟨b,o+off,none⟩))) w) :
  rO_ P Q (⟨some d,.fieldAddr s x f,t,p,af,g⟩::r) a w:=by
 refine st ?_
 simp only[Oper.wp,execOp,hx,Sem.run_bind,run_fieldAt hf,Result.andThen_ok,Sem.run_pure,Oper.upon_value]
 exact h
def qQ (P:Program) (t:TypeId):Bool :=
 match P.underlying t,P.info? t with
 | some (.struct _),_=>false
 | some (.array _ _),_=>false
 | some _,some i=>i.size==1
 | _,_=>false
theorem oneT_inv {t:TypeId} (ht:qQ P t=true):∃ d i,P.underlying t=some d/\P.info? t=some i/\i.size=1/\(∀ fs,d≠.struct fs)/\(∀ n e,d≠.array n e):=by
 unfold qQ at ht
 cases hu:P.underlying t with
 | none=>simp[hu] at ht
 | some d =>
  cases hi:P.info? t with
  | none=>cases d<;>simp[hu,hi] at ht
  | some i =>
   rw[hu,hi] at ht
   refine ⟨d,i,rfl,rfl,?_,?_,?_⟩<;>cases d<;>simp_all
theorem kf {t:TypeId} (ht:qQ P t=true):(isAgg t).run P w=.ok false w:=by
 obtain ⟨d,i,hu,hi,hs,h1,h2⟩:=oneT_inv ht
 simp only[isAgg,Sem.run_bind,run_underlying hu,Result.andThen_ok]
 cases d<;>first | rfl | exact absurd rfl (h1 _) | exact absurd rfl (h2 _ _)
theorem run_sizeOf_oneT {t:TypeId} (ht:qQ P t=true):(sizeOf t).run P w=.ok 1 w:=by
 obtain ⟨d,i,hu,hi,hs,h1,h2⟩:=oneT_inv ht
 simp[sizeOf,typeInfo,hi,hs]
theorem rL {d t x ty p af g b o v} (hx:a.eval x=.pointer (some ⟨b,o,none⟩)) (ht:qQ P t=true) (hc:w.cell? ⟨b,o,none⟩=some v) (h:rO_ P Q r (a.put (some d) v) w) :
  rO_ P Q (⟨some d,.load t x,ty,p,af,g⟩::r) a w:=by
 refine st ?_
 simp only[Oper.wp,execOp,hx,Instr.loadAt,Instr.sureAddr,loadVar,Sem.run_bind,Sem.run_pure,kf ht,Result.andThen_ok,run_load,hc,Oper.upon_value]
 simp
 simp only[hc,Result.andThen_ok,Oper.upon_value]
 exact h
end
end Go.Km
namespace Go.Km
open Go Go.RowKit
def qM (m:Nat->Prop):Option Obj->Option Obj->Prop
 | some (.cells c T f),o'=>∃ c',o'=some (.cells c' T f)/\c'.size=c.size/\∀ i,¬ m i->c'[i]? = c[i]?
 | o,o'=>o'=o
theorem qM.refl (m:Nat->Prop) (o:Option Obj):qM m o o:=by
 unfold qM
 split
 ·exact ⟨_,rfl,rfl,fun _ _=>rfl⟩
 ·rfl
theorem qM.of_eq {m:Nat->Prop} {o o':Option Obj} (h:o'=o):qM m o o':=h ▸ qM.refl m o
theorem qM.trans {m:Nat->Prop} {a b c:Option Obj} (h:qM m a b) (h':qM m b c):qM m a c:=by
 unfold qM at h
 split at h
 ·obtain ⟨c1,rfl,hs,hc⟩:=h
  simp only[qM] at h'
  obtain ⟨c2,rfl,hs',hc'⟩:=h'
  exact ⟨c2,rfl,hs'.trans hs,fun i hi=>(hc' i hi).trans (hc i hi)⟩
 ·subst h;exact h'
theorem qM.mono {m m':Nat->Prop} {a b:Option Obj} (h:qM m a b) (hm:∀ i,m i->m' i):qM m' a b:=by
 unfold qM at h ⊢
 split at h
 ·obtain ⟨c1,rfl,hs,hc⟩:=h
  exact ⟨c1,rfl,hs,fun i hi=>hc i (fun hh=>hi (hm i hh))⟩
 ·exact h
theorem qM.eq {m:Nat->Prop} {a b:Option Obj} (h:qM m a b) (hm:∀ i,¬ m i):b=a:=by
 unfold qM at h
 split at h
 ·obtain ⟨c1,rfl,hs,hc⟩:=h
  congr 2
  apply Array.ext_getElem?
  exact fun i=>hc i (hm i)
 ·exact h
structure Eff (M:Nat->Nat->Prop) (w w':World):Prop where
 os:w'.os=w.os
 tape:w'.tape=w.tape
 output:w'.output=w.output
 size:w.heap.size<=w'.heap.size
 block:∀ k,k<w.heap.size->qM (M k) w.heap[k]? w'.heap[k]?
abbrev Grow (w w':World):Prop:=Eff (fun _ _=>False) w w'
theorem Eff.refl (M:Nat->Nat->Prop) (w:World):Eff M w w:=⟨rfl,rfl,rfl,Nat.le_refl _,fun _ _=>qM.refl _ _⟩
theorem Eff.trans {M:Nat->Nat->Prop} {a b c:World} (h:Eff M a b) (k:Eff M b c):Eff M a c :=
 ⟨k.os.trans h.os,k.tape.trans h.tape,k.output.trans h.output,Nat.le_trans h.size k.size,
  fun i hi=>(h.block i hi).trans (k.block i (Nat.lt_of_lt_of_le hi h.size))⟩
theorem Eff.mono {M M':Nat->Nat->Prop} {a b:World} (h:Eff M a b) (hm:∀ k i,k<a.heap.size->M k i->M' k i):Eff M' a b :=
 ⟨h.os,h.tape,h.output,h.size,fun k hk=>(h.block k hk).mono (fun i=>hm k i hk)⟩
theorem Eff.trans' {M M':Nat->Nat->Prop} {a b c:World} (h:Eff M a b) (k:Eff M' b c) (hm:∀ k i,k<a.heap.size->M' k i->M k i):Eff M a c :=
 ⟨k.os.trans h.os,k.tape.trans h.tape,k.output.trans h.output,Nat.le_trans h.size k.size,
  fun i hi=>(h.block i hi).trans ((k.block i (Nat.lt_of_lt_of_le hi h.size)).mono (fun j=>hm i j hi))⟩
theorem Eff.drew {M:Nat->Nat->Prop} {a w:World} (h:Eff M a w):Eff M a w.drew:=⟨h.os,h.tape,h.output,h.size,h.block⟩
theorem Eff.drawn {M:Nat->Nat->Prop} {a w:World} (h:Eff M a w) (n:Nat):Eff M a { w with drawn:=n }:=⟨h.os,h.tape,h.output,h.size,h.block⟩
theorem Eff.alloc {M:Nat->Nat->Prop} {a w:World} (h:Eff M a w) (o:Obj):Eff M a (w.alloc o) :=
 h.trans ⟨rfl,rfl,rfl,by simp,fun k hk=>qM.of_eq (Below.heap_alloc w o k hk)⟩
theorem blk_setCell (w:World) (b o:Nat) (v:Value) (k:Nat):qM (fun i=>k=b/\i=o) w.heap[k]? (w.setCell ⟨b,o,none⟩ v).heap[k]?:=by
 simp only[World.setCell,Array.getElem?_modify]
 by_cases hk:b=k
 ·subst hk
  simp only[if_true]
  cases hh:w.heap[b]? with
  | none=>exact qM.refl _ _
  | some x =>
   cases x with
   | cells c T f =>
    refine ⟨_,rfl,by simp,fun i hi=>?_⟩
    have:o≠i:=fun e=>hi (by first | exact ⟨trivial,e.symm⟩ | exact ⟨rfl,e.symm⟩)
    simp[this]
   | _=>exact qM.refl _ _
 ·simp only[if_neg hk]
  exact qM.refl _ _
theorem Eff.setCell {M:Nat->Nat->Prop} {a w:World} (h:Eff M a w) (b o:Nat) (v:Value) (hb:b<a.heap.size->M b o):Eff M a (w.setCell ⟨b,o,none⟩ v):=by
 refine h.trans' (M':=fun k i=>k=b/\i=o) ⟨rfl,rfl,rfl,by simp,fun k _=>blk_setCell w b o v k⟩ ?_
 rintro k i hk ⟨rfl,rfl⟩
 exact hb hk
theorem Eff.blockEq {M:Nat->Nat->Prop} {w w':World} (h:Eff M w w') {k:Nat} (hk:k<w.heap.size) (hm:∀ i,¬ M k i):w'.heap[k]? = w.heap[k]?:=(h.block k hk).eq hm
theorem Eff.below {M:Nat->Nat->Prop} {w w':World} (h:Eff M w w') {B:Nat} (hB:B<=w.heap.size) (hm:∀ k i,k<B->¬ M k i):Below B w w' :=
 ⟨h.os,h.tape,h.output,h.size,fun k hk=>h.blockEq (Nat.lt_of_lt_of_le hk hB) (fun i=>hm k i hk)⟩
theorem Grow.below {w w':World} (h:Grow w w'):Below w.heap.size w w':=Eff.below h (Nat.le_refl _) (fun _ _ _ h=>h)
theorem Grow.of_below {w w':World} (h:Below w.heap.size w w'):Grow w w':=⟨h.os,h.tape,h.output,h.size,fun k hk=>qM.of_eq (h.block k hk)⟩
theorem Eff.of_below {M:Nat->Nat->Prop} {w w':World} (h:Below w.heap.size w w'):Eff M w w':=⟨h.os,h.tape,h.output,h.size,fun k hk=>qM.of_eq (h.block k hk)⟩
theorem Grow.eff {M:Nat->Nat->Prop} {w w':World} (h:Grow w w'):Eff M w w':=Eff.mono h (fun _ _ _ h=>h.elim)
theorem qo {w:World} {b o:Nat} {v:Value} (h:w.cell? ⟨b,o,none⟩=some v):b<w.heap.size:=World.block_lt_of_cell? w _ h
theorem qM.cell {m:Nat->Prop} {w w':World} {b:Nat} (h:qM m w.heap[b]? w'.heap[b]?) {o:Nat} (hm:¬ m o):w'.cell? ⟨b,o,none⟩=w.cell? ⟨b,o,none⟩:=by
 unfold qM at h
 split at h
 ·rename_i c T f hc
  obtain ⟨c',hc',hs,hi⟩:=h
  simp[World.cell?,hc,hc',hi o hm]
 ·simp[World.cell?,h]
theorem Eff.cell {M:Nat->Nat->Prop} {w w':World} (h:Eff M w w') {b o:Nat} (hb:b<w.heap.size) (hm:¬ M b o):w'.cell? ⟨b,o,none⟩=w.cell? ⟨b,o,none⟩ :=
 (h.block b hb).cell hm
theorem Eff.cellSome {M:Nat->Nat->Prop} {w w':World} (h:Eff M w w') {b o:Nat} {v:Value} (hc:w.cell? ⟨b,o,none⟩=some v) (hm:¬ M b o):w'.cell? ⟨b,o,none⟩=some v :=
 (h.cell (qo hc) hm).trans hc
theorem Eff.there {M:Nat->Nat->Prop} {w w':World} (h:Eff M w w') {b o:Nat} (hc:(w.cell? ⟨b,o,none⟩).isSome=true):(w'.cell? ⟨b,o,none⟩).isSome=true:=by
 obtain ⟨v,hv⟩:=Option.isSome_iff_exists.1 hc
 have hk:=h.block b (qo hv)
 unfold World.cell? at hv ⊢
 simp only at hv ⊢
 split at hv
 ·rename_i c T f hh
  rw[hh] at hk
  obtain ⟨c',hc',hs,_⟩:=hk
  simp only[hc'] 
  simp only[Option.isSome_none,Bool.false_eq_true,if_false] at hv ⊢
  have:o<c.size:=by
   rcases Nat.lt_or_ge o c.size with h | h
   ·exact h
   ·simp[Array.getElem?_eq_none h] at hv
  simp[hs,this]
 ·cases hv
theorem Eff.frozen {M:Nat->Nat->Prop} {w w':World} (h:Eff M w w') {b o:Nat} (hb:b<w.heap.size):w'.frozen? ⟨b,o,none⟩=w.frozen? ⟨b,o,none⟩:=by
 have hk:=h.block b hb
 unfold qM at hk
 split at hk
 ·rename_i c T f hc
  obtain ⟨c',hc',_,_⟩:=hk
  simp[World.frozen?,hc,hc']
 ·simp[World.frozen?,hk]
def qt (w:World) (b o:Nat):Prop:=(w.cell? ⟨b,o,none⟩).isSome=true/\w.frozen? ⟨b,o,none⟩=false
theorem qt.lt {w:World} {b o:Nat} (h:qt w b o):b<w.heap.size:=by
 obtain ⟨v,hv⟩:=Option.isSome_iff_exists.1 h.1
 exact qo hv
theorem qt.eff {M:Nat->Nat->Prop} {w w':World} {b o:Nat} (h:qt w b o) (he:Eff M w w'):qt w' b o:=⟨he.there h.1,(he.frozen h.lt).trans h.2⟩
theorem qm (w:World) (c:Array Value) (T:TypeId) {i:Nat} (hi:i<c.size):qt (w.alloc (.cells c T)) w.heap.size i:=by
 constructor
 ·rw[World.cell?_alloc_new]
  simp[hi]
 ·have h:(w.alloc (.cells c T)).heap[w.heap.size]? = some (.cells c T):=heap_alloc_new w _
  unfold World.frozen?
  simp only[h]
  simp
theorem qs (w:World) (c:Array Value) (T:TypeId) {i:Nat} {v:Value} (hi:c[i]? = some v):(w.alloc (.cells c T)).cell? ⟨w.heap.size,i,none⟩=some v:=by
 rw[World.cell?_alloc_new]
 exact hi
theorem qp {w:World} {b o:Nat} (v:Value) (h:(w.cell? ⟨b,o,none⟩).isSome=true):(w.setCell ⟨b,o,none⟩ v).cell? ⟨b,o,none⟩=some v:=by
 obtain ⟨u,hu⟩:=Option.isSome_iff_exists.1 h
 exact World.cell?_setCell_same w _ _ hu
theorem xE {w:World} {b o b' o':Nat} (v:Value) (h:b≠b'\/o≠o'):(w.setCell ⟨b,o,none⟩ v).cell? ⟨b',o',none⟩=w.cell? ⟨b',o',none⟩:=by
 apply World.cell?_setCell_other
 intro e
 injection e with e1 e2
 rcases h with h | h
 ·exact h e1
 ·exact h e2
def setCells (w:World) (b o:Nat):List Value->World
 | []=>w
 | v::r=>setCells (w.setCell ⟨b,o,none⟩ v) b (o+1) r
theorem qe (b:Nat):∀ (vs:List Value) (w:World) (o:Nat),Eff (fun k i=>k=b/\o<=i/\i<o+vs.length) w (setCells w b o vs)
 | [],w,_=>Eff.refl _ w
 | v::r,w,o=>by
  have h1:Eff (fun k i=>k=b/\o<=i/\i<o+(v::r).length) w (w.setCell ⟨b,o,none⟩ v):=(Eff.refl _ w).setCell b o v (fun _=>⟨rfl,Nat.le_refl _,by simp⟩)
  refine h1.trans' (qe b r _ (o+1)) ?_
  rintro k i _ ⟨rfl,h2,h3⟩
  exact ⟨rfl,by omega,by simp only[List.length_cons];omega⟩
theorem qg (b:Nat):∀ (vs:List Value) (w:World) (o:Nat),(∀ i,i<vs.length->(w.cell? ⟨b,o+i,none⟩).isSome=true) →
  ∀ i v,vs[i]? = some v->(setCells w b o vs).cell? ⟨b,o+i,none⟩=some v
 | [],_,_,_,i,v,h=>by simp at h
 | u::r,w,o,ht,i,v,h=>by
  have h0:=ht 0 zS
  simp only[Nat.add_zero] at h0
  have he:Eff (fun k i=>k=b/\i=o) w (w.setCell ⟨b,o,none⟩ u):=(Eff.refl _ w).setCell b o u (fun _=>⟨rfl,rfl⟩)
  cases i with
  | zero =>
   simp only[List.getElem?_cons_zero,Option.some.injEq] at h
   subst h
   have h1:=qp u h0
   exact (qe b r _ (o+1)).cellSome h1 (by rintro ⟨_,h,_⟩;omega)
  | succ i =>
   simp only[List.getElem?_cons_succ] at h
   have:=qg b r (w.setCell ⟨b,o,none⟩ u) (o+1) (fun j hj=>he.there (by have:=ht (j+1) (by simp;omega);rwa [show o+(j+1)=o+1+j by omega] at this)) i v h
   rwa [show o+1+i=o+(i+1) by omega] at this
theorem ke {P:Program} (b:Nat):∀ (vs:List Value) (w:World) (o i:Nat),(∀ j,j<vs.length->qt w b (o+i+j))->(∀ v ∈ vs,v.oneCell'=true) →
  (storeCells ⟨b,o,none⟩ vs i).run P w=.ok () (setCells w b (o+i) vs)
 | [],_,_,_,_,_=>rfl
 | v::r,w,o,i,hf,h1=>by
  have h0:=hf 0 zS
  simp only[Nat.add_zero] at h0
  obtain ⟨u,hu⟩:=Option.isSome_iff_exists.1 h0.1
  have he:Eff (fun k j=>k=b/\j=o+i) w (w.setCell ⟨b,o+i,none⟩ v):=(Eff.refl _ w).setCell b (o+i) v (fun _=>⟨rfl,rfl⟩)
  have ih:=ke (P:=P) b r (w.setCell ⟨b,o+i,none⟩ v) o (i+1) (fun j hj=>(by
   have:=hf (j+1) (by simp;omega)
   rw[show o+i+(j+1)=o+(i+1)+j by omega] at this
   exact this.eff he)) (fun x hx=>h1 x (by simp[hx]))
  simp only[storeCells,Addr.add_lit,Sem.run_bind,run_store P w _ _ _ (h1 v zS),hu,h0.2,Bool.false_eq_true,if_false,Result.andThen_ok]
  rw[ih]
  rfl
section
variable {P : Program} {a : Act} {w : World} {r : List Oper} {Q : Exit → Act → World → Prop}
theorem xq {t x y ty p af g b o v} (hx:a.eval x=.pointer (some ⟨b,o,none⟩)) (hy:a.eval y=v) (h1:v.oneCell'=true) (ht:qQ P t=true) (hf:qt w b o)
  (h:rO_ P Q r a (w.setCell ⟨b,o,none⟩ v)):rO_ P Q (⟨none,.store t x y,ty,p,af,g⟩::r) a w:=by
 refine st ?_
 have hv:v.cells=#[v]:=by cases v<;>first | rfl | simp[Value.oneCell'] at h1
 have hr:=ke (P:=P) b [v] w o 0 (fun j hj=>by simp at hj;subst hj;simpa using hf) (by simpa using h1)
 simp only[Oper.wp,execOp,hx,hy,Instr.storeAt,Instr.sureAddr,storeVar,Sem.run_bind,Sem.run_pure,run_sizeOf_oneT ht,Result.andThen_ok,hv]
 simp only[List.size_toArray,List.length_cons,List.length_nil,ne_eq,not_true_eq_false,if_false,Nat.zero_add]
 simp only[hr,setCells,Result.andThen_ok,Oper.upon_skip,Nat.add_zero]
 exact h
end
end Go.Km
namespace Go.Km
open Go Go.RowKit
def z7 (P:Program) (t:TypeId):Option Nat :=
 match P.underlying t,P.info? t with
 | some (.struct _),some i=>some i.size
 | some (.array _ _),some i=>some i.size
 | _,_=>none
def qb (w:World) (b o:Nat) (cs:List Value):Prop:=∀ i v,cs[i]? = some v->w.cell? ⟨b,o+i,none⟩=some v
theorem qb.nil (w:World) (b o:Nat):qb w b o []:=fun i v h=>by simp at h
theorem qb.eff {M:Nat->Nat->Prop} {w w':World} {b o:Nat} {cs:List Value} (h:qb w b o cs) (he:Eff M w w') (hm:∀ i,i<cs.length->¬ M b (o+i)):qb w' b o cs :=
 fun i v hv=>he.cellSome (h i v hv) (hm i (by rcases Nat.lt_or_ge i cs.length with h | h;exact h;simp[List.getElem?_eq_none h] at hv))
theorem qb.get {w:World} {b o:Nat} {cs:List Value} (h:qb w b o cs) {i:Nat} (hi:i<cs.length):w.cell? ⟨b,o+i,none⟩=some cs[i]:=h i _ (List.getElem?_eq_getElem hi)
section
variable {P : Program} {a : Act} {w : World} {r : List Oper} {Q : Exit → Act → World → Prop}
theorem gx {t n} (ht:z7 P t=some n):(∀ w,(isAgg t).run P w=.ok true w)/\(∀ w,(sizeOf t).run P w=.ok n w):=by
 unfold z7 at ht
 cases hu:P.underlying t with
 | none=>simp[hu] at ht
 | some d =>
  cases hi:P.info? t with
  | none=>cases d<;>simp[hu,hi] at ht
  | some i =>
   rw[hu,hi] at ht
   refine ⟨fun w=>?_,fun w=>?_⟩
   ·simp only[isAgg,Sem.run_bind,run_underlying hu,Result.andThen_ok]
    cases d<;>simp_all
   ·cases d<;>simp_all [sizeOf,typeInfo]
theorem kM {b o:Nat} {cs:List Value} (h:qb w b o cs):(loadCells ⟨b,o,none⟩ cs.length).run P w=.ok cs.toArray w:=by
 have key:∀ (n i:Nat) (acc:Array Value),i+n=cs.length->acc.toList=cs.take i->(loadCellsFrom ⟨b,o,none⟩ i n acc).run P w=.ok cs.toArray w:=by
  intro n
  induction n with
  | zero =>
   intro i acc hi ha
   have:acc=cs.toArray:=by
    apply Array.ext'
    rw[ha,List.take_of_length_le zH]
   simp[loadCellsFrom,this]
  | succ n ih =>
   intro i acc hi ha
   have hlt:i<cs.length:=by omega
   simp only[loadCellsFrom,Addr.add_lit,Sem.run_bind,run_load,h.get hlt,Result.andThen_ok]
   refine ih (i+1) _ zH ?_
   rw[Array.toList_push,ha,List.take_succ_eq_append_getElem hlt]
 exact key cs.length 0 #[] zS zS
theorem qf {d t x ty p af g b o cs} (hx:a.eval x=.pointer (some ⟨b,o,none⟩)) (ht:z7 P t=some cs.length) (hc:qb w b o cs) (h:rO_ P Q r (a.put (some d) (.agg cs.toArray)) w) :
  rO_ P Q (⟨some d,.load t x,ty,p,af,g⟩::r) a w:=by
 refine st ?_
 obtain ⟨h1,h2⟩:=gx ht
 simp only[Oper.wp,execOp,hx,Instr.loadAt,Instr.sureAddr,loadVar,Sem.run_bind,Sem.run_pure,h1,Result.andThen_ok,if_true,h2,kM hc,Oper.upon_value]
 exact h
theorem qu {t x y ty p af g b o} {cs:List Value} (hx:a.eval x=.pointer (some ⟨b,o,none⟩)) (hy:a.eval y=.agg cs.toArray) (h1:∀ v ∈ cs,v.oneCell'=true) (ht:z7 P t=some cs.length) (hf:∀ i,i<cs.length->qt w b (o+i))
  (h:rO_ P Q r a (setCells w b o cs)):rO_ P Q (⟨none,.store t x y,ty,p,af,g⟩::r) a w:=by
 refine st ?_
 obtain ⟨_,h2⟩:=gx ht
 have hr:=ke (P:=P) b cs w o 0 (fun j hj=>by simpa using hf j hj) h1
 simp only[Oper.wp,execOp,hx,hy,Instr.storeAt,Instr.sureAddr,storeVar,Sem.run_bind,Sem.run_pure,h2,Result.andThen_ok,Value.cells]
 simp only[List.size_toArray,ne_eq,not_true_eq_false,if_false,hr,Nat.add_zero,Result.andThen_ok,Oper.upon_skip]
 exact h
theorem r_call {d f xs ts ty p af g} {S:Value->World->Prop} (h:qa P f (xs.map a.eval) w S) (hn:∀ v w',S v w'->rO_ P Q r (a.put d v) w') :
  rO_ P Q (⟨d,.call { callee:=.value (.func f),args:=xs,argTypes:=ts },ty,p,af,g⟩::r) a w:=by
 refine st ?_
 obtain ⟨he,hc⟩:=h
 have:=he (#[]++xs.map a.eval++#[]) w
 simp only[Array.empty_append,Array.append_empty] at this
 simp only[Oper.wp,execOp,resolve,Act.eval,Deferred.ofValue,Sem.run_bind,Sem.run_pure,Result.andThen_ok,invoke,Array.empty_append,Array.append_empty]
 have h2:(callFunc f (xs.map a.eval)).run P w=.ok (.enter f (xs.map a.eval)) w:=this
 have h3:(callFunc f (xs.map (Act.eval a))).run P w=.ok (.enter f (xs.map a.eval)) w:=this
 simp only[Oper.upon,h3]
 refine hc.mono ?_
 rintro e w' ⟨v,rfl,hs⟩
 exact hn v w' hs
theorem q8 {d f xs ts ty p af g args} {S:Value->World->Prop} (hx:xs.map a.eval=args) (h:qa P f args w S) (hn:∀ v w',S v w'->rO_ P Q r (a.put d v) w') :
  rO_ P Q (⟨d,.call { callee:=.value (.func f),args:=xs,argTypes:=ts },ty,p,af,g⟩::r) a w:=r_call (hx ▸ h) hn
theorem r_cmp {d op xt x y yt ty p af g k m n} {res:Bool} (hx:a.eval x=.int k m) (hy:a.eval y=.int k n) (ho:Op.intCmp op m n=pure (.bool res)) (hop:op=.eql\/op=.neq\/op=.lss\/op=.leq\/op=.gtr\/op=.geq)
  (h:rO_ P Q r (a.put (some d) (.bool res)) w):rO_ P Q (⟨some d,.binOp op xt x y yt,ty,p,af,g⟩::r) a w:=by
 refine st ?_
 have hg:∀ (x y:Operand),eqGuard op xt x y (.int k m) (.int k n)=pure ():=fun x y=>by cases op<;>rfl
 have hb:binOp op xt (.int k m) (.int k n)=Op.intCmp op m n:=by rcases hop with h | h | h | h | h | h<;>subst h<;>simp[binOp]
 simp only[Oper.wp,execOp,hx,hy,hg,hb,ho,Sem.run_bind,Sem.run_pure,Result.andThen_ok,Oper.upon_value]
 exact h
theorem qV {d xt x y yt ty p af g k m n} (hx:a.eval x=.int k m) (hy:a.eval y=.int k n) (h:rO_ P Q r (a.put (some d) (.bool (decide (m<n)))) w):rO_ P Q (⟨some d,.binOp .lss xt x y yt,ty,p,af,g⟩::r) a w :=
 r_cmp hx hy rfl zS h
theorem vD {d xt x y yt ty p af g k m n} (hx:a.eval x=.int k m) (hy:a.eval y=.int k n) (h:rO_ P Q r (a.put (some d) (.bool (decide (m<=n)))) w):rO_ P Q (⟨some d,.binOp .leq xt x y yt,ty,p,af,g⟩::r) a w :=
 r_cmp hx hy rfl zS h
theorem ji {d xt x y yt ty p af g k m n} (hx:a.eval x=.int k m) (hy:a.eval y=.int k n) (h:rO_ P Q r (a.put (some d) (.bool (decide (m>n)))) w):rO_ P Q (⟨some d,.binOp .gtr xt x y yt,ty,p,af,g⟩::r) a w :=
 r_cmp hx hy rfl zS h
theorem kX {d xt x y yt ty p af g k m n} (hx:a.eval x=.int k m) (hy:a.eval y=.int k n) (h:rO_ P Q r (a.put (some d) (.bool (decide (m ≥ n)))) w):rO_ P Q (⟨some d,.binOp .geq xt x y yt,ty,p,af,g⟩::r) a w :=
 r_cmp hx hy rfl zS h
theorem xy {d xt x y yt ty p af g k m n} (hx:a.eval x=.int k m) (hy:a.eval y=.int k n) (h:rO_ P Q r (a.put (some d) (.bool (m==n))) w):rO_ P Q (⟨some d,.binOp .eql xt x y yt,ty,p,af,g⟩::r) a w :=
 r_cmp hx hy rfl zS h
theorem r_neq {d xt x y yt ty p af g k m n} (hx:a.eval x=.int k m) (hy:a.eval y=.int k n) (h:rO_ P Q r (a.put (some d) (.bool (m != n))) w):rO_ P Q (⟨some d,.binOp .neq xt x y yt,ty,p,af,g⟩::r) a w :=
 r_cmp hx hy rfl zS h
theorem xN {d xt x y yt ty p af g k m n} (hx:a.eval x=.int k m) (hy:a.eval y=.int k n) (h:rO_ P Q r (a.put (some d) (.int k (k.wrap (m+n)))) w):rO_ P Q (⟨some d,.binOp .add xt x y yt,ty,p,af,g⟩::r) a w:=by
 refine st ?_
 simp only[Oper.wp,execOp,hx,hy,eqGuard_at_int,binOp_add,Op.intArith,Sem.run_bind,Sem.run_pure,Result.andThen_ok,Oper.upon_value]
 exact h
theorem yw {d xt x y yt ty p af g k m n} (hx:a.eval x=.int k m) (hy:a.eval y=.int k n) (h:rO_ P Q r (a.put (some d) (.int k (k.wrap (m-n)))) w):rO_ P Q (⟨some d,.binOp .sub xt x y yt,ty,p,af,g⟩::r) a w:=by
 refine st ?_
 simp only[Oper.wp,execOp,hx,hy,eqGuard_at_int,binOp_sub,Op.intArith,Sem.run_bind,Sem.run_pure,Result.andThen_ok,Oper.upon_value]
 exact h
theorem r_mul {d xt x y yt ty p af g k m n} (hx:a.eval x=.int k m) (hy:a.eval y=.int k n) (h:rO_ P Q r (a.put (some d) (.int k (k.wrap (m*n)))) w):rO_ P Q (⟨some d,.binOp .mul xt x y yt,ty,p,af,g⟩::r) a w:=by
 refine st ?_
 simp only[Oper.wp,execOp,hx,hy,eqGuard_at_int,binOp_mul,Op.intArith,Sem.run_bind,Sem.run_pure,Result.andThen_ok,Oper.upon_value]
 exact h
theorem yO {d op xt x y yt ty p af g k m n v} (hx:a.eval x=.int k m) (hy:a.eval y=.int k n) (hop:op=.and\/op=.or\/op=.xor\/op=.andNot) (hv:Op.intBits op k m n=pure v) (h:rO_ P Q r (a.put (some d) v) w) :
  rO_ P Q (⟨some d,.binOp op xt x y yt,ty,p,af,g⟩::r) a w:=by
 refine st ?_
 have hb:binOp op xt (.int k m) (.int k n)=Op.intBits op k m n:=by rcases hop with h | h | h | h<;>subst h<;>simp[binOp]
 simp only[Oper.wp,execOp,hx,hy,eqGuard_at_int,hb,hv,Sem.run_bind,Sem.run_pure,Result.andThen_ok,Oper.upon_value]
 exact h
theorem r_shl {d xt x y yt ty p af g k m k' n} (hx:a.eval x=.int k m) (hy:a.eval y=.int k' n) (hn:0<=n) (h:rO_ P Q r (a.put (some d) (.int k (k.wrap (m*2 ^ (min n.toNat k.bits))))) w) :
  rO_ P Q (⟨some d,.binOp .shl xt x y yt,ty,p,af,g⟩::r) a w:=by
 refine st ?_
 simp only[Oper.wp,execOp,hx,hy,eqGuard_at_int,binOp_shl,Op.shift,if_neg (Int.not_lt.2 hn),Sem.run_bind,Sem.run_pure,Result.andThen_ok,Oper.upon_value]
 exact h
theorem r_shr {d xt x y yt ty p af g k m k' n} (hx:a.eval x=.int k m) (hy:a.eval y=.int k' n) (hn:0<=n) (h:rO_ P Q r (a.put (some d) (.int k (m.fdiv (2 ^ (min n.toNat k.bits))))) w) :
  rO_ P Q (⟨some d,.binOp .shr xt x y yt,ty,p,af,g⟩::r) a w:=by
 refine st ?_
 simp only[Oper.wp,execOp,hx,hy,eqGuard_at_int,binOp_shr,Op.shift,if_neg (Int.not_lt.2 hn),Sem.run_bind,Sem.run_pure,Result.andThen_ok,Oper.upon_value]
 exact h
theorem zq {d xt x ty p af g b} (hx:a.eval x=.bool b) (h:rO_ P Q r (a.put (some d) (.bool (!b))) w):rO_ P Q (⟨some d,.unOp .not xt x,ty,p,af,g⟩::r) a w:=by
 refine st ?_
 simp only[Oper.wp,execOp,hx,Op.unary,Sem.run_bind,Sem.run_pure,Result.andThen_ok,Oper.upon_value]
 exact h
def qr (P:Program) (t:TypeId):Option IntKind :=
 match P.underlying t with
 | some (.int k)=>some k
 | _=>none
theorem intT_inv {t k} (h:qr P t=some k):P.underlying t=some (.int k):=by
 unfold qr at h
 split at h
 ·rename_i k' hu;cases h;exact hu
 ·cases h
theorem qL {d s t x ty p af g k k' m} (hs:qr P s=some k) (ht:qr P t=some k') (hx:a.eval x=.int k m) (h:rO_ P Q r (a.put (some d) (.int k' (k'.wrap m))) w) :
  rO_ P Q (⟨some d,.convert s t x,ty,p,af,g⟩::r) a w:=by
 refine st ?_
 have:(convert s t (.int k m)).run P w=.ok (.int k' (k'.wrap m)) w:=by
  simp[convert,run_underlying (intT_inv hs),run_underlying (intT_inv ht),Conv.intToInt]
 simp only[Oper.wp,execOp,hx,Sem.run_bind,this,Sem.run_pure,Result.andThen_ok,Oper.upon_value]
 exact h
def xu (P:Program) (t:TypeId):Option (TypeId × Nat) :=
 match P.underlying t with
 | some (.slice e)=>match P.info? e with
  | some i=>some (e,i.size)
  | none=>none
 | _=>none
theorem zW {t e s} (h:xu P t=some (e,s)):P.underlying t=some (.slice e)/\∃ i,P.info? e=some i/\i.size=s:=by
 unfold xu at h
 split at h
 ·rename_i e' hu
  split at h
  ·rename_i i hi
   cases h
   exact ⟨hu,i,hi,rfl⟩
  ·cases h
 ·cases h
theorem jc {t e s} (h:xu P t=some (e,s)):(sizeOf e).run P w=.ok s w:=by
 obtain ⟨_,i,hi,rfl⟩:=zW h
 simp[sizeOf,typeInfo,hi]
theorem x7 {d x t ty p af g e s ad n c} (ht:xu P t=some (e,s)) (hx:a.eval x=.slice ad n c) (h:rO_ P Q r (a.put (some d) (.int .i64 n)) w) :
  rO_ P Q (⟨some d,.call { callee:=.builtin .len,args:=#[x],argTypes:=#[t] },ty,p,af,g⟩::r) a w:=by
 refine st ?_
 obtain ⟨hu,_⟩:=zW ht
 have:(Builtin.len_ #[t] ty #[a.eval x]).run P w=.ok (.int .i64 n) w:=by simp[Builtin.len_,run_underlying hu,hx,goInt]
 simp only[Oper.wp,execOp,resolve,invoke,builtin,Sem.run_bind,Sem.run_pure,Result.andThen_ok,List.map_toArray,List.map_cons,List.map_nil,this,Oper.upon_value]
 exact h
theorem zX {d x t ty p af g s} (ht:P.underlying t=some .string) (hx:a.eval x=.string s) (h:rO_ P Q r (a.put (some d) (.int .i64 s.size)) w) :
  rO_ P Q (⟨some d,.call { callee:=.builtin .len,args:=#[x],argTypes:=#[t] },ty,p,af,g⟩::r) a w:=by
 refine st ?_
 have:(Builtin.len_ #[t] ty #[a.eval x]).run P w=.ok (.int .i64 s.size) w:=by simp[Builtin.len_,run_underlying ht,hx,goInt]
 simp only[Oper.wp,execOp,resolve,invoke,builtin,Sem.run_bind,Sem.run_pure,Result.andThen_ok,List.map_toArray,List.map_cons,List.map_nil,this,Oper.upon_value]
 exact h
theorem qA {d t x i ty p af g e s b o len cap k} {j:Nat} (ht:xu P t=some (e,s)) (hx:a.eval x=.slice (some ⟨b,o,none⟩) len cap) (hi:a.eval i=.int k (j:Int)) (hj:j<len)
  (h:rO_ P Q r (a.put (some d) (.pointer (some ⟨b,o+j*s,none⟩))) w):rO_ P Q (⟨some d,.indexAddr t x i,ty,p,af,g⟩::r) a w:=by
 refine st ?_
 obtain ⟨hu,_⟩:=zW ht
 have:(Instr.indexAt t (a.eval x) (a.eval i)).run P w=.ok (.pointer (some ⟨b,o+j*s,none⟩)) w:=by
  have hj':(0:Int)<=j/\(j:Int)<len:=⟨by omega,by omega⟩
  simp[Instr.indexAt,run_underlying hu,hx,hi,asIntOf,hj',jc ht,Addr.add_lit,hj]
 simp only[Oper.wp,execOp,Sem.run_bind,this,Sem.run_pure,Result.andThen_ok,Oper.upon_value]
 exact h
theorem xw {k:IntKind} {n y:Nat} {code:BoundsCode} (h:n<=y):(Instr.sliceBound (.int k (n:Int)) y code).run P w=.ok n w:=by
 have:(0:Int)<=n/\(n:Int)<=y:=⟨by omega,by omega⟩
 simp[Instr.sliceBound,asIntOf,this]
theorem yh {d t x lo hi mx ty p af g e s ad len cap} (l h m:Nat) (ht:xu P t=some (e,s)) (hx:a.eval x=.slice ad len cap)
  (hl:match lo with | none=>l=0 | some y=>∃ k,a.eval y=.int k (l:Int)) (hh:match hi with | none=>h=len/\mx=none | some y=>∃ k,a.eval y=.int k (h:Int))
  (hm:match mx with | none=>m=cap | some y=>∃ k,a.eval y=.int k (m:Int)) (h1:l<=h) (h2:h<=m) (h3:m<=cap)
  (hn:rO_ P Q r (a.put (some d) (.slice (if m=l then ad else ad.map (·.add (l*s))) (h-l) (m-l))) w):rO_ P Q (⟨some d,.slice t x lo hi mx,ty,p,af,g⟩::r) a w:=by
 refine st ?_
 obtain ⟨hu,_⟩:=zW ht
 have hb:(Instr.sliceBounds true len cap (lo.map a.eval) (hi.map a.eval) (mx.map a.eval)).run P w=.ok (l,h,m) w:=by
  cases lo with
  | none =>
   subst hl
   cases hi with
   | none=>obtain ⟨rfl,rfl⟩:=hh;subst hm;simp[Instr.sliceBounds]
   | some y =>
    obtain ⟨k,hy⟩:=hh
    cases mx with
    | none=>subst hm;simp[Instr.sliceBounds,hy,xw h2]
    | some z=>obtain ⟨k',hz⟩:=hm;simp[Instr.sliceBounds,hy,hz,xw h2,xw h3]
  | some u =>
   obtain ⟨ku,hu⟩:=hl
   cases hi with
   | none=>obtain ⟨rfl,rfl⟩:=hh;subst hm;simp[Instr.sliceBounds,hu,xw h1]
   | some y =>
    obtain ⟨k,hy⟩:=hh
    cases mx with
    | none=>subst hm;simp[Instr.sliceBounds,hu,hy,xw h2,xw h1]
    | some z=>obtain ⟨k',hz⟩:=hm;simp[Instr.sliceBounds,hu,hy,hz,xw h2,xw h3,xw h1]
 have hr:(Instr.sliceAt t (a.eval x) (lo.map a.eval) (hi.map a.eval) (mx.map a.eval)).run P w=.ok (.slice (if m=l then ad else ad.map (·.add (l*s))) (h-l) (m-l)) w:=by
  rw[hx]
  simp[Instr.sliceAt,Instr.slice,run_underlying hu,hb,jc ht]
 simp only[Oper.wp,execOp,Sem.run_bind,hr,Sem.run_pure,Result.andThen_ok,Oper.upon_value]
 exact hn
theorem r_slice0 {d t x y ty p af g e s ad len cap k} (ht:xu P t=some (e,s)) (hx:a.eval x=.slice ad len cap) (hy:a.eval y=.int k 0)
  (hn:rO_ P Q r (a.put (some d) (.slice ad 0 cap)) w):rO_ P Q (⟨some d,.slice t x none (some y) none,ty,p,af,g⟩::r) a w:=by
 refine st ?_
 refine yh 0 0 cap ht hx rfl ⟨k,hy⟩ rfl (Nat.le_refl _) (Nat.zero_le _) (Nat.le_refl _) ?_
 have:(if cap=0 then ad else ad.map (·.add (0*s)))=ad:=by cases ad<;>simp[Addr.add_zero']
 rw[this]
 exact hn
theorem run_newVar {t:TypeId} {v:Value}:(newVar t v).run P w=.ok ⟨w.heap.size,0,none⟩ (w.alloc (.cells v.cells t)):=by
 simp[newVar,newRow]
def qK (P:Program) (t:TypeId):Option Value:=(P.info? t).bind (·.zero)
theorem run_zeroValue {t v} (h:qK P t=some v):(zeroValue t).run P w=.ok v w:=by
 unfold qK at h
 cases hi:P.info? t with
 | none=>simp[hi] at h
 | some i =>
  simp only[hi,Option.bind_some] at h
  simp[zeroValue,typeInfo,hi,h]
theorem qI {d t ty p af g v} (ht:qK P t=some v) (hn:rO_ P Q r (a.put (some d) (.pointer (some ⟨w.heap.size,0,none⟩))) (w.alloc (.cells v.cells t))) :
  rO_ P Q (⟨some d,.alloc t,ty,p,af,g⟩::r) a w:=by
 refine st ?_
 simp only[Oper.wp,execOp,Instr.alloc,Sem.run_bind,run_zeroValue ht,run_newVar,Sem.run_pure,Result.andThen_ok,Oper.upon_value]
 exact hn
theorem xI {d t x ty p af g v} (hx:a.eval x=v) (hn:rO_ P Q r (a.put (some d) (.pointer (some ⟨w.heap.size,0,none⟩))) (w.alloc (.cells v.cells t))) :
  rO_ P Q (⟨some d,.box t x,ty,p,af,g⟩::r) a w:=by
 refine st ?_
 simp only[Oper.wp,execOp,hx,Instr.box,Sem.run_bind,run_newVar,Sem.run_pure,Result.andThen_ok,Oper.upon_value]
 exact hn
end
section
variable {P : Program} {a : Act} {w : World} {Q : Exit → Act → World → Prop}
theorem vK (h:Q .normal a w):vc P .skip Q a w:=h
theorem vT (h:Q .ret a w):vc P .ret Q a w:=h
theorem xb {id:Nat} (h:Q (.exit id) a w):vc P (.exit id) Q a w:=h
theorem vc_skip_inv (h:vc P .skip Q a w):Q .normal a w:=h
theorem vc_seq_inv {x y:Code} (h:vc P (.seq x y) Q a w):vc P x (Exit.then (vc P y Q) Q) a w:=h
theorem vc_seq {x y:Code} (h:vc P x (Exit.then (vc P y Q) Q) a w):vc P (.seq x y) Q a w:=h
theorem vC {c:Operand} {x y:Code} {t:Bool} (hc:a.eval c=.bool t) (ht:t=true->vc P x Q a w) (hf:t=false->vc P y Q a w):vc P (.cond c x y) Q a w:=⟨t,hc,ht,hf⟩
theorem qh {id:Nat} {b:Code} (h:vc P b (Exit.inBlock id Q) a w):vc P (.block id b) Q a w:=h
theorem zI {b:Code} (I:Act->World->Prop) (μ:Act->World->Nat) (h0:I a w) (hr:∀ a w,I a w->vc P b (Exit.then (fun a' w'=>I a' w'/\μ a' w'<μ a w) Q) a w):vc P (.loop b) Q a w:=⟨I,μ,h0,hr⟩
theorem vc_draw {id:Nat} {ops:Array Oper} (h:∀ t,wpOps P ops Q (Region.schedule (P.follows .mixedOrders) ops t) a { w with drawn:=w.drawn+1 }):vc P (.region id ops true) Q a w:=h
theorem vc_ops {id:Nat} {ops:Array Oper} (h:wpOps P ops Q (List.range ops.size) a w):vc P (.region id ops false) Q a w:=h
end
end Go.Km
namespace Go.Km
open Go
inductive Scal where
 | bool | i8 | i16 | i32 | i64 | u16 | f64
 deriving DecidableEq,Repr
inductive Ver where
 | all | ge (n:Nat) | btw (n m:Nat) | tag (k lb:Nat)
 deriving DecidableEq,Repr
mutual
inductive Ty where
 | scal (s:Scal) (df:Int)
 | named (s:Scal) (T:TypeId) (df:Int)
 | uuid
 | text
 | ntext
 | ntextFrom (N:Nat)
 | bytes
 | nbytes
 | list (TS:TypeId) (null:Option Nat) (e:Ty)
 | struct (TP TU:TypeId) (FD:FuncId) (fs:Flds)
 | nstruct (TP TU:TypeId) (FD:FuncId) (fs:Flds) (PP:TypeId)
inductive Flds where
 | nil (tags:Bool)
 | cons (v:Ver) (t:Ty) (r:Flds)
end
structure Env where
 tErr:TypeId:=0
 tI8:TypeId:=0
 tI16:TypeId:=0
 tI32:TypeId:=0
 tI64:TypeId:=0
 tU8:TypeId:=0
 tU16:TypeId:=0
 tW:TypeId:=0
 tU64:TypeId:=0
 tO:TypeId:=0
 tF64:TypeId:=0
 tI:TypeId:=0
 tStr:TypeId:=0
 tPStr:TypeId:=0
 tB:TypeId:=0
 tUuid:TypeId:=0
 tTags:TypeId:=0
 tPTags:TypeId:=0
 tRd:TypeId:=0
 tPRd:TypeId:=0
 rI8:FuncId:=0
 rI16:FuncId:=0
 rI32:FuncId:=0
 rI64:FuncId:=0
 rU16:FuncId:=0
 rBool:FuncId:=0
 rF64:FuncId:=0
 rUuid:FuncId:=0
 rStr:FuncId:=0
 rUStr:FuncId:=0
 rCStr:FuncId:=0
 rUCStr:FuncId:=0
 rNStr:FuncId:=0
 rUNStr:FuncId:=0
 rCNStr:FuncId:=0
 rUCNStr:FuncId:=0
 rBytes:FuncId:=0
 rCBytes:FuncId:=0
 rNBytes:FuncId:=0
 rCNBytes:FuncId:=0
 rLen:FuncId:=0
 rCLen:FuncId:=0
 rOk:FuncId:=0
 rComplete:FuncId:=0
 rTags:FuncId:=0
 wI8:FuncId:=0
 wI16:FuncId:=0
 wI32:FuncId:=0
 wI64:FuncId:=0
 wU16:FuncId:=0
 wBool:FuncId:=0
 wF64:FuncId:=0
 wUuid:FuncId:=0
 wStr:FuncId:=0
 wCStr:FuncId:=0
 wNStr:FuncId:=0
 wCNStr:FuncId:=0
 wBytes:FuncId:=0
 wCBytes:FuncId:=0
 wNBytes:FuncId:=0
 wCNBytes:FuncId:=0
 wLen:FuncId:=0
 wCLen:FuncId:=0
 wNLen:FuncId:=0
 wCNLen:FuncId:=0
 wUvarint:FuncId:=0
 tLen:FuncId:=0
 tEach:FuncId:=0
 tUint:TypeId:=0
 tFld:TypeId:=0
 tFlds:TypeId:=0
 tT:TypeId:=0
 tS:TypeId:=0
 tUnk:TypeId:=0
 tK:TypeId:=0
 tMsg:TypeId:=0
 wU32:FuncId:=0
 wU64:FuncId:=0
 uvLen:FuncId:=0
 len32:FuncId:=0
 sHas:FuncId:=0
 sNull:FuncId:=0
 sWhole:FuncId:=0
 sThings:FuncId:=0
 sAt:FuncId:=0
 sUvar:FuncId:=0
 sFixed:FuncId:=0
 sWidth:FuncId:=0
 sCounted:FuncId:=0
 sValue:FuncId:=0
 sField:FuncId:=0
 sUsual:FuncId:=0
 sKnown:FuncId:=0
 sUnknown:FuncId:=0
 sPart:FuncId:=0
 sDefault:FuncId:=0
 sWrite:FuncId:=0
 sKept:FuncId:=0
 sSame:FuncId:=0
 lVersion:FuncId:=0
 tTagMap:TypeId:=0
 tU32s:TypeId:=0
 tFnTag:TypeId:=0
 tFnLess:TypeId:=0
 tAny:TypeId:=0
 gAll:FuncId:=0
 gEach1:FuncId:=0
 gAll1:FuncId:=0
 gSet:FuncId:=0
 sortSlice:FuncId:=0
 rUvar:FuncId:=0
 rSpan:FuncId:=0
 rU64:FuncId:=0
 kUv:FuncId:=0
 kUs:FuncId:=0
 bU16:FuncId:=0
 bU32:FuncId:=0
 bU64:FuncId:=0
 f64b:FuncId:=0
 f64f:FuncId:=0
 tBE:TypeId:=0
 tUvR:TypeId:=0
 vErr:Nat:=0
 vBE:Nat:=0
def Env.tScal (E:Env):Scal->TypeId
 | .bool=>E.tO | .i8=>E.tI8 | .i16=>E.tI16 | .i32=>E.tI32 | .i64=>E.tI64 | .u16=>E.tU16 | .f64=>E.tF64
def Env.rScal (E:Env):Scal->FuncId
 | .bool=>E.rBool | .i8=>E.rI8 | .i16=>E.rI16 | .i32=>E.rI32 | .i64=>E.rI64 | .u16=>E.rU16 | .f64=>E.rF64
def Env.wScal (E:Env):Scal->FuncId
 | .bool=>E.wBool | .i8=>E.wI8 | .i16=>E.wI16 | .i32=>E.wI32 | .i64=>E.wI64 | .u16=>E.wU16 | .f64=>E.wF64
def Ty.T (E:Env):Ty->TypeId
 | .scal s _=>E.tScal s
 | .named _ T _=>T
 | .uuid=>E.tUuid
 | .text=>E.tStr
 | .ntext | .ntextFrom _=>E.tPStr
 | .bytes | .nbytes=>E.tB
 | .list TS _ _=>TS
 | .struct TP _ _ _ | .nstruct TP _ _ _ _=>TP
def sq:List Code->Code
 | []=>.skip
 | [c]=>c
 | c::d::r=>.seq c (sq (d::r))
def rg (l:List Oper):Code:=.region 0 l.toArray false
def i16 (n:Nat):Operand:=.const (.int .i16 n)
def i32 (n:Int):Operand:=.const (.int .i32 n)
def i64 (n:Int):Operand:=.const (.int .i64 n)
structure Cx where
 vs:Nat
 fl:Option Nat
 rd:Nat:=7
def ifVer (E:Env) (x:Cx) (v:Ver) (t:Tmp) (body:Code):Code :=
 match v with
 | .all | .tag _ _=>body
 | .ge n=>sq [rg [qd t (.tmp x.vs) E.tI16,zL (t+1) .geq E.tI16 (.tmp t) (i16 n) E.tI16 E.tO],.cond (.tmp (t+1)) body .skip]
 | .btw n m=>sq [rg [qd t (.tmp x.vs) E.tI16,zL (t+1) .geq E.tI16 (.tmp t) (i16 n) E.tI16 E.tO,qd (t+2) (.tmp (t+1)) E.tO,
   ⟨some (t+3),.move (.tmp x.vs),E.tI16,"",#[],some (2,true)⟩,
   ⟨some (t+4),.binOp .leq E.tI16 (.tmp (t+3)) (i16 m) E.tI16,E.tO,"",#[],some (2,true)⟩,
   (oQ (t+5) (.pick (.tmp (t+2)) (.tmp (t+4)) (.const (.bool false))) E.tO)],.cond (.tmp (t+5)) body .skip]
def ifLss (E:Env) (x:Cx) (N:Nat) (t:Tmp) (A B:Code):Code :=
 sq [rg [qd t (.tmp x.vs) E.tI16,zL (t+1) .lss E.tI16 (.tmp t) (i16 N) E.tI16 E.tO],.cond (.tmp (t+1)) A B]
def Ver.nt:Ver->Nat
 | .all | .tag _ _=>0 | .ge _=>2 | .btw _ _=>6
def yD (TP TU T:TypeId) (x s f t:Nat):Code :=
 rg [qd t (.tmp s) TP,jk (t+1) (.tmp t),xB (t+2) TU (.tmp (t+1)) f,kZ (t+3) T (.tmp (t+2)),qc x (.tmp (t+3)) T]
def wLoadArr (TP TU T:TypeId) (x s f t:Nat):Code :=
 rg [qd t (.tmp s) TP,jk (t+1) (.tmp t),xB (t+2) TU (.tmp (t+1)) f,kZ (t+3) T (.tmp (t+2)),yn x T,zf T (.tmp x) (.tmp (t+3))]
def wAppArr (E:Env) (F:FuncId) (T:TypeId) (x t:Nat):Code :=
 rg [qd t (.tmp 1) E.tB,kZ (t+1) T (.tmp x),xi (some (t+2)) F #[.tmp t,.tmp (t+1)] #[E.tB,T] E.tB,qc 1 (.tmp (t+2)) E.tB]
def kL (E:Env) (F:FuncId) (T:TypeId) (x t:Nat):Code :=
 rg [qd t (.tmp 1) E.tB,qd (t+1) (.tmp x) T,xi (some (t+2)) F #[.tmp t,.tmp (t+1)] #[E.tB,T] E.tB,qc 1 (.tmp (t+2)) E.tB]
def kE (E:Env) (x:Cx) (t:Tmp) (n:Nat) (A B:Tmp->Code):Code :=
 match x.fl with
 | none=>B t
 | some fl=>sq [rg [qd t (.tmp fl) E.tO],.cond (.tmp t) (A (t+1)) (B (t+1+n))]
def Cx.nt (x:Cx) (n:Nat):Nat:=match x.fl with | none=>n | some _=>1+n+n
def wLens (E:Env) (F:FuncId) (T:TypeId) (x t:Nat):Code :=
 rg [qd t (.tmp 1) E.tB,qd (t+1) (.tmp x) T,xH (t+2) .len #[.tmp (t+1)] #[T] E.tI,xi (some (t+3)) F #[.tmp t,.tmp (t+2)] #[E.tB,E.tI] E.tB,qc 1 (.tmp (t+3)) E.tB]
def wNLens (E:Env) (F:FuncId) (T:TypeId) (x t:Nat):Code :=
 rg [qd t (.tmp 1) E.tB,qd (t+1) (.tmp x) T,xH (t+2) .len #[.tmp (t+1)] #[T] E.tI,qd (t+3) (.tmp x) T,zL (t+4) .eql T (.tmp (t+3)) (.const (.slice none 0 0)) T E.tO,
  xi (some (t+5)) F #[.tmp t,.tmp (t+2),.tmp (t+4)] #[E.tB,E.tI,E.tO] E.tB,qc 1 (.tmp (t+5)) E.tB]
def wLoop (E:Env) (T:TypeId) (x t b post:Nat) (body:Code):Code :=
 sq [rg [qd t (.tmp x) T,xH (t+1) .len #[.tmp t] #[T] E.tI,qd (t+2) (i64 0) E.tI],
  .block b (.loop (sq [rg [zL (t+3) .lss E.tI (.tmp (t+2)) (.tmp (t+1)) E.tI 0],.cond (.tmp (t+3)) .skip (.exit b),.block (b+1) body,
   rg [zL post .add E.tI (.tmp (t+2)) (i64 1) E.tI E.tI,qd (t+2) (.tmp post) E.tI]]))]
def Ty.arr:Ty->Bool
 | .uuid=>true
 | _=>false
def Ty.tp:Ty->Option TypeId
 | .struct TP _ _ _=>some TP
 | _=>none
def Ty.np:Ty->Bool
 | .nstruct _ _ _ _ _=>true
 | _=>false
def Ty.h (t:Ty):Nat:=match t.tp with | some _=>3 | none=>4
def Ty.kwN (t:Ty) (n:Nat):Nat:=match t with | .list _ _ _=>3+n | _=>1
def Ty.kwA (t:Ty):Nat:=match t with | .list _ _ _=>9 | _=>8
def Ty.kwT (t:Ty) (m:Nat):Nat:=match t with | .list _ _ _=>19+m | _=>11
mutual
def Ty.wn:Ty->Nat
 | .named _ _ _=>1
 | .ntextFrom _=>2
 | .list _ _ e=>2+e.wn
 | .struct _ _ _ fs | .nstruct _ _ _ fs _=>fs.wn
 | _=>0
def Flds.wn (kz:List Nat:=[]):Flds->Nat
 | .nil _=>if kz.isEmpty then 0 else 3+kz.sum
 | .cons (.tag _ _) t r=>Flds.wn (kz++[t.kwN t.wn]) r
 | .cons _ t r=>1+t.wn+Flds.wn kz r
def Ty.wt (x:Cx):Ty->Nat
 | .scal _ _ | .uuid=>3
 | .named _ _ _=>4
 | .text | .ntext | .bytes | .nbytes=>x.nt 3
 | .ntextFrom _=>8+x.nt 3+x.nt 3
 | .list _ null e=>x.nt (if null.isSome then 6 else 4)+3+1+1+e.h+e.wt x+1
 | .struct _ _ _ fs=>fs.wt x
 | .nstruct _ _ _ fs _=>8+fs.wt x
def Flds.wt (x:Cx) (kz:List Nat:=[]):Flds->Nat
 | .nil _=>match x.fl with | none=>0 | some _=>if kz.isEmpty then 1+8+5 else 1+17+kz.sum+1+5
 | .cons (.tag _ _) t r=>Flds.wt x (kz++[t.kwA+(2+t.kwT (t.wt x))]) r
 | .cons v t r=>v.nt+t.h+t.wt x+Flds.wt x kz r
def Ty.wb:Ty->Nat
 | .list _ _ e=>2+e.wb
 | .struct _ _ _ fs | .nstruct _ _ _ fs _=>fs.wb
 | _=>0
def Flds.wb (kz:List Nat:=[]):Flds->Nat
 | .nil _=>if kz.isEmpty then 0 else 3+kz.sum
 | .cons (.tag _ _) t r=>Flds.wb (kz++[t.wb]) r
 | .cons _ t r=>t.wb+Flds.wb kz r
end
def wTags (E:Env) (x:Cx) (TP TU:TypeId) (s f t:Nat):List Code :=
 match x.fl with
 | none=>[]
 | some fl=>[sq [rg [qd t (.tmp fl) E.tO],.cond (.tmp t) (sq [
   rg [qd (t+1) (.tmp 1) E.tB,qd (t+2) (.tmp s) TP,jk (t+3) (.tmp (t+2)),xB (t+4) TU (.tmp (t+3)) f,xi (some (t+5)) E.tLen #[.tmp (t+4)] #[E.tTags] E.tI,
    wW (t+6) E.tI E.tW (.tmp (t+5)),zL (t+7) .add E.tW (.const (.int .u32 0)) (.tmp (t+6)) E.tW E.tW,
    xi (some (t+8)) E.wUvarint #[.tmp (t+1),.tmp (t+7)] #[E.tB,E.tW] E.tB,qc 1 (.tmp (t+8)) E.tB],
   rg [qd (t+9) (.tmp s) TP,jk (t+10) (.tmp (t+9)),xB (t+11) TU (.tmp (t+10)) f,qd (t+12) (.tmp 1) E.tB,
    xi (some (t+13)) E.tEach #[.tmp (t+11),.tmp (t+12)] #[E.tTags,E.tB] E.tB,qc 1 (.tmp (t+13)) E.tB]]) .skip]]
def u32 (n:Nat):Operand:=.const (.int .u32 n)
def Scal.width:Scal->Nat
 | .bool | .i8=>1 | .i16 | .u16=>2 | .i32=>4 | .i64 | .f64=>8
def Scal.kind:Scal->IntKind
 | .i8=>.i8 | .i16=>.i16 | .i32=>.i32 | .i64=>.i64 | .u16=>.u16 | .bool=>.u8 | .f64=>.u64
def Scal.val:Scal->Int->Value
 | .bool,n=>.bool (n != 0)
 | .f64,n=>.float .f64 n.toNat
 | s,n=>.int s.kind n
structure KWr where
 k:Nat
 ask:Nat->Nat->Code
 askT:Nat
 cas:Nat->Nat->Nat->Code
 casN:Nat
 casT:Nat
 casB:Nat
def kwAdd (E:Env) (k n t:Nat):Code :=
 rg [qd t (.tmp n) E.tU32s,zb (t+1) E.tU32s 1 #[(0,u32 k)],xH (t+2) .append #[.tmp t,.tmp (t+1)] #[E.tU32s,E.tU32s] E.tU32s,qc n (.tmp (t+2)) E.tU32s]
def kwUv (E:Env) (k t:Nat):Code :=
 rg [qd t (.tmp 1) E.tB,xi (some (t+1)) E.wUvarint #[.tmp t,u32 k] #[E.tB,E.tW] E.tB,qc 1 (.tmp (t+1)) E.tB]
def kwSized (E:Env) (TP TU T:TypeId) (s idx k lb n t:Nat) (body:List Code) (m:Nat):Code :=
 .scope (sq ([yD TP TU T n s idx t,kwUv E k (t+4),rg [qc (n+1) (.const (.bool false)) E.tO],
  rg [qd (t+6) (.tmp 1) E.tB,xH (t+7) .len #[.tmp (t+6)] #[E.tB] E.tI,qc (n+2) (.tmp (t+7)) E.tI],.label lb]++body ++
  [rg [qd (t+8+m) (.tmp (n+1)) E.tO,oUn (t+9+m) .not E.tO (.tmp (t+8+m)) E.tO],
   .cond (.tmp (t+9+m)) (sq [.region 0 #[(oQ (t+10+m) (.move (.tmp 1)) E.tB),(oQ (t+11+m) (.move (.tmp (n+2))) E.tI),
     ⟨some (t+12+m),.slice E.tB (.tmp (t+10+m)) none (some (.tmp (t+11+m))) none,E.tB,"",#[⟨0,.data⟩,⟨1,.data⟩],none⟩,
     (oQ (t+13+m) (.move (.tmp 1)) E.tB),(oQ (t+14+m) (.move (.tmp (n+2))) E.tI),
     ⟨some (t+15+m),.slice E.tB (.tmp (t+13+m)) (some (.tmp (t+14+m))) none none,E.tB,"",#[⟨3,.data⟩,⟨4,.data⟩],none⟩,
     ⟨some (t+16+m),.call { callee:=.builtin .len,args:=#[.tmp (t+15+m)],argTypes:=#[E.tB] },E.tI,"",#[⟨5,.data⟩],none⟩,
     ⟨some (t+17+m),.convert E.tI E.tW (.tmp (t+16+m)),E.tW,"",#[⟨6,.data⟩],none⟩,
     ⟨some (t+18+m),.call { callee:=.value (.func E.wUvarint),args:=#[.tmp (t+12+m),.tmp (t+17+m)],argTypes:=#[E.tB,E.tW] },E.tB,"",#[⟨2,.data⟩,⟨7,.data⟩],none⟩,
     ⟨some 1,.assign (.tmp (t+18+m)),E.tB,"",#[⟨8,.data⟩,⟨8,.chain⟩,⟨0,.phase⟩,⟨1,.phase⟩,⟨2,.phase⟩,⟨3,.phase⟩,⟨4,.phase⟩,⟨5,.phase⟩,⟨6,.phase⟩,⟨7,.phase⟩,⟨8,.phase⟩],none⟩] true,
    rg [qc (n+1) (.const (.bool true)) E.tO],.goto lb]) .skip]))
def Ty.kw (E:Env) (TP TU:TypeId) (s idx k lb:Nat) (body:Nat->Nat->Nat->Nat->List Code) (wn wt wb:Nat) (ty:Ty):KWr :=
 match ty with
 | .scal c df=>{ k:=k,ask:=fun n t=>sq [rg [qd t (.tmp s) TP,jk (t+1) (.tmp t),xB (t+2) TU (.tmp (t+1)) idx,kZ (t+3) (E.tScal c) (.tmp (t+2)),zL (t+4) .neq (E.tScal c) (.tmp (t+3)) (.const (c.val df)) (E.tScal c) E.tO],
    .cond (.tmp (t+4)) (kwAdd E k n (t+5)) .skip],askT:=ty.kwA,cas:=fun n t b=>sq [yD TP TU (E.tScal c) n s idx t,kwUv E k (t+4),kwUv E c.width (t+6),kL E (E.wScal c) (E.tScal c) n (t+8)],casN:=ty.kwN wn,casT:=ty.kwT wt,casB:=wb }
 | .list TS _ _=>{ k:=k,ask:=fun n t=>sq [rg [qd t (.tmp s) TP,jk (t+1) (.tmp t),xB (t+2) TU (.tmp (t+1)) idx,kZ (t+3) TS (.tmp (t+2)),xH (t+4) .len #[.tmp (t+3)] #[TS] E.tI,zL (t+5) .gtr E.tI (.tmp (t+4)) (i64 0) E.tI E.tO],
    .cond (.tmp (t+5)) (kwAdd E k n (t+6)) .skip],askT:=ty.kwA,cas:=fun n t b=>kwSized E TP TU TS s idx k lb n t (body n (n+3) (t+8) b) wt,casN:=ty.kwN wn,casT:=ty.kwT wt,casB:=wb }
 | _=>{ k:=k,ask:=fun _ _=>.skip,askT:=ty.kwA,cas:=fun _ _ _=>.skip,casN:=ty.kwN wn,casT:=ty.kwT wt,casB:=wb }
def kwAsks (n:Nat):List KWr->Nat->List Code
 | [],_=>[]
 | e::r,t=>e.ask n t::kwAsks n r (t+e.askT)
def qS (l:List KWr):Nat:=(l.map (·.askT)).sum
def wX (E:Env) (key:Nat):List KWr->Nat->Nat->Nat->Code
 | [],_,_,_=>.skip
 | e::r,n,t,b=>sq [rg [zL (t+1) .eql E.tW (.tmp key) (u32 e.k) E.tW E.tO,qc t (.tmp (t+1)) E.tO],
   .cond (.tmp t) (e.cas n (t+2) b) (wX E key r (n+e.casN) (t+2+e.casT) (b+e.casB))]
def zx (l:List KWr):Nat:=(l.map fun e=>2+e.casT).sum
def wTagsK (E:Env) (x:Cx) (TP TU:TypeId) (s f n t b:Nat) (kt:List KWr):List Code :=
 match x.fl with
 | none=>[]
 | some fl =>
  let t1:=t+1+qS kt
  let t2:=t1+17+zx kt
  [sq [rg [qd t (.tmp fl) E.tO],.cond (.tmp t) (sq ([rg [qc n (.const (.slice none 0 0)) E.tU32s]]++kwAsks n kt (t+1) ++
   [rg [qd t1 (.tmp 1) E.tB,qd (t1+1) (.tmp n) E.tU32s,xH (t1+2) .len #[.tmp (t1+1)] #[E.tU32s] E.tI,qd (t1+3) (.tmp s) TP,jk (t1+4) (.tmp (t1+3)),xB (t1+5) TU (.tmp (t1+4)) f,
    xi (some (t1+6)) E.tLen #[.tmp (t1+5)] #[E.tTags] E.tI,zL (t1+7) .add E.tI (.tmp (t1+2)) (.tmp (t1+6)) E.tI E.tI,wW (t1+8) E.tI E.tW (.tmp (t1+7)),
    xi (some (t1+9)) E.wUvarint #[.tmp t1,.tmp (t1+8)] #[E.tB,E.tW] E.tB,qc 1 (.tmp (t1+9)) E.tB],
    sq [rg [qd (t1+10) (.tmp n) E.tU32s,xH (t1+11) .len #[.tmp (t1+10)] #[E.tU32s] E.tI,qd (t1+12) (i64 0) E.tI],
     .block b (.loop (sq [rg [zL (t1+13) .lss E.tI (.tmp (t1+12)) (.tmp (t1+11)) E.tI 0],.cond (.tmp (t1+13)) .skip (.exit b),
      .block (b+1) (sq [rg [zY (t1+14) E.tU32s (.tmp (t1+10)) (.tmp (t1+12)),kZ (t1+15) E.tW (.tmp (t1+14)),qc (n+2) (.tmp (t1+15)) E.tW],
       rg [qd (t1+16) (.tmp (n+2)) E.tW],.block (b+2) (wX E (t1+16) kt (n+3) (t1+17) (b+3))]),
      rg [zL t2 .add E.tI (.tmp (t1+12)) (i64 1) E.tI E.tI,qd (t1+12) (.tmp t2) E.tI]]))],
    rg [qd (t2+1) (.tmp s) TP,jk (t2+2) (.tmp (t2+1)),xB (t2+3) TU (.tmp (t2+2)) f,qd (t2+4) (.tmp 1) E.tB,
    xi (some (t2+5)) E.tEach #[.tmp (t2+3),.tmp (t2+4)] #[E.tTags,E.tB] E.tB,qc 1 (.tmp (t2+5)) E.tB]])) .skip]]
mutual
def Ty.wc (E:Env) (x:Cx) (v n t b:Nat):Ty->List Code
 | .scal s _=>[kL E (E.wScal s) (E.tScal s) v t]
 | .uuid=>[wAppArr E E.wUuid E.tUuid v t]
 | .named s T _=>[rg [qd t (.tmp v) T,qc n (.tmp t) (E.tScal s)],kL E (E.wScal s) (E.tScal s) n (t+1)]
 | .text=>[kE E x t 3 (kL E E.wCStr E.tStr v) (kL E E.wStr E.tStr v)]
 | .ntext=>[kE E x t 3 (kL E E.wCNStr E.tPStr v) (kL E E.wNStr E.tPStr v)]
 | .ntextFrom N=>[ifLss E x N t
   (sq [rg [qc n (.const (.string ⟨#[]⟩)) E.tStr],
    sq [rg [qd (t+2) (.tmp v) E.tPStr,zL (t+3) .neq E.tPStr (.tmp (t+2)) (.const (.pointer none)) E.tPStr E.tO],
     .cond (.tmp (t+3)) (rg [qd (t+4) (.tmp v) E.tPStr,jk (t+5) (.tmp (t+4)),kZ (t+6) E.tStr (.tmp (t+5)),qc n (.tmp (t+6)) E.tStr]) .skip],
    rg [qd (t+7) (.tmp n) E.tStr,qc (n+1) (.tmp (t+7)) E.tStr],
    kE E x (t+8) 3 (kL E E.wCStr E.tStr (n+1)) (kL E E.wStr E.tStr (n+1))])
   (kE E x (t+8+x.nt 3) 3 (kL E E.wCNStr E.tPStr v) (kL E E.wNStr E.tPStr v))]
 | .bytes=>[kE E x t 3 (kL E E.wCBytes E.tB v) (kL E E.wBytes E.tB v)]
 | .nbytes=>[kE E x t 3 (kL E E.wCNBytes E.tB v) (kL E E.wNBytes E.tB v)]
 | .list TS null e =>
  let t1:=t+x.nt (if null.isSome then 6 else 4)
  [if null.isSome then kE E x t 6 (wNLens E E.wCNLen TS v) (wNLens E E.wNLen TS v) else kE E x t 4 (wLens E E.wCLen TS v) (wLens E E.wLen TS v),
  (match e.tp with
   | some TP =>
    wLoop E TS v t1 b (t1+8+e.wt x) (sq ([rg [qd (t1+4) (.tmp (t1+2)) E.tI,qc n (.tmp (t1+4)) E.tI],
     rg [qd (t1+5) (.tmp v) TS,qd (t1+6) (.tmp n) E.tI,zY (t1+7) TS (.tmp (t1+5)) (.tmp (t1+6)),qc (n+1) (.tmp (t1+7)) TP]] ++
     Ty.wc E x (n+1) (n+2) (t1+8) (b+2) e))
   | none =>
    wLoop E TS v t1 b (t1+9+e.wt x) (sq ([rg [qd (t1+4) (.tmp (t1+2)) E.tI,qc n (.tmp (t1+4)) E.tI],
     rg [qd (t1+5) (.tmp v) TS,qd (t1+6) (.tmp n) E.tI,zY (t1+7) TS (.tmp (t1+5)) (.tmp (t1+6)),kZ (t1+8) (e.T E) (.tmp (t1+7)),qc (n+1) (.tmp (t1+8)) (e.T E)]] ++
     Ty.wc E x (n+1) (n+2) (t1+9) (b+2) e)))]
 | .struct TP TU _ fs=>Flds.wc E x TP TU v 0 [] n t b fs
 | .nstruct TP TU _ fs PP=>[sq [rg [qd t (.tmp v) TP,zL (t+1) .eql TP (.tmp t) (.const (.pointer none)) TP E.tO],
   .cond (.tmp (t+1))
    (rg [qd (t+2) (.tmp 1) E.tB,zb (t+3) E.tB 1 #[(0,.const (.int .u8 255))],xH (t+4) .append #[.tmp (t+2),.tmp (t+3)] #[E.tB,E.tB] E.tB,qc 1 (.tmp (t+4)) E.tB])
    (sq (rg [qd (t+5) (.tmp 1) E.tB,zb (t+6) E.tB 1 #[(0,.const (.int .u8 1))],xH (t+7) .append #[.tmp (t+5),.tmp (t+6)] #[E.tB,E.tB] E.tB,qc 1 (.tmp (t+7)) E.tB] ::
     Flds.wc E x TP TU v 0 [] n (t+8) b fs))]]
def Flds.wc (E:Env) (x:Cx) (TP TU:TypeId) (s idx:Nat) (kt:List KWr) (n t b:Nat):Flds->List Code
 | .nil _=>if kt.isEmpty then wTags E x TP TU s idx t else wTagsK E x TP TU s idx n t b kt
 | .cons (.tag k lb) ty r=>Flds.wc E x TP TU s (idx+1) (kt++[ty.kw E TP TU s idx k lb (fun v n t b=>Ty.wc E x v n t b ty) ty.wn (ty.wt x) ty.wb]) n t b r
 | .cons v ty r =>
  let t1:=t+v.nt
  let body:Code:=match ty.tp with
   | some TP'=>sq (rg [qd t1 (.tmp s) TP,jk (t1+1) (.tmp t1),xB (t1+2) TU (.tmp (t1+1)) idx,qc n (.tmp (t1+2)) TP']::Ty.wc E x n (n+1) (t1+3) b ty)
   | none=>sq ((if ty.arr then wLoadArr TP TU (ty.T E) n s idx t1 else yD TP TU (ty.T E) n s idx t1)::Ty.wc E x n (n+1) (t1+4) b ty)
  ifVer E x v t body::Flds.wc E x TP TU s (idx+1) kt (n+1+ty.wn) (t1+ty.h+ty.wt x) (b+ty.wb) r
end
structure Msg where
 TP:TypeId
 TU:TypeId
 FD:FuncId
 flex:Option Nat
 kept:Bool
 fs:Flds
def Msg.wx (m:Msg):Cx:=⟨5,m.flex.map fun _=>6,7⟩
def Msg.wfs (m:Msg):Flds:=if m.kept then .cons .all (.scal .i16 0) m.fs else m.fs
def Msg.wi (m:Msg):Nat:=if m.kept then 0 else 1
def Msg.wlocals (m:Msg):Nat:=(match m.flex with | none=>6 | some _=>7)+m.wfs.wn
def Msg.wcode (E:Env) (m:Msg):Code :=
 let n:=match m.flex with | none=>6 | some _=>7
 let t:=m.wlocals
 sq ([rg [qc 4 (.const (.slice none 0 0)) E.tB],yD m.TP m.TU E.tI16 5 0 0 t,rg [qd (t+4) (.tmp 5) E.tI16]] ++
  (match m.flex with
   | none=>Flds.wc E m.wx m.TP m.TU 0 m.wi [] n (t+5) 0 m.wfs
   | some f=>[rg [qd (t+5) (.tmp 5) E.tI16,zL (t+6) .geq E.tI16 (.tmp (t+5)) (i16 f) E.tI16 E.tO,qc 6 (.tmp (t+6)) E.tO],rg [qd (t+7) (.tmp 6) E.tO]] ++
    Flds.wc E m.wx m.TP m.TU 0 m.wi [] n (t+8) 0 m.wfs) ++
  (let t1:=t+(match m.flex with | none=>5 | some _=>8)+m.wfs.wt m.wx
   [rg [qd t1 (.tmp 1) E.tB,qc 4 (.tmp t1) E.tB],.ret]))
def qU (E:Env) (c:Cx) (F:FuncId) (T:TypeId) (x t:Nat):Code :=
 rg [xi (some t) F #[.tmp c.rd] #[E.tRd] T,qc x (.tmp t) T]
def rCallArr (E:Env) (c:Cx) (F:FuncId) (T:TypeId) (x t:Nat):Code :=
 rg [xi (some t) F #[.tmp c.rd] #[E.tRd] T,yn x T,zf T (.tmp x) (.tmp t)]
def j4 (E:Env) (c:Cx) (F:FuncId) (T:TypeId) (x t:Nat):Code :=
 rg [xi (some t) F #[.tmp c.rd] #[E.tRd] T,zf T (.tmp x) (.tmp t)]
def rStore (TP TU T:TypeId) (arr:Bool) (x s f t:Nat):Code :=
 rg [qd t (.tmp s) TP,if arr then kZ (t+1) T (.tmp x) else qd (t+1) (.tmp x) T,jk (t+2) (.tmp t),xB (t+3) TU (.tmp (t+2)) f,zf T (.tmp (t+3)) (.tmp (t+1))]
def rIf (E:Env) (t:Nat) (c:Tmp) (A B:Code):Code:=sq [rg [qd t (.tmp c) E.tO],.cond (.tmp t) A B]
def Cx.r3 (x:Cx):Nat:=match x.fl with | none=>3 | some _=>7
def Ty.rslot:Ty->Nat
 | .named _ _ _=>2
 | _=>0
mutual
def Ty.rn:Ty->Nat
 | .named _ _ _=>2
 | .ntextFrom _=>1
 | .list _ _ e=>3+(match e.tp with | some _=>2 | none=>1)+e.rn
 | .struct _ _ _ fs=>fs.rn
 | .nstruct _ _ _ fs _=>2+fs.rn
 | _=>0
def Flds.rn (kz:List Nat:=[]):Flds->Nat
 | .nil _=>if kz.isEmpty then 0 else 2+kz.sum
 | .cons (.tag _ _) t r=>Flds.rn (kz++[3+(match t.tp with | some _=>1 | none=>0)+t.rn]) r
 | .cons _ t r=>1+(match t.tp with | some _=>1 | none=>0)+t.rn+Flds.rn kz r
def Ty.rt (x:Cx):Ty->Nat
 | .scal _ _ | .uuid=>1
 | .named _ _ _=>3
 | .text | .ntext=>match x.fl with | none=>3 | some _=>7
 | .bytes | .nbytes=>match x.fl with | none=>1 | some _=>3
 | .ntextFrom _=>2+x.r3+x.r3
 | .list _ null e=>4+1+(match x.fl with | none=>1 | some _=>3)+(if null.isSome then 7 else 0)+3+2+5+5+e.h+e.rt x+1
 | .struct _ _ _ fs=>3+fs.rt x
 | .nstruct _ _ _ fs _=>13+fs.rt x
def Flds.rt (x:Cx) (kz:List Nat:=[]):Flds->Nat
 | .nil _=>match x.fl with | none=>0 | some _=>if kz.isEmpty then 5 else 16+kz.sum
 | .cons (.tag _ _) t r=>Flds.rt x (kz++[2+(4+t.h+t.rt x+4)]) r
 | .cons v t r=>v.nt+t.h+t.rt x+Flds.rt x kz r
end
def vp (E:Env) (x:Cx) (TP TU TS:TypeId) (null:Option Nat) (n s f t:Nat):List Code :=
 let t1:=t+5+(match x.fl with | none=>1 | some _=>3)
 let t2:=t1+(if null.isSome then 7 else 0)
 [yD TP TU TS n s f t,
  rg [qd (t+4) (.tmp n) TS,qc (n+1) (.tmp (t+4)) TS],
  rg [qc (n+2) (i32 0) E.tI32],
  (match x.fl with
  | none=>qU E x E.rLen E.tI32 (n+2) (t+5)
  | some fl=>rIf E (t+5) fl (qU E x E.rCLen E.tI32 (n+2) (t+6)) (qU E x E.rLen E.tI32 (n+2) (t+7)))] ++
 (match null with
  | none=>[]
  | some N=>[sq [rg [qd t1 (.tmp x.vs) E.tI16,zL (t1+1) .lss E.tI16 (.tmp t1) (i16 N) E.tI16 E.tO,qd (t1+2) (.tmp (t1+1)) E.tO,
    ⟨some (t1+3),.move (.tmp (n+2)),E.tI32,"",#[],some (2,false)⟩,
    ⟨some (t1+4),.binOp .eql E.tI32 (.tmp (t1+3)) (i32 0) E.tI32,E.tO,"",#[],some (2,false)⟩,
    (oQ (t1+5) (.pick (.tmp (t1+2)) (.const (.bool true)) (.tmp (t1+4))) E.tO)],
    .cond (.tmp (t1+5)) (rg [zb (t1+6) TS 0 #[],qc (n+1) (.tmp (t1+6)) TS]) .skip]]) ++
 [sq [rg [xi (some t2) E.rOk #[.tmp x.rd] #[E.tRd] E.tO,oUn (t2+1) .not E.tO (.tmp t2) E.tO],
   .cond (.tmp (t2+1)) (sq [qU E x E.rComplete E.tErr 6 (t2+2),.ret]) .skip],
  rg [qd (t2+3) (.tmp (n+1)) TS,oSlice (t2+4) TS (.tmp (t2+3)) none (some (i64 0)) none,qc (n+1) (.tmp (t2+4)) TS],
  sq [rg [qd (t2+5) (.tmp (n+2)) E.tI32,zL (t2+6) .gtr E.tI32 (.tmp (t2+5)) (i32 0) E.tI32 E.tO],
   .cond (.tmp (t2+6)) (rg [qd (t2+7) (.tmp (n+1)) TS,qd (t2+8) (.tmp (n+2)) E.tI32,xH (t2+9) .append #[.tmp (t2+7),.tmp (t2+8)] #[TS,E.tI32] TS,qc (n+1) (.tmp (t2+9)) TS]) .skip]]
def rLoop (E:Env) (n t b:Nat) (body:Code):Code :=
 sq [rg [qc (n+3) (i32 0) E.tI32],
  .block b (.loop (sq [sq [rg [qd t (.tmp (n+3)) E.tI32,qd (t+1) (.tmp (n+2)) E.tI32,zL (t+2) .lss E.tI32 (.tmp t) (.tmp (t+1)) E.tI32 E.tO],.cond (.tmp (t+2)) .skip (.exit b)],
   .block (b+1) body,
   rg [qd (t+3) (.tmp (n+3)) E.tI32,zL (t+4) .add E.tI32 (.tmp (t+3)) (i32 1) E.tI32 E.tI32,qc (n+3) (.tmp (t+4)) E.tI32]]))]
def rTagsC (E:Env) (x:Cx) (TP TU:TypeId) (s f t:Nat):List Code :=
 match x.fl with
 | none=>[]
 | some fl=>[sq [rg [qd t (.tmp fl) E.tO],.cond (.tmp t) (rg [qd (t+1) (.tmp s) TP,xi (some (t+2)) E.rTags #[.tmp x.rd] #[E.tPRd] E.tTags,jk (t+3) (.tmp (t+1)),
   xB (t+4) TU (.tmp (t+3)) f,zf E.tTags (.tmp (t+4)) (.tmp (t+2))]) .skip]]
structure KRd where
 k:Nat
 cas:Nat->Nat->Nat->List Code
 casN:Nat
 casT:Nat
 casB:Nat
def krHead (E:Env) (x:Cx) (n t:Nat):Code :=
 rg [xi (some t) E.rUvar #[.tmp x.rd] #[E.tRd] E.tW,wW (t+1) E.tW E.tI (.tmp t),xi (some (t+2)) E.rSpan #[.tmp x.rd,.tmp (t+1)] #[E.tRd,E.tI] E.tB,
  we (t+3) E.tRd #[(0,.tmp (t+2))],yn n E.tRd,zf E.tRd (.tmp n) (.tmp (t+3))]
def krEnd (E:Env) (x:Cx) (n t:Nat):List Code :=
 [qU E x E.rComplete E.tErr n t,rg [qd (t+1) (.tmp n) E.tErr,zL (t+2) .neq E.tErr (.tmp (t+1)) (.const .nilIface) E.tErr E.tO],
  .cond (.tmp (t+2)) (sq [rg [qd (t+3) (.tmp n) E.tErr,qc 6 (.tmp (t+3)) E.tErr],.ret]) .skip]
def wY (E:Env) (key:Nat) (d:Code):List KRd->Nat->Nat->Nat->Code
 | [],_,_,_=>d
 | e::r,n,t,b=>sq [rg [zL (t+1) .eql E.tW (.tmp key) (u32 e.k) E.tW E.tO,qc t (.tmp (t+1)) E.tO],
   .cond (.tmp t) (sq (e.cas n (t+2) b)) (wY E key d r (n+e.casN) (t+2+e.casT) (b+e.casB))]
def krSet (E:Env) (x:Cx) (TP TU:TypeId) (s f n t:Nat):Code :=
 .region 0 #[(oQ t (.move (.tmp s)) TP),⟨some (t+1),.nilCheck (.tmp t),0,"",#[⟨0,.data⟩],none⟩,⟨some (t+2),.fieldAddr TU (.tmp (t+1)) f,0,"",#[⟨1,.data⟩],none⟩,
  (oQ (t+3) (.move (.tmp n)) E.tW),(oQ (t+4) (.call { callee:=.value (.func E.rUvar),args:=#[.tmp x.rd],argTypes:=#[E.tRd] }) E.tW),
  ⟨some (t+5),.convert E.tW E.tI (.tmp (t+4)),E.tI,"",#[⟨4,.data⟩],none⟩,
  ⟨some (t+6),.call { callee:=.value (.func E.rSpan),args:=#[.tmp x.rd,.tmp (t+5)],argTypes:=#[E.tRd,E.tI] },E.tB,"",#[⟨5,.data⟩,⟨4,.chain⟩],none⟩,
  ⟨some (t+7),.call { callee:=.value (.func E.gSet),args:=#[.tmp (t+2),.tmp (t+3),.tmp (t+6)],argTypes:=#[E.tTags,E.tW,E.tB] },0,"",#[⟨2,.data⟩,⟨3,.data⟩,⟨6,.data⟩,⟨6,.chain⟩],none⟩] true
def rTagsK (E:Env) (x:Cx) (TP TU:TypeId) (s f n t b:Nat) (kt:List KRd):List Code :=
 match x.fl with
 | none=>[]
 | some fl=>[sq [rg [qd t (.tmp fl) E.tO],.cond (.tmp t) (sq [rg [xi (some (t+1)) E.rUvar #[.tmp x.rd] #[E.tRd] E.tW,qc n (.tmp (t+1)) E.tW],
   .block b (.loop (sq [sq [rg [qd (t+2) (.tmp n) E.tW,zL (t+3) .gtr E.tW (.tmp (t+2)) (u32 0) E.tW E.tO],.cond (.tmp (t+3)) .skip (.exit b)],
    .block (b+1) (sq [rg [xi (some (t+6)) E.rUvar #[.tmp x.rd] #[E.tRd] E.tW,qc (n+1) (.tmp (t+6)) E.tW],rg [qd (t+7) (.tmp (n+1)) E.tW],
     .block (b+2) (wY E (t+7) (krSet E x TP TU s f (n+1) (t+8)) kt (n+2) (t+16) (b+3))]),
    rg [qd (t+4) (.tmp n) E.tW,zL (t+5) .sub E.tW (.tmp (t+4)) (u32 1) E.tW E.tW,qc n (.tmp (t+5)) E.tW]]))]) .skip]]
mutual
def Ty.rc (E : Env) (x : Cx) (TP TU : TypeId) (s f n t b : Nat) : Ty → List Code
  | .scal k _ => [qU E x (E.rScal k) (E.tScal k) n t]
  | .uuid => [rCallArr E x E.rUuid E.tUuid n t]
  | .named k T _ => [rg [qc n (.const (.int (match k with | .i8 => .i8 | _ => .i16) 0)) T], sq [qU E x (E.rScal k) (E.tScal k) (n + 1) t, rg [qd (t + 1) (.tmp (n + 1)) (E.tScal k), qc n (.tmp (t + 1)) T]],
      rg [qd (t + 2) (.tmp n) T, qc (n + 2) (.tmp (t + 2)) T]]
  | .text => [rg [qc n (.const (.string ⟨#[]⟩)) E.tStr],
      match x.fl with
      | none => rIf E t 2 (qU E x E.rUStr E.tStr n (t + 1)) (qU E x E.rStr E.tStr n (t + 2))
      | some fl => rIf E t 2 (rIf E (t + 1) fl (qU E x E.rUCStr E.tStr n (t + 2)) (qU E x E.rUStr E.tStr n (t + 3))) (rIf E (t + 4) fl (qU E x E.rCStr E.tStr n (t + 5)) (qU E x E.rStr E.tStr n (t + 6)))]
  | .ntext => [rg [qc n (.const (.pointer none)) E.tPStr],
      match x.fl with
      | none => rIf E t 2 (qU E x E.rUNStr E.tPStr n (t + 1)) (qU E x E.rNStr E.tPStr n (t + 2))
      | some fl => rIf E t fl (rIf E (t + 1) 2 (qU E x E.rUCNStr E.tPStr n (t + 2)) (qU E x E.rCNStr E.tPStr n (t + 3))) (rIf E (t + 4) 2 (qU E x E.rUNStr E.tPStr n (t + 5)) (qU E x E.rNStr E.tPStr n (t + 6)))]
  | .ntextFrom N => [rg [qc n (.const (.pointer none)) E.tPStr],
      ifLss E x N t
        (sq [rg [yn (n + 1) E.tStr],
          (match x.fl with
           | none => rIf E (t + 2) 2 (j4 E x E.rUStr E.tStr (n + 1) (t + 2 + 1)) (j4 E x E.rStr E.tStr (n + 1) (t + 2 + 2))
           | some fl => rIf E (t + 2) fl (rIf E (t + 2 + 1) 2 (j4 E x E.rUCStr E.tStr (n + 1) (t + 2 + 2)) (j4 E x E.rCStr E.tStr (n + 1) (t + 2 + 3))) (rIf E (t + 2 + 4) 2 (j4 E x E.rUStr E.tStr (n + 1) (t + 2 + 5)) (j4 E x E.rStr E.tStr (n + 1) (t + 2 + 6)))),
          rg [qc n (.tmp (n + 1)) E.tPStr]])
        (match x.fl with
         | none => rIf E (t + 2 + x.r3) 2 (qU E x E.rUNStr E.tPStr n (t + 2 + x.r3 + 1)) (qU E x E.rNStr E.tPStr n (t + 2 + x.r3 + 2))
         | some fl => rIf E (t + 2 + x.r3) fl (rIf E (t + 2 + x.r3 + 1) 2 (qU E x E.rUCNStr E.tPStr n (t + 2 + x.r3 + 2)) (qU E x E.rCNStr E.tPStr n (t + 2 + x.r3 + 3))) (rIf E (t + 2 + x.r3 + 4) 2 (qU E x E.rUNStr E.tPStr n (t + 2 + x.r3 + 5)) (qU E x E.rNStr E.tPStr n (t + 2 + x.r3 + 6))))]
  | .bytes => match x.fl with
      | none => [rg [qc n (.const (.slice none 0 0)) E.tB], qU E x E.rBytes E.tB n t]
      | some fl => [rg [qc n (.const (.slice none 0 0)) E.tB], rIf E t fl (qU E x E.rCBytes E.tB n (t + 1)) (qU E x E.rBytes E.tB n (t + 2))]
  | .nbytes => match x.fl with
      | none => [rg [qc n (.const (.slice none 0 0)) E.tB], qU E x E.rNBytes E.tB n t]
      | some fl => [rg [qc n (.const (.slice none 0 0)) E.tB], rIf E t fl (qU E x E.rCNBytes E.tB n (t + 1)) (qU E x E.rNBytes E.tB n (t + 2))]
  | .list TS null e =>
    let t2 := t + 5 + (match x.fl with | none => 1 | some _ => 3) + (if null.isSome then 7 else 0) + 3 + 2 + 5
    let t3 := t2 + 5 + e.h + e.rt x
    vp E x TP TU TS null n s f t ++
    [rLoop E n t2 b (match e.tp with
      | some TPe => sq ([rg [qd (t2 + 5) (.tmp (n + 1)) TS, qd (t2 + 6) (.tmp (n + 3)) E.tI32, zY (t2 + 7) TS (.tmp (t2 + 5)) (.tmp (t2 + 6)), qc (n + 4) (.tmp (t2 + 7)) TPe]] ++
          Ty.rc E x 0 0 0 0 (n + 4) (t2 + 8) (b + 2) e)
      | none => sq (Ty.rc E x 0 0 0 0 (n + 4) (t2 + 5) (b + 2) e ++
          [rg [qd (t2 + 5 + e.rt x) (.tmp (n + 1)) TS, qd (t2 + 6 + e.rt x) (.tmp (n + 3)) E.tI32,
            if e.arr then kZ (t2 + 7 + e.rt x) (e.T E) (.tmp (n + 4 + e.rslot)) else qd (t2 + 7 + e.rt x) (.tmp (n + 4 + e.rslot)) (e.T E),
            zY (t2 + 8 + e.rt x) TS (.tmp (t2 + 5 + e.rt x)) (.tmp (t2 + 6 + e.rt x)), zf (e.T E) (.tmp (t2 + 8 + e.rt x)) (.tmp (t2 + 7 + e.rt x))]])),
     rg [qd t3 (.tmp (n + 1)) TS, qc n (.tmp t3) TS]]
  | .struct TP' TU' FD fs =>
    [rg [qd t (.tmp n) TP', xi (some (t + 1)) FD #[.tmp t] #[TP'] 0], rg [qd (t + 2) (.tmp n) TP', qc (n + 1) (.tmp (t + 2)) TP']] ++ Flds.rc E x TP' TU' (n + 1) 0 [] (n + 2) (t + 3) b fs
  | .nstruct TP' TU' FD fs PP =>
    [qU E x E.rI8 E.tI8 n t,
     sq [rg [qd (t + 1) (.tmp n) E.tI8, zL (t + 2) .neq E.tI8 (.tmp (t + 1)) (.const (.int .i8 (-1))) E.tI8 E.tO, qd (t + 3) (.tmp (t + 2)) E.tO,
        ⟨some (t + 4), .call { callee := .value (.func E.rOk), args := #[.tmp x.rd], argTypes := #[E.tRd] }, E.tO, "", #[], some (2, true)⟩,
        (oQ (t + 5) (.pick (.tmp (t + 3)) (.tmp (t + 4)) (.const (.bool false))) E.tO)],
       .cond (.tmp (t + 5)) (sq ([rg [qd (t + 6) (.tmp s) TP, ⟨some (t + 7), .alloc TU', TP', "", #[], none⟩, jk (t + 8) (.tmp (t + 6)), xB (t + 9) TU (.tmp (t + 8)) f, zf TP' (.tmp (t + 9)) (.tmp (t + 7))],
           yD TP TU TP' (n + 1) s f (t + 10),
           rg [qd (t + 14) (.tmp (n + 1)) TP', xi (some (t + 15)) FD #[.tmp (t + 14)] #[TP'] 0],
           rg [qd (t + 16) (.tmp (n + 1)) TP', qc (n + 2) (.tmp (t + 16)) TP']] ++ Flds.rc E x TP' TU' (n + 2) 0 [] (n + 3) (t + 17) b fs)) .skip]]
def Flds.rc (E : Env) (x : Cx) (TP TU : TypeId) (s idx : Nat) (kt : List KRd) (n t b : Nat) : Flds → List Code
  | .nil _ => if kt.isEmpty then rTagsC E x TP TU s idx t else rTagsK E x TP TU s idx n t b kt
  | .cons (.tag k _) ty r => Flds.rc E x TP TU s (idx + 1) (kt ++ [{ k := k, casN := 3 + (match ty.tp with | some _ => 1 | none => 0) + ty.rn, casT := 4 + ty.h + ty.rt x + 4, casB := ty.wb, cas := fun n t b => krHead E x n t :: (match ty.tp with | some TP' => (rg [qd (t + 4) (.tmp s) TP, jk (t + 5) (.tmp (t + 4)), xB (t + 6) TU (.tmp (t + 5)) idx, qc (n + 1) (.tmp (t + 6)) TP'] :: Ty.rc E { x with rd := n } 0 0 0 0 (n + 1) (t + 7) b ty) ++ krEnd E { x with rd := n } (n + 3 + ty.rn) (t + 7 + ty.rt x) | none => Ty.rc E { x with rd := n } TP TU s idx (n + 1) (t + 4) b ty ++ [rStore TP TU (ty.T E) ty.arr (n + 1 + ty.rslot) s idx (t + 4 + ty.rt x)] ++ krEnd E { x with rd := n } (n + 2 + ty.rn) (t + 8 + ty.rt x)) }]) n t b r
  | .cons v ty r =>
    let t1 := t + v.nt
    let body : Code := match ty.tp with
      | some TP' => sq (rg [qd t1 (.tmp s) TP, jk (t1 + 1) (.tmp t1), xB (t1 + 2) TU (.tmp (t1 + 1)) idx, qc n (.tmp (t1 + 2)) TP'] :: Ty.rc E x 0 0 0 0 n (t1 + 3) b ty)
      | none => sq (Ty.rc E x TP TU s idx n t1 b ty ++ if ty.np then [] else [rStore TP TU (ty.T E) ty.arr (n + ty.rslot) s idx (t1 + ty.rt x)])
    ifVer E x v t body :: Flds.rc E x TP TU s (idx + 1) kt (n + 1 + (match ty.tp with | some _ => 1 | none => 0) + ty.rn) (t1 + ty.h + ty.rt x) (b + ty.wb) r
end
mutual
def Ty.dn:Ty->Nat
 | .struct _ _ _ fs=>1+fs.dn
 | .nstruct _ _ _ _ _=>1
 | _=>0
def Flds.dn:Flds->Nat
 | .nil _=>0
 | .cons _ t r=>t.dn+r.dn
def Ty.dt:Ty->Nat
 | .scal _ df | .named _ _ df=>if df=0 then 0 else 3
 | .struct _ _ _ fs=>4+fs.dt
 | .nstruct _ _ _ _ _=>4
 | _=>0
def Flds.dt:Flds->Nat
 | .nil _=>0
 | .cons _ t r=>t.dt+r.dt
end
mutual
def Ty.dc (E:Env) (TP TU:TypeId) (s idx n t:Nat):Ty->List Code
 | .scal k df=>if df=0 then [] else [rg [qd t (.tmp s) TP,jk (t+1) (.tmp t),xB (t+2) TU (.tmp (t+1)) idx,zf (E.tScal k) (.tmp (t+2)) (.const (k.val df))]]
 | .named k T df=>if df=0 then [] else [rg [qd t (.tmp s) TP,jk (t+1) (.tmp t),xB (t+2) TU (.tmp (t+1)) idx,zf T (.tmp (t+2)) (.const (k.val df))]]
 | .struct TP' TU' _ fs=>[sq ([rg [qd t (.tmp s) TP,jk (t+1) (.tmp t),xB (t+2) TU (.tmp (t+1)) idx,qc n (.tmp (t+2)) TP'],rg [qd (t+3) (.tmp n) TP']] ++
   Flds.dc E TP' TU' n 0 (n+1) (t+4) fs)]
 | .nstruct _ _ _ _ PP=>[sq [rg [qd t (.tmp s) TP,jk (t+1) (.tmp t),xB (t+2) TU (.tmp (t+1)) idx,qc n (.tmp (t+2)) PP],rg [qd (t+3) (.tmp n) PP]]]
 | _=>[]
def Flds.dc (E:Env) (TP TU:TypeId) (s idx n t:Nat):Flds->List Code
 | .nil _=>[]
 | .cons _ ty r=>ty.dc E TP TU s idx n t++r.dc E TP TU s (idx+1) (n+ty.dn) (t+ty.dt)
end
def dcode (E:Env) (TP TU:TypeId) (idx:Nat) (fs:Flds):Code:=sq (fs.dc E TP TU 0 idx 2 (2+fs.dn))
def Msg.rx (m:Msg):Cx:=⟨8,m.flex.map fun _=>9,7⟩
def Msg.rs (m:Msg):Nat:=match m.flex with | none=>9 | some _=>10
def Msg.rlocals (m:Msg):Nat:=m.rs+1+m.fs.rn
def Msg.rcode (E:Env) (m:Msg):Code :=
 let t:=m.rlocals
 let t1:=t+4+(if m.kept then 4 else 0)
 let t2:=t1+5+(match m.flex with | none=>0 | some _=>3)
 sq ([rg [qc 6 (.const .nilIface) E.tErr],
  rg [qd t (.tmp 0) m.TP,xi (some (t+1)) m.FD #[.tmp t] #[m.TP] 0],
  rg [qd (t+2) (.tmp 1) E.tB,we (t+3) E.tRd #[(0,.tmp (t+2))],yn 7 E.tRd,zf E.tRd (.tmp 7) (.tmp (t+3))]] ++
  (if m.kept then [rg [qd (t+4) (.tmp 0) m.TP,xi (some (t+5)) E.rI16 #[.tmp 7] #[E.tRd] E.tI16,jk (t+6) (.tmp (t+4)),xB (t+7) m.TU (.tmp (t+6)) 0,zf E.tI16 (.tmp (t+7)) (.tmp (t+5))]] else []) ++
  [yD m.TP m.TU E.tI16 8 0 0 t1,rg [qd (t1+4) (.tmp 8) E.tI16]] ++
  (match m.flex with
   | none=>[]
   | some f=>[rg [qd (t1+5) (.tmp 8) E.tI16,zL (t1+6) .geq E.tI16 (.tmp (t1+5)) (i16 f) E.tI16 E.tO,qc 9 (.tmp (t1+6)) E.tO],rg [qd (t1+7) (.tmp 9) E.tO]]) ++
  [rg [qd t2 (.tmp 0) m.TP,qc m.rs (.tmp t2) m.TP]] ++
  Flds.rc E m.rx m.TP m.TU m.rs 1 [] (m.rs+1) (t2+1) 0 m.fs ++
  [qU E m.rx E.rComplete E.tErr 6 (t2+1+m.fs.rt m.rx),.ret])
end Go.Km
namespace Go.Km
open Go
def rgd (l:List Oper):Code:=.region 0 l.toArray true
def c_wBool (E:Env):Code :=
 (sq [(rg [(oQ 4 (.assign (.const (.slice none 0 0))) E.tB)]),
  (sq [(rg [(oQ 5 (.move (.tmp 1)) E.tO)]),
   (.cond (.tmp 5)
    (sq [(rg [(oQ 6 (.move (.tmp 0)) E.tB),
      (oQ 7 (.buildSlice E.tB 1 #[(0,(.const (.int .u8 1)))]) E.tB),
      (oQ 8 (.call { callee:=.builtin .append,args:=#[(.tmp 6),(.tmp 7)],argTypes:=#[E.tB,E.tB] }) E.tB),
      (oQ 4 (.assign (.tmp 8)) E.tB)]),
     .ret])
    .skip)]),
  (rg [(oQ 9 (.move (.tmp 0)) E.tB),
   (oQ 10 (.buildSlice E.tB 1 #[(0,(.const (.int .u8 0)))]) E.tB),
   (oQ 11 (.call { callee:=.builtin .append,args:=#[(.tmp 9),(.tmp 10)],argTypes:=#[E.tB,E.tB] }) E.tB),
   (oQ 4 (.assign (.tmp 11)) E.tB)]),
  .ret])
def c_wI8 (E:Env):Code :=
 (sq [(rg [(oQ 4 (.assign (.const (.slice none 0 0))) E.tB)]),
  (rg [(oQ 5 (.move (.tmp 0)) E.tB),
   (oQ 6 (.move (.tmp 1)) E.tI8),
   (oQ 7 (.convert E.tI8 E.tU8 (.tmp 6)) E.tU8),
   (oQ 8 (.buildSlice E.tB 1 #[(0,(.tmp 7))]) E.tB),
   (oQ 9 (.call { callee:=.builtin .append,args:=#[(.tmp 5),(.tmp 8)],argTypes:=#[E.tB,E.tB] }) E.tB),
   (oQ 4 (.assign (.tmp 9)) E.tB)]),
  .ret])
def c_wI16 (E:Env):Code :=
 (sq [(rg [(oQ 4 (.assign (.const (.slice none 0 0))) E.tB)]),
  (rg [(oQ 5 (.move (.tmp 0)) E.tB),
   (oQ 6 (.move (.tmp 1)) E.tI16),
   (oQ 7 (.convert E.tI16 E.tU16 (.tmp 6)) E.tU16),
   (oQ 8 (.call { callee:=.value (.func E.wU16),args:=#[(.tmp 5),(.tmp 7)],argTypes:=#[E.tB,E.tU16] }) E.tB),
   (oQ 4 (.assign (.tmp 8)) E.tB)]),
  .ret])
def c_wU16 (E:Env):Code :=
 (sq [(rg [(oQ 4 (.assign (.const (.slice none 0 0))) E.tB)]),
  (rg [(oQ 5 (.move (.tmp 0)) E.tB),
   (oQ 6 (.move (.tmp 1)) E.tU16),
   (oQ 7 (.binOp .shr E.tU16 (.tmp 6) (.const (.int .u64 8)) E.tUint) E.tU16),
   (oQ 8 (.convert E.tU16 E.tU8 (.tmp 7)) E.tU8),
   (oQ 9 (.move (.tmp 1)) E.tU16),
   (oQ 10 (.convert E.tU16 E.tU8 (.tmp 9)) E.tU8),
   (oQ 11 (.buildSlice E.tB 2 #[(0,(.tmp 8)),(1,(.tmp 10))]) E.tB),
   (oQ 12 (.call { callee:=.builtin .append,args:=#[(.tmp 5),(.tmp 11)],argTypes:=#[E.tB,E.tB] }) E.tB),
   (oQ 4 (.assign (.tmp 12)) E.tB)]),
  .ret])
def c_wI32 (E:Env):Code :=
 (sq [(rg [(oQ 4 (.assign (.const (.slice none 0 0))) E.tB)]),
  (rg [(oQ 5 (.move (.tmp 0)) E.tB),
   (oQ 6 (.move (.tmp 1)) E.tI32),
   (oQ 7 (.convert E.tI32 E.tW (.tmp 6)) E.tW),
   (oQ 8 (.call { callee:=.value (.func E.wU32),args:=#[(.tmp 5),(.tmp 7)],argTypes:=#[E.tB,E.tW] }) E.tB),
   (oQ 4 (.assign (.tmp 8)) E.tB)]),
  .ret])
def c_wU32 (E:Env):Code :=
 (sq [(rg [(oQ 4 (.assign (.const (.slice none 0 0))) E.tB)]),
  (rg [(oQ 5 (.move (.tmp 0)) E.tB),
   (oQ 6 (.move (.tmp 1)) E.tW),
   (oQ 7 (.binOp .shr E.tW (.tmp 6) (.const (.int .u64 24)) E.tUint) E.tW),
   (oQ 8 (.convert E.tW E.tU8 (.tmp 7)) E.tU8),
   (oQ 9 (.move (.tmp 1)) E.tW),
   (oQ 10 (.binOp .shr E.tW (.tmp 9) (.const (.int .u64 16)) E.tUint) E.tW),
   (oQ 11 (.convert E.tW E.tU8 (.tmp 10)) E.tU8),
   (oQ 12 (.move (.tmp 1)) E.tW),
   (oQ 13 (.binOp .shr E.tW (.tmp 12) (.const (.int .u64 8)) E.tUint) E.tW),
   (oQ 14 (.convert E.tW E.tU8 (.tmp 13)) E.tU8),
   (oQ 15 (.move (.tmp 1)) E.tW),
   (oQ 16 (.convert E.tW E.tU8 (.tmp 15)) E.tU8),
   (oQ 17 (.buildSlice E.tB 4 #[(0,(.tmp 8)),(1,(.tmp 11)),(2,(.tmp 14)),(3,(.tmp 16))]) E.tB),
   (oQ 18 (.call { callee:=.builtin .append,args:=#[(.tmp 5),(.tmp 17)],argTypes:=#[E.tB,E.tB] }) E.tB),
   (oQ 4 (.assign (.tmp 18)) E.tB)]),
  .ret])
def c_wI64 (E:Env):Code :=
 (sq [(rg [(oQ 4 (.assign (.const (.slice none 0 0))) E.tB)]),
  (rg [(oQ 5 (.move (.tmp 0)) E.tB),
   (oQ 6 (.move (.tmp 1)) E.tI64),
   (oQ 7 (.convert E.tI64 E.tU64 (.tmp 6)) E.tU64),
   (oQ 8 (.call { callee:=.value (.func E.wU64),args:=#[(.tmp 5),(.tmp 7)],argTypes:=#[E.tB,E.tU64] }) E.tB),
   (oQ 4 (.assign (.tmp 8)) E.tB)]),
  .ret])
def c_wU64 (E:Env):Code :=
 (sq [(rg [(oQ 4 (.assign (.const (.slice none 0 0))) E.tB)]),
  (rg [(oQ 5 (.move (.tmp 0)) E.tB),
   (oQ 6 (.move (.tmp 1)) E.tU64),
   (oQ 7 (.binOp .shr E.tU64 (.tmp 6) (.const (.int .u64 56)) E.tUint) E.tU64),
   (oQ 8 (.convert E.tU64 E.tU8 (.tmp 7)) E.tU8),
   (oQ 9 (.move (.tmp 1)) E.tU64),
   (oQ 10 (.binOp .shr E.tU64 (.tmp 9) (.const (.int .u64 48)) E.tUint) E.tU64),
   (oQ 11 (.convert E.tU64 E.tU8 (.tmp 10)) E.tU8),
   (oQ 12 (.move (.tmp 1)) E.tU64),
   (oQ 13 (.binOp .shr E.tU64 (.tmp 12) (.const (.int .u64 40)) E.tUint) E.tU64),
   (oQ 14 (.convert E.tU64 E.tU8 (.tmp 13)) E.tU8),
   (oQ 15 (.move (.tmp 1)) E.tU64),
   (oQ 16 (.binOp .shr E.tU64 (.tmp 15) (.const (.int .u64 32)) E.tUint) E.tU64),
   (oQ 17 (.convert E.tU64 E.tU8 (.tmp 16)) E.tU8),
   (oQ 18 (.move (.tmp 1)) E.tU64),
   (oQ 19 (.binOp .shr E.tU64 (.tmp 18) (.const (.int .u64 24)) E.tUint) E.tU64),
   (oQ 20 (.convert E.tU64 E.tU8 (.tmp 19)) E.tU8),
   (oQ 21 (.move (.tmp 1)) E.tU64),
   (oQ 22 (.binOp .shr E.tU64 (.tmp 21) (.const (.int .u64 16)) E.tUint) E.tU64),
   (oQ 23 (.convert E.tU64 E.tU8 (.tmp 22)) E.tU8),
   (oQ 24 (.move (.tmp 1)) E.tU64),
   (oQ 25 (.binOp .shr E.tU64 (.tmp 24) (.const (.int .u64 8)) E.tUint) E.tU64),
   (oQ 26 (.convert E.tU64 E.tU8 (.tmp 25)) E.tU8),
   (oQ 27 (.move (.tmp 1)) E.tU64),
   (oQ 28 (.convert E.tU64 E.tU8 (.tmp 27)) E.tU8),
   (oQ 29 (.buildSlice E.tB 8 #[(0,(.tmp 8)),(1,(.tmp 11)),(2,(.tmp 14)),(3,(.tmp 17)),(4,(.tmp 20)),(5,(.tmp 23)),(6,(.tmp 26)),(7,(.tmp 28))]) E.tB),
   (oQ 30 (.call { callee:=.builtin .append,args:=#[(.tmp 5),(.tmp 29)],argTypes:=#[E.tB,E.tB] }) E.tB),
   (oQ 4 (.assign (.tmp 30)) E.tB)]),
  .ret])
def c_wUuid (E:Env):Code :=
 (sq [(rg [(oQ 3 (.box E.tUuid (.tmp 1)) 0),
   (oQ 4 (.assign (.const (.slice none 0 0))) E.tB)]),
  (rg [(oQ 5 (.move (.tmp 0)) E.tB),
   (oQ 6 (.slice E.tUuid (.tmp 3) none none none) E.tB),
   (oQ 7 (.call { callee:=.builtin .append,args:=#[(.tmp 5),(.tmp 6)],argTypes:=#[E.tB,E.tB] }) E.tB),
   (oQ 4 (.assign (.tmp 7)) E.tB)]),
  .ret])
def c_wStr (E:Env):Code :=
 (sq [(rg [(oQ 4 (.assign (.const (.slice none 0 0))) E.tB)]),
  (rg [(oQ 5 (.move (.tmp 0)) E.tB),
   (oQ 6 (.move (.tmp 1)) E.tStr),
   (oQ 7 (.call { callee:=.builtin .len,args:=#[(.tmp 6)],argTypes:=#[E.tStr] }) E.tI),
   (oQ 8 (.convert E.tI E.tI16 (.tmp 7)) E.tI16),
   (oQ 9 (.call { callee:=.value (.func E.wI16),args:=#[(.tmp 5),(.tmp 8)],argTypes:=#[E.tB,E.tI16] }) E.tB),
   (oQ 0 (.assign (.tmp 9)) E.tB)]),
  (rg [(oQ 10 (.move (.tmp 0)) E.tB),
   (oQ 11 (.move (.tmp 1)) E.tStr),
   (oQ 12 (.call { callee:=.builtin .append,args:=#[(.tmp 10),(.tmp 11)],argTypes:=#[E.tB,E.tStr] }) E.tB),
   (oQ 4 (.assign (.tmp 12)) E.tB)]),
  .ret])
def c_wCStr (E:Env):Code :=
 (sq [(rg [(oQ 4 (.assign (.const (.slice none 0 0))) E.tB)]),
  (rg [(oQ 5 (.move (.tmp 0)) E.tB),
   (oQ 6 (.move (.tmp 1)) E.tStr),
   (oQ 7 (.call { callee:=.builtin .len,args:=#[(.tmp 6)],argTypes:=#[E.tStr] }) E.tI),
   (oQ 8 (.convert E.tI E.tW (.tmp 7)) E.tW),
   (oQ 9 (.binOp .add E.tW (.const (.int .u32 1)) (.tmp 8) E.tW) E.tW),
   (oQ 10 (.call { callee:=.value (.func E.wUvarint),args:=#[(.tmp 5),(.tmp 9)],argTypes:=#[E.tB,E.tW] }) E.tB),
   (oQ 0 (.assign (.tmp 10)) E.tB)]),
  (rg [(oQ 11 (.move (.tmp 0)) E.tB),
   (oQ 12 (.move (.tmp 1)) E.tStr),
   (oQ 13 (.call { callee:=.builtin .append,args:=#[(.tmp 11),(.tmp 12)],argTypes:=#[E.tB,E.tStr] }) E.tB),
   (oQ 4 (.assign (.tmp 13)) E.tB)]),
  .ret])
def c_wNStr (E:Env):Code :=
 (sq [(rg [(oQ 4 (.assign (.const (.slice none 0 0))) E.tB)]),
  (sq [(rg [(oQ 5 (.move (.tmp 1)) E.tPStr),
    (oQ 6 (.binOp .eql E.tPStr (.tmp 5) (.const (.pointer none)) E.tPStr) E.tO)]),
   (.cond (.tmp 6)
    (sq [(rg [(oQ 7 (.move (.tmp 0)) E.tB),
      (oQ 8 (.call { callee:=.value (.func E.wI16),args:=#[(.tmp 7),(.const (.int .i16 (-1)))],argTypes:=#[E.tB,E.tI16] }) E.tB),
      (oQ 4 (.assign (.tmp 8)) E.tB)]),
     .ret])
    .skip)]),
  (rg [(oQ 9 (.move (.tmp 0)) E.tB),
   (oQ 10 (.move (.tmp 1)) E.tPStr),
   (oQ 11 (.nilCheck (.tmp 10)) 0),
   (oQ 12 (.load E.tStr (.tmp 11)) E.tStr),
   (oQ 13 (.call { callee:=.value (.func E.wStr),args:=#[(.tmp 9),(.tmp 12)],argTypes:=#[E.tB,E.tStr] }) E.tB),
   (oQ 4 (.assign (.tmp 13)) E.tB)]),
  .ret])
def c_wCNStr (E:Env):Code :=
 (sq [(rg [(oQ 4 (.assign (.const (.slice none 0 0))) E.tB)]),
  (sq [(rg [(oQ 5 (.move (.tmp 1)) E.tPStr),
    (oQ 6 (.binOp .eql E.tPStr (.tmp 5) (.const (.pointer none)) E.tPStr) E.tO)]),
   (.cond (.tmp 6)
    (sq [(rg [(oQ 7 (.move (.tmp 0)) E.tB),
      (oQ 8 (.call { callee:=.value (.func E.wUvarint),args:=#[(.tmp 7),(.const (.int .u32 0))],argTypes:=#[E.tB,E.tW] }) E.tB),
      (oQ 4 (.assign (.tmp 8)) E.tB)]),
     .ret])
    .skip)]),
  (rg [(oQ 9 (.move (.tmp 0)) E.tB),
   (oQ 10 (.move (.tmp 1)) E.tPStr),
   (oQ 11 (.nilCheck (.tmp 10)) 0),
   (oQ 12 (.load E.tStr (.tmp 11)) E.tStr),
   (oQ 13 (.call { callee:=.value (.func E.wCStr),args:=#[(.tmp 9),(.tmp 12)],argTypes:=#[E.tB,E.tStr] }) E.tB),
   (oQ 4 (.assign (.tmp 13)) E.tB)]),
  .ret])
def c_wBytes (E:Env):Code :=
 (sq [(rg [(oQ 4 (.assign (.const (.slice none 0 0))) E.tB)]),
  (rg [(oQ 5 (.move (.tmp 0)) E.tB),
   (oQ 6 (.move (.tmp 1)) E.tB),
   (oQ 7 (.call { callee:=.builtin .len,args:=#[(.tmp 6)],argTypes:=#[E.tB] }) E.tI),
   (oQ 8 (.convert E.tI E.tI32 (.tmp 7)) E.tI32),
   (oQ 9 (.call { callee:=.value (.func E.wI32),args:=#[(.tmp 5),(.tmp 8)],argTypes:=#[E.tB,E.tI32] }) E.tB),
   (oQ 0 (.assign (.tmp 9)) E.tB)]),
  (rg [(oQ 10 (.move (.tmp 0)) E.tB),
   (oQ 11 (.move (.tmp 1)) E.tB),
   (oQ 12 (.call { callee:=.builtin .append,args:=#[(.tmp 10),(.tmp 11)],argTypes:=#[E.tB,E.tB] }) E.tB),
   (oQ 4 (.assign (.tmp 12)) E.tB)]),
  .ret])
def c_wCBytes (E:Env):Code :=
 (sq [(rg [(oQ 4 (.assign (.const (.slice none 0 0))) E.tB)]),
  (rg [(oQ 5 (.move (.tmp 0)) E.tB),
   (oQ 6 (.move (.tmp 1)) E.tB),
   (oQ 7 (.call { callee:=.builtin .len,args:=#[(.tmp 6)],argTypes:=#[E.tB] }) E.tI),
   (oQ 8 (.convert E.tI E.tW (.tmp 7)) E.tW),
   (oQ 9 (.binOp .add E.tW (.const (.int .u32 1)) (.tmp 8) E.tW) E.tW),
   (oQ 10 (.call { callee:=.value (.func E.wUvarint),args:=#[(.tmp 5),(.tmp 9)],argTypes:=#[E.tB,E.tW] }) E.tB),
   (oQ 0 (.assign (.tmp 10)) E.tB)]),
  (rg [(oQ 11 (.move (.tmp 0)) E.tB),
   (oQ 12 (.move (.tmp 1)) E.tB),
   (oQ 13 (.call { callee:=.builtin .append,args:=#[(.tmp 11),(.tmp 12)],argTypes:=#[E.tB,E.tB] }) E.tB),
   (oQ 4 (.assign (.tmp 13)) E.tB)]),
  .ret])
def c_wNBytes (E:Env):Code :=
 (sq [(rg [(oQ 4 (.assign (.const (.slice none 0 0))) E.tB)]),
  (sq [(rg [(oQ 5 (.move (.tmp 1)) E.tB),
    (oQ 6 (.binOp .eql E.tB (.tmp 5) (.const (.slice none 0 0)) E.tB) E.tO)]),
   (.cond (.tmp 6)
    (sq [(rg [(oQ 7 (.move (.tmp 0)) E.tB),
      (oQ 8 (.call { callee:=.value (.func E.wI32),args:=#[(.tmp 7),(.const (.int .i32 (-1)))],argTypes:=#[E.tB,E.tI32] }) E.tB),
      (oQ 4 (.assign (.tmp 8)) E.tB)]),
     .ret])
    .skip)]),
  (rg [(oQ 9 (.move (.tmp 0)) E.tB),
   (oQ 10 (.move (.tmp 1)) E.tB),
   (oQ 11 (.call { callee:=.value (.func E.wBytes),args:=#[(.tmp 9),(.tmp 10)],argTypes:=#[E.tB,E.tB] }) E.tB),
   (oQ 4 (.assign (.tmp 11)) E.tB)]),
  .ret])
def wh (E:Env):Code :=
 (sq [(rg [(oQ 4 (.assign (.const (.slice none 0 0))) E.tB)]),
  (sq [(rg [(oQ 5 (.move (.tmp 1)) E.tB),
    (oQ 6 (.binOp .eql E.tB (.tmp 5) (.const (.slice none 0 0)) E.tB) E.tO)]),
   (.cond (.tmp 6)
    (sq [(rg [(oQ 7 (.move (.tmp 0)) E.tB),
      (oQ 8 (.call { callee:=.value (.func E.wUvarint),args:=#[(.tmp 7),(.const (.int .u32 0))],argTypes:=#[E.tB,E.tW] }) E.tB),
      (oQ 4 (.assign (.tmp 8)) E.tB)]),
     .ret])
    .skip)]),
  (rg [(oQ 9 (.move (.tmp 0)) E.tB),
   (oQ 10 (.move (.tmp 1)) E.tB),
   (oQ 11 (.call { callee:=.value (.func E.wCBytes),args:=#[(.tmp 9),(.tmp 10)],argTypes:=#[E.tB,E.tB] }) E.tB),
   (oQ 4 (.assign (.tmp 11)) E.tB)]),
  .ret])
def c_wLen (E:Env):Code :=
 (sq [(rg [(oQ 4 (.assign (.const (.slice none 0 0))) E.tB)]),
  (rg [(oQ 5 (.move (.tmp 0)) E.tB),
   (oQ 6 (.move (.tmp 1)) E.tI),
   (oQ 7 (.convert E.tI E.tI32 (.tmp 6)) E.tI32),
   (oQ 8 (.call { callee:=.value (.func E.wI32),args:=#[(.tmp 5),(.tmp 7)],argTypes:=#[E.tB,E.tI32] }) E.tB),
   (oQ 4 (.assign (.tmp 8)) E.tB)]),
  .ret])
def c_wCLen (E:Env):Code :=
 (sq [(rg [(oQ 4 (.assign (.const (.slice none 0 0))) E.tB)]),
  (rg [(oQ 5 (.move (.tmp 0)) E.tB),
   (oQ 6 (.move (.tmp 1)) E.tI),
   (oQ 7 (.convert E.tI E.tW (.tmp 6)) E.tW),
   (oQ 8 (.binOp .add E.tW (.const (.int .u32 1)) (.tmp 7) E.tW) E.tW),
   (oQ 9 (.call { callee:=.value (.func E.wUvarint),args:=#[(.tmp 5),(.tmp 8)],argTypes:=#[E.tB,E.tW] }) E.tB),
   (oQ 4 (.assign (.tmp 9)) E.tB)]),
  .ret])
def c_wNLen (E:Env):Code :=
 (sq [(rg [(oQ 6 (.assign (.const (.slice none 0 0))) E.tB)]),
  (sq [(rg [(oQ 7 (.move (.tmp 2)) E.tO)]),
   (.cond (.tmp 7)
    (sq [(rg [(oQ 8 (.move (.tmp 0)) E.tB),
      (oQ 9 (.call { callee:=.value (.func E.wI32),args:=#[(.tmp 8),(.const (.int .i32 (-1)))],argTypes:=#[E.tB,E.tI32] }) E.tB),
      (oQ 6 (.assign (.tmp 9)) E.tB)]),
     .ret])
    .skip)]),
  (rg [(oQ 10 (.move (.tmp 0)) E.tB),
   (oQ 11 (.move (.tmp 1)) E.tI),
   (oQ 12 (.convert E.tI E.tI32 (.tmp 11)) E.tI32),
   (oQ 13 (.call { callee:=.value (.func E.wI32),args:=#[(.tmp 10),(.tmp 12)],argTypes:=#[E.tB,E.tI32] }) E.tB),
   (oQ 6 (.assign (.tmp 13)) E.tB)]),
  .ret])
def c_wCNLen (E:Env):Code :=
 (sq [(rg [(oQ 6 (.assign (.const (.slice none 0 0))) E.tB)]),
  (sq [(rg [(oQ 7 (.move (.tmp 2)) E.tO)]),
   (.cond (.tmp 7)
    (sq [(rg [(oQ 8 (.move (.tmp 0)) E.tB),
      (oQ 9 (.call { callee:=.value (.func E.wUvarint),args:=#[(.tmp 8),(.const (.int .u32 0))],argTypes:=#[E.tB,E.tW] }) E.tB),
      (oQ 6 (.assign (.tmp 9)) E.tB)]),
     .ret])
    .skip)]),
  (rg [(oQ 10 (.move (.tmp 0)) E.tB),
   (oQ 11 (.move (.tmp 1)) E.tI),
   (oQ 12 (.convert E.tI E.tW (.tmp 11)) E.tW),
   (oQ 13 (.binOp .add E.tW (.const (.int .u32 1)) (.tmp 12) E.tW) E.tW),
   (oQ 14 (.call { callee:=.value (.func E.wUvarint),args:=#[(.tmp 10),(.tmp 13)],argTypes:=#[E.tB,E.tW] }) E.tB),
   (oQ 6 (.assign (.tmp 14)) E.tB)]),
  .ret])
def gh (E:Env):Code :=
 (sq [(rg [(oQ 2 (.assign (.const (.int .i64 0))) E.tI)]),
  (rg [(oQ 3 (.move (.tmp 0)) E.tW),
   (oQ 4 (.call { callee:=.value (.func E.len32),args:=#[(.tmp 3)],argTypes:=#[E.tW] }) E.tI),
   (oQ 5 (.convert E.tI E.tU8 (.tmp 4)) E.tU8),
   (oQ 6 (.index E.tStr (.const (.string ⟨#[1,1,1,1,1,1,1,1,2,2,2,2,2,2,2,3,3,3,3,3,3,3,4,4,4,4,4,4,4,5,5,5,5,5,5,5,6,6,6,6,6,6,6,7,7,7,7,7,7,7,8,8,8,8,8,8,8,9,9,9,9,9,9,9,10,0,0,0,0,0,0,0,0,0,0,0,0,0,0,0,0,0,0,0,0,0,0,0,0,0,0,0,0,0,0,0,0,0,0,0,0,0,0,0,0,0,0,0,0,0,0,0,0,0,0,0,0,0,0,0,0,0,0,0,0,0,0,0,0,0,0,0,0,0,0,0,0,0,0,0,0,0,0,0,0,0,0,0,0,0,0,0,0,0,0,0,0,0,0,0,0,0,0,0,0,0,0,0,0,0,0,0,0,0,0,0,0,0,0,0,0,0,0,0,0,0,0,0,0,0,0,0,0,0,0,0,0,0,0,0,0,0,0,0,0,0,0,0,0,0,0,0,0,0,0,0,0,0,0,0,0,0,0,0,0,0,0,0,0,0,0,0,0,0,0,0,0,0,0,0,0,0,0,0,0,0,0,0,0,0,0,0,0,0,0,0]⟩)) (.tmp 5)) E.tU8),
   (oQ 7 (.convert E.tU8 E.tI (.tmp 6)) E.tI),
   (oQ 2 (.assign (.tmp 7)) E.tI)]),
  .ret])
def vu (E:Env):Code :=
 (sq [(rg [(oQ 2 (.assign (.const (.int .i64 0))) E.tI)]),
  (sq [(rg [(oQ 3 (.move (.tmp 0)) E.tW),
    (oQ 4 (.binOp .geq E.tW (.tmp 3) (.const (.int .u32 65536)) E.tW) E.tO)]),
   (.cond (.tmp 4)
    (sq [(rg [(oQ 5 (.move (.tmp 0)) E.tW),
      (oQ 6 (.binOp .shr E.tW (.tmp 5) (.const (.int .u64 16)) E.tUint) E.tW),
      (oQ 0 (.assign (.tmp 6)) E.tW)]),
     (rg [(oQ 2 (.assign (.const (.int .i64 16))) E.tI)])])
    .skip)]),
  (sq [(rg [(oQ 7 (.move (.tmp 0)) E.tW),
    (oQ 8 (.binOp .geq E.tW (.tmp 7) (.const (.int .u32 256)) E.tW) E.tO)]),
   (.cond (.tmp 8)
    (sq [(rg [(oQ 9 (.move (.tmp 0)) E.tW),
      (oQ 10 (.binOp .shr E.tW (.tmp 9) (.const (.int .u64 8)) E.tUint) E.tW),
      (oQ 0 (.assign (.tmp 10)) E.tW)]),
     (rg [(oQ 11 (.move (.tmp 2)) E.tI),
      (oQ 12 (.binOp .add E.tI (.tmp 11) (.const (.int .i64 8)) E.tI) E.tI),
      (oQ 2 (.assign (.tmp 12)) E.tI)])])
    .skip)]),
  (rg [(oQ 13 (.move (.tmp 2)) E.tI),
   (oQ 14 (.move (.tmp 0)) E.tW),
   (oQ 15 (.convert E.tW E.tU8 (.tmp 14)) E.tU8),
   (oQ 16 (.index E.tStr (.const (.string ⟨#[0,1,2,2,3,3,3,3,4,4,4,4,4,4,4,4,5,5,5,5,5,5,5,5,5,5,5,5,5,5,5,5,6,6,6,6,6,6,6,6,6,6,6,6,6,6,6,6,6,6,6,6,6,6,6,6,6,6,6,6,6,6,6,6,7,7,7,7,7,7,7,7,7,7,7,7,7,7,7,7,7,7,7,7,7,7,7,7,7,7,7,7,7,7,7,7,7,7,7,7,7,7,7,7,7,7,7,7,7,7,7,7,7,7,7,7,7,7,7,7,7,7,7,7,7,7,7,7,8,8,8,8,8,8,8,8,8,8,8,8,8,8,8,8,8,8,8,8,8,8,8,8,8,8,8,8,8,8,8,8,8,8,8,8,8,8,8,8,8,8,8,8,8,8,8,8,8,8,8,8,8,8,8,8,8,8,8,8,8,8,8,8,8,8,8,8,8,8,8,8,8,8,8,8,8,8,8,8,8,8,8,8,8,8,8,8,8,8,8,8,8,8,8,8,8,8,8,8,8,8,8,8,8,8,8,8,8,8,8,8,8,8,8,8,8,8,8,8,8,8,8,8,8,8,8,8]⟩)) (.tmp 15)) E.tU8),
   (oQ 17 (.convert E.tU8 E.tI (.tmp 16)) E.tI),
   (oQ 18 (.binOp .add E.tI (.tmp 13) (.tmp 17) E.tI) E.tI),
   (oQ 2 (.assign (.tmp 18)) E.tI)]),
  .ret])
def yp (E:Env):Code :=
 (sq [(rg [(oQ 4 (.assign (.const (.slice none 0 0))) E.tB)]),
  (sq [(rg [(oQ 5 (.move (.tmp 1)) E.tW),
    (oQ 6 (.call { callee:=.value (.func E.uvLen),args:=#[(.tmp 5)],argTypes:=#[E.tW] }) E.tI)]),
   (.block 0 (sq [(rg [(oQ 8 (.binOp .eql E.tI (.tmp 6) (.const (.int .i64 5)) E.tI) E.tO),
      (oQ 7 (.assign (.tmp 8)) E.tO)]),
     (.cond (.tmp 7)
      (sq [(rg [(oQ 9 (.move (.tmp 0)) E.tB),
        (oQ 10 (.move (.tmp 1)) E.tW),
        (oQ 11 (.binOp .and E.tW (.tmp 10) (.const (.int .u32 127)) E.tW) E.tW),
        (oQ 12 (.binOp .or E.tW (.tmp 11) (.const (.int .u32 128)) E.tW) E.tW),
        (oQ 13 (.convert E.tW E.tU8 (.tmp 12)) E.tU8),
        (oQ 14 (.move (.tmp 1)) E.tW),
        (oQ 15 (.binOp .shr E.tW (.tmp 14) (.const (.int .u64 7)) E.tUint) E.tW),
        (oQ 16 (.binOp .and E.tW (.tmp 15) (.const (.int .u32 127)) E.tW) E.tW),
        (oQ 17 (.binOp .or E.tW (.tmp 16) (.const (.int .u32 128)) E.tW) E.tW),
        (oQ 18 (.convert E.tW E.tU8 (.tmp 17)) E.tU8),
        (oQ 19 (.move (.tmp 1)) E.tW),
        (oQ 20 (.binOp .shr E.tW (.tmp 19) (.const (.int .u64 14)) E.tUint) E.tW),
        (oQ 21 (.binOp .and E.tW (.tmp 20) (.const (.int .u32 127)) E.tW) E.tW),
        (oQ 22 (.binOp .or E.tW (.tmp 21) (.const (.int .u32 128)) E.tW) E.tW),
        (oQ 23 (.convert E.tW E.tU8 (.tmp 22)) E.tU8),
        (oQ 24 (.move (.tmp 1)) E.tW),
        (oQ 25 (.binOp .shr E.tW (.tmp 24) (.const (.int .u64 21)) E.tUint) E.tW),
        (oQ 26 (.binOp .and E.tW (.tmp 25) (.const (.int .u32 127)) E.tW) E.tW),
        (oQ 27 (.binOp .or E.tW (.tmp 26) (.const (.int .u32 128)) E.tW) E.tW),
        (oQ 28 (.convert E.tW E.tU8 (.tmp 27)) E.tU8),
        (oQ 29 (.move (.tmp 1)) E.tW),
        (oQ 30 (.binOp .shr E.tW (.tmp 29) (.const (.int .u64 28)) E.tUint) E.tW),
        (oQ 31 (.convert E.tW E.tU8 (.tmp 30)) E.tU8),
        (oQ 32 (.buildSlice E.tB 5 #[(0,(.tmp 13)),(1,(.tmp 18)),(2,(.tmp 23)),(3,(.tmp 28)),(4,(.tmp 31))]) E.tB),
        (oQ 33 (.call { callee:=.builtin .append,args:=#[(.tmp 9),(.tmp 32)],argTypes:=#[E.tB,E.tB] }) E.tB),
        (oQ 4 (.assign (.tmp 33)) E.tB)]),
       .ret])
      (sq [(rg [(oQ 35 (.binOp .eql E.tI (.tmp 6) (.const (.int .i64 4)) E.tI) E.tO),
        (oQ 34 (.assign (.tmp 35)) E.tO)]),
       (.cond (.tmp 34)
        (sq [(rg [(oQ 36 (.move (.tmp 0)) E.tB),
          (oQ 37 (.move (.tmp 1)) E.tW),
          (oQ 38 (.binOp .and E.tW (.tmp 37) (.const (.int .u32 127)) E.tW) E.tW),
          (oQ 39 (.binOp .or E.tW (.tmp 38) (.const (.int .u32 128)) E.tW) E.tW),
          (oQ 40 (.convert E.tW E.tU8 (.tmp 39)) E.tU8),
          (oQ 41 (.move (.tmp 1)) E.tW),
          (oQ 42 (.binOp .shr E.tW (.tmp 41) (.const (.int .u64 7)) E.tUint) E.tW),
          (oQ 43 (.binOp .and E.tW (.tmp 42) (.const (.int .u32 127)) E.tW) E.tW),
          (oQ 44 (.binOp .or E.tW (.tmp 43) (.const (.int .u32 128)) E.tW) E.tW),
          (oQ 45 (.convert E.tW E.tU8 (.tmp 44)) E.tU8),
          (oQ 46 (.move (.tmp 1)) E.tW),
          (oQ 47 (.binOp .shr E.tW (.tmp 46) (.const (.int .u64 14)) E.tUint) E.tW),
          (oQ 48 (.binOp .and E.tW (.tmp 47) (.const (.int .u32 127)) E.tW) E.tW),
          (oQ 49 (.binOp .or E.tW (.tmp 48) (.const (.int .u32 128)) E.tW) E.tW),
          (oQ 50 (.convert E.tW E.tU8 (.tmp 49)) E.tU8),
          (oQ 51 (.move (.tmp 1)) E.tW),
          (oQ 52 (.binOp .shr E.tW (.tmp 51) (.const (.int .u64 21)) E.tUint) E.tW),
          (oQ 53 (.convert E.tW E.tU8 (.tmp 52)) E.tU8),
          (oQ 54 (.buildSlice E.tB 4 #[(0,(.tmp 40)),(1,(.tmp 45)),(2,(.tmp 50)),(3,(.tmp 53))]) E.tB),
          (oQ 55 (.call { callee:=.builtin .append,args:=#[(.tmp 36),(.tmp 54)],argTypes:=#[E.tB,E.tB] }) E.tB),
          (oQ 4 (.assign (.tmp 55)) E.tB)]),
         .ret])
        (sq [(rg [(oQ 57 (.binOp .eql E.tI (.tmp 6) (.const (.int .i64 3)) E.tI) E.tO),
          (oQ 56 (.assign (.tmp 57)) E.tO)]),
         (.cond (.tmp 56)
          (sq [(rg [(oQ 58 (.move (.tmp 0)) E.tB),
            (oQ 59 (.move (.tmp 1)) E.tW),
            (oQ 60 (.binOp .and E.tW (.tmp 59) (.const (.int .u32 127)) E.tW) E.tW),
            (oQ 61 (.binOp .or E.tW (.tmp 60) (.const (.int .u32 128)) E.tW) E.tW),
            (oQ 62 (.convert E.tW E.tU8 (.tmp 61)) E.tU8),
            (oQ 63 (.move (.tmp 1)) E.tW),
            (oQ 64 (.binOp .shr E.tW (.tmp 63) (.const (.int .u64 7)) E.tUint) E.tW),
            (oQ 65 (.binOp .and E.tW (.tmp 64) (.const (.int .u32 127)) E.tW) E.tW),
            (oQ 66 (.binOp .or E.tW (.tmp 65) (.const (.int .u32 128)) E.tW) E.tW),
            (oQ 67 (.convert E.tW E.tU8 (.tmp 66)) E.tU8),
            (oQ 68 (.move (.tmp 1)) E.tW),
            (oQ 69 (.binOp .shr E.tW (.tmp 68) (.const (.int .u64 14)) E.tUint) E.tW),
            (oQ 70 (.convert E.tW E.tU8 (.tmp 69)) E.tU8),
            (oQ 71 (.buildSlice E.tB 3 #[(0,(.tmp 62)),(1,(.tmp 67)),(2,(.tmp 70))]) E.tB),
            (oQ 72 (.call { callee:=.builtin .append,args:=#[(.tmp 58),(.tmp 71)],argTypes:=#[E.tB,E.tB] }) E.tB),
            (oQ 4 (.assign (.tmp 72)) E.tB)]),
           .ret])
          (sq [(rg [(oQ 74 (.binOp .eql E.tI (.tmp 6) (.const (.int .i64 2)) E.tI) E.tO),
            (oQ 73 (.assign (.tmp 74)) E.tO)]),
           (.cond (.tmp 73)
            (sq [(rg [(oQ 75 (.move (.tmp 0)) E.tB),
              (oQ 76 (.move (.tmp 1)) E.tW),
              (oQ 77 (.binOp .and E.tW (.tmp 76) (.const (.int .u32 127)) E.tW) E.tW),
              (oQ 78 (.binOp .or E.tW (.tmp 77) (.const (.int .u32 128)) E.tW) E.tW),
              (oQ 79 (.convert E.tW E.tU8 (.tmp 78)) E.tU8),
              (oQ 80 (.move (.tmp 1)) E.tW),
              (oQ 81 (.binOp .shr E.tW (.tmp 80) (.const (.int .u64 7)) E.tUint) E.tW),
              (oQ 82 (.convert E.tW E.tU8 (.tmp 81)) E.tU8),
              (oQ 83 (.buildSlice E.tB 2 #[(0,(.tmp 79)),(1,(.tmp 82))]) E.tB),
              (oQ 84 (.call { callee:=.builtin .append,args:=#[(.tmp 75),(.tmp 83)],argTypes:=#[E.tB,E.tB] }) E.tB),
              (oQ 4 (.assign (.tmp 84)) E.tB)]),
             .ret])
            (sq [(rg [(oQ 86 (.binOp .eql E.tI (.tmp 6) (.const (.int .i64 1)) E.tI) E.tO),
              (oQ 85 (.assign (.tmp 86)) E.tO)]),
             (.cond (.tmp 85)
              (sq [(rg [(oQ 87 (.move (.tmp 0)) E.tB),
                (oQ 88 (.move (.tmp 1)) E.tW),
                (oQ 89 (.convert E.tW E.tU8 (.tmp 88)) E.tU8),
                (oQ 90 (.buildSlice E.tB 1 #[(0,(.tmp 89))]) E.tB),
                (oQ 91 (.call { callee:=.builtin .append,args:=#[(.tmp 87),(.tmp 90)],argTypes:=#[E.tB,E.tB] }) E.tB),
                (oQ 4 (.assign (.tmp 91)) E.tB)]),
               .ret])
              .skip)]))]))]))]))]))]),
  (rg [(oQ 92 (.move (.tmp 0)) E.tB),
   (oQ 4 (.assign (.tmp 92)) E.tB)]),
  .ret])
def c_tLen (E:Env):Code :=
 (sq [(rg [(oQ 2 (.assign (.const (.int .i64 0))) E.tI)]),
  (rg [(oQ 3 (.move (.tmp 0)) E.tPTags),
   (oQ 4 (.nilCheck (.tmp 3)) 0),
   (oQ 5 (.fieldAddr E.tTags (.tmp 4) 0) 0),
   (oQ 6 (.load E.tTagMap (.tmp 5)) E.tTagMap),
   (oQ 7 (.call { callee:=.builtin .len,args:=#[(.tmp 6)],argTypes:=#[E.tTagMap] }) E.tI),
   (oQ 2 (.assign (.tmp 7)) E.tI)]),
  .ret])
def gi (E:Env):Code :=
 (sq [(rg [(oQ 3 (.box E.tB (.tmp 1)) 0),
   (oQ 4 (.assign (.const (.slice none 0 0))) E.tB)]),
  (rg [(oQ 5 (.move (.tmp 0)) E.tPTags),
   (oQ 6 (.makeFunc (.func E.gEach1) #[] #[(.tmp 3)]) E.tFnTag),
   (oQ 7 (.call { callee:=.value (.func E.gAll),args:=#[(.tmp 5),(.tmp 6)],argTypes:=#[E.tPTags,E.tFnTag] }) 0)]),
  (rg [(oQ 8 (.load E.tB (.tmp 3)) E.tB),
   (oQ 4 (.assign (.tmp 8)) E.tB)]),
  .ret])
def wo (E:Env):Code :=
 (sq [(sq [(rg [(oQ 8 (.move (.tmp 0)) E.tPTags),
    (oQ 9 (.nilCheck (.tmp 8)) 0),
    (oQ 10 (.fieldAddr E.tTags (.tmp 9) 0) 0),
    (oQ 11 (.load E.tTagMap (.tmp 10)) E.tTagMap),
    (oQ 12 (.call { callee:=.builtin .len,args:=#[(.tmp 11)],argTypes:=#[E.tTagMap] }) E.tI),
    (oQ 13 (.binOp .eql E.tI (.tmp 12) (.const (.int .i64 0)) E.tI) E.tO)]),
   (.cond (.tmp 13)
    .ret
    .skip)]),
  (rg [(oQ 14 (.move (.tmp 0)) E.tPTags),
   (oQ 15 (.nilCheck (.tmp 14)) 0),
   (oQ 16 (.fieldAddr E.tTags (.tmp 15) 0) 0),
   (oQ 17 (.load E.tTagMap (.tmp 16)) E.tTagMap),
   (oQ 18 (.call { callee:=.builtin .len,args:=#[(.tmp 17)],argTypes:=#[E.tTagMap] }) E.tI),
   (oQ 19 (.makeSlice E.tU32s (.const (.int .i64 0)) (.tmp 18)) E.tU32s),
   (oQ 4 (.alloc E.tU32s) 0),
   ⟨none,.store E.tU32s (.tmp 4) (.tmp 19),0,"",#[],none⟩]),
  (sq [(rg [(oQ 20 (.move (.tmp 0)) E.tPTags),
    (oQ 21 (.nilCheck (.tmp 20)) 0),
    (oQ 22 (.fieldAddr E.tTags (.tmp 21) 0) 0),
    (oQ 23 (.load E.tTagMap (.tmp 22)) E.tTagMap),
    (oQ 24 (.range E.tTagMap (.tmp 23)) 0)]),
   (.block 0 (.loop (sq [(rg [(oQ 25 (.next (.tmp 24) false) 0),
       (oQ 26 (.extract (.tmp 25) 0) E.tO)]),
      (.cond (.tmp 26)
       .skip
       (.exit 0)),
      (.block 1 (sq [(rg [(oQ 27 (.entry (.tmp 24)) 0),
         (oQ 28 (.extract (.tmp 27) 0) E.tW),
         (oQ 5 (.assign (.tmp 28)) E.tW)]),
        (rg [(oQ 29 (.load E.tU32s (.tmp 4)) E.tU32s),
         (oQ 30 (.move (.tmp 5)) E.tW),
         (oQ 31 (.buildSlice E.tU32s 1 #[(0,(.tmp 30))]) E.tU32s),
         (oQ 32 (.call { callee:=.builtin .append,args:=#[(.tmp 29),(.tmp 31)],argTypes:=#[E.tU32s,E.tU32s] }) E.tU32s),
         ⟨none,.store E.tU32s (.tmp 4) (.tmp 32),0,"",#[],none⟩])]))])))]),
  (rg [(oQ 33 (.load E.tU32s (.tmp 4)) E.tU32s),
   (oQ 34 (.makeInterface E.tU32s (.tmp 33)) E.tAny),
   (oQ 35 (.makeFunc (.func E.gAll1) #[] #[(.tmp 4)]) E.tFnLess),
   (oQ 36 (.call { callee:=.value (.func E.sortSlice),args:=#[(.tmp 34),(.tmp 35)],argTypes:=#[E.tAny,E.tFnLess] }) 0)]),
  (rg [(oQ 37 (.load E.tU32s (.tmp 4)) E.tU32s),
   (oQ 38 (.call { callee:=.builtin .len,args:=#[(.tmp 37)],argTypes:=#[E.tU32s] }) E.tI),
   (oQ 39 (.move (.const (.int .i64 0))) E.tI)]),
  (.block 2 (.loop (sq [(rg [(oQ 40 (.binOp .lss E.tI (.tmp 39) (.tmp 38) E.tI) 0)]),
     (.cond (.tmp 40)
      .skip
      (.exit 2)),
     (.block 3 (sq [(rg [(oQ 41 (.indexAddr E.tU32s (.tmp 37) (.tmp 39)) 0),
        (oQ 42 (.load E.tW (.tmp 41)) E.tW),
        (oQ 7 (.assign (.tmp 42)) E.tW)]),
       (rg [(oQ 43 (.move (.tmp 1)) E.tFnTag),
        (oQ 44 (.move (.tmp 7)) E.tW),
        (oQ 45 (.move (.tmp 0)) E.tPTags),
        (oQ 46 (.nilCheck (.tmp 45)) 0),
        (oQ 47 (.fieldAddr E.tTags (.tmp 46) 0) 0),
        (oQ 48 (.load E.tTagMap (.tmp 47)) E.tTagMap),
        (oQ 49 (.move (.tmp 7)) E.tW),
        (oQ 50 (.lookup E.tTagMap (.tmp 48) (.tmp 49) false) E.tB),
        (oQ 51 (.call { callee:=.value (.tmp 43),args:=#[(.tmp 44),(.tmp 50)],argTypes:=#[E.tW,E.tB] }) 0)])])),
     (rg [(oQ 52 (.binOp .add E.tI (.tmp 39) (.const (.int .i64 1)) E.tI) E.tI),
      (oQ 39 (.move (.tmp 52)) E.tI)])])))])
def gq (E:Env):Code :=
 (sq [(rg [(oQ 5 (.load E.tB (.tmp 2)) E.tB),
   (oQ 6 (.move (.tmp 0)) E.tW),
   (oQ 7 (.call { callee:=.value (.func E.wUvarint),args:=#[(.tmp 5),(.tmp 6)],argTypes:=#[E.tB,E.tW] }) E.tB),
   ⟨none,.store E.tB (.tmp 2) (.tmp 7),0,"",#[],none⟩]),
  (rg [(oQ 8 (.load E.tB (.tmp 2)) E.tB),
   (oQ 9 (.move (.tmp 1)) E.tB),
   (oQ 10 (.call { callee:=.builtin .len,args:=#[(.tmp 9)],argTypes:=#[E.tB] }) E.tI),
   (oQ 11 (.convert E.tI E.tW (.tmp 10)) E.tW),
   (oQ 12 (.call { callee:=.value (.func E.wUvarint),args:=#[(.tmp 8),(.tmp 11)],argTypes:=#[E.tB,E.tW] }) E.tB),
   ⟨none,.store E.tB (.tmp 2) (.tmp 12),0,"",#[],none⟩]),
  (rg [(oQ 13 (.load E.tB (.tmp 2)) E.tB),
   (oQ 14 (.move (.tmp 1)) E.tB),
   (oQ 15 (.call { callee:=.builtin .append,args:=#[(.tmp 13),(.tmp 14)],argTypes:=#[E.tB,E.tB] }) E.tB),
   ⟨none,.store E.tB (.tmp 2) (.tmp 15),0,"",#[],none⟩])])
def c_gAll1 (E:Env):Code :=
 (sq [(rg [(oQ 5 (.assign (.const (.bool false))) E.tO)]),
  (rgd [(oQ 6 (.load E.tU32s (.tmp 2)) E.tU32s),
   (oQ 7 (.move (.tmp 0)) E.tI),
   ⟨some 8,.indexAddr E.tU32s (.tmp 6) (.tmp 7),0,"",#[⟨0,.data⟩,⟨1,.data⟩],none⟩,
   ⟨some 9,.load E.tW (.tmp 8),E.tW,"",#[⟨2,.data⟩],none⟩,
   (oQ 10 (.load E.tU32s (.tmp 2)) E.tU32s),
   (oQ 11 (.move (.tmp 1)) E.tI),
   ⟨some 12,.indexAddr E.tU32s (.tmp 10) (.tmp 11),0,"",#[⟨4,.data⟩,⟨5,.data⟩],none⟩,
   ⟨some 13,.load E.tW (.tmp 12),E.tW,"",#[⟨6,.data⟩],none⟩,
   ⟨some 14,.binOp .lss E.tW (.tmp 9) (.tmp 13) E.tW,E.tO,"",#[⟨3,.data⟩,⟨7,.data⟩],none⟩,
   ⟨some 5,.assign (.tmp 14),E.tO,"",#[⟨8,.data⟩,⟨0,.phase⟩,⟨1,.phase⟩,⟨2,.phase⟩,⟨3,.phase⟩,⟨4,.phase⟩,⟨5,.phase⟩,⟨6,.phase⟩,⟨7,.phase⟩,⟨8,.phase⟩],none⟩]),
  .ret])
end Go.Km
namespace Go.Km
open Go
def c_rI8 (E:Env):Code :=
 (sq [(rg [(oQ 2 (.assign (.const (.int .i8 0))) E.tI8)]),
  (sq [(rg [(oQ 4 (.move (.tmp 0)) E.tPRd),
    (oQ 5 (.nilCheck (.tmp 4)) 0),
    (oQ 6 (.fieldAddr E.tRd (.tmp 5) 0) 0),
    (oQ 7 (.load E.tB (.tmp 6)) E.tB),
    (oQ 8 (.call { callee:=.builtin .len,args:=#[(.tmp 7)],argTypes:=#[E.tB] }) E.tI),
    (oQ 9 (.binOp .lss E.tI (.tmp 8) (.const (.int .i64 1)) E.tI) E.tO)]),
   (.cond (.tmp 9)
    (sq [(rg [(oQ 10 (.move (.tmp 0)) E.tPRd),
      (oQ 11 (.nilCheck (.tmp 10)) 0),
      (oQ 12 (.fieldAddr E.tRd (.tmp 11) 1) 0),
      ⟨none,.store E.tO (.tmp 12) (.const (.bool true)),0,"",#[],none⟩]),
     (rg [(oQ 13 (.move (.tmp 0)) E.tPRd),
      (oQ 14 (.nilCheck (.tmp 13)) 0),
      (oQ 15 (.fieldAddr E.tRd (.tmp 14) 0) 0),
      ⟨none,.store E.tB (.tmp 15) (.const (.slice none 0 0)),0,"",#[],none⟩]),
     (rg [(oQ 2 (.assign (.const (.int .i8 0))) E.tI8)]),
     .ret])
    .skip)]),
  (rg [(oQ 16 (.move (.tmp 0)) E.tPRd),
   (oQ 17 (.nilCheck (.tmp 16)) 0),
   (oQ 18 (.fieldAddr E.tRd (.tmp 17) 0) 0),
   (oQ 19 (.load E.tB (.tmp 18)) E.tB),
   (oQ 20 (.indexAddr E.tB (.tmp 19) (.const (.int .i64 0))) 0),
   (oQ 21 (.load E.tU8 (.tmp 20)) E.tU8),
   (oQ 3 (.assign (.tmp 21)) E.tU8)]),
  (rg [(oQ 22 (.move (.tmp 0)) E.tPRd),
   (oQ 23 (.move (.tmp 0)) E.tPRd),
   (oQ 24 (.nilCheck (.tmp 23)) 0),
   (oQ 25 (.fieldAddr E.tRd (.tmp 24) 0) 0),
   (oQ 26 (.load E.tB (.tmp 25)) E.tB),
   (oQ 27 (.slice E.tB (.tmp 26) (some (.const (.int .i64 1))) none none) E.tB),
   (oQ 28 (.nilCheck (.tmp 22)) 0),
   (oQ 29 (.fieldAddr E.tRd (.tmp 28) 0) 0),
   ⟨none,.store E.tB (.tmp 29) (.tmp 27),0,"",#[],none⟩]),
  (rg [(oQ 30 (.move (.tmp 3)) E.tU8),
   (oQ 31 (.convert E.tU8 E.tI8 (.tmp 30)) E.tI8),
   (oQ 2 (.assign (.tmp 31)) E.tI8)]),
  .ret])
def c_rI16 (E:Env):Code :=
 (sq [(rg [(oQ 2 (.assign (.const (.int .i16 0))) E.tI16)]),
  (sq [(rg [(oQ 4 (.move (.tmp 0)) E.tPRd),
    (oQ 5 (.nilCheck (.tmp 4)) 0),
    (oQ 6 (.fieldAddr E.tRd (.tmp 5) 0) 0),
    (oQ 7 (.load E.tB (.tmp 6)) E.tB),
    (oQ 8 (.call { callee:=.builtin .len,args:=#[(.tmp 7)],argTypes:=#[E.tB] }) E.tI),
    (oQ 9 (.binOp .lss E.tI (.tmp 8) (.const (.int .i64 2)) E.tI) E.tO)]),
   (.cond (.tmp 9)
    (sq [(rg [(oQ 10 (.move (.tmp 0)) E.tPRd),
      (oQ 11 (.nilCheck (.tmp 10)) 0),
      (oQ 12 (.fieldAddr E.tRd (.tmp 11) 1) 0),
      ⟨none,.store E.tO (.tmp 12) (.const (.bool true)),0,"",#[],none⟩]),
     (rg [(oQ 13 (.move (.tmp 0)) E.tPRd),
      (oQ 14 (.nilCheck (.tmp 13)) 0),
      (oQ 15 (.fieldAddr E.tRd (.tmp 14) 0) 0),
      ⟨none,.store E.tB (.tmp 15) (.const (.slice none 0 0)),0,"",#[],none⟩]),
     (rg [(oQ 2 (.assign (.const (.int .i16 0))) E.tI16)]),
     .ret])
    .skip)]),
  (rgd [(oQ 16 (.load E.tBE (.global E.vBE)) E.tBE),
   (oQ 17 (.move (.tmp 0)) E.tPRd),
   ⟨some 18,.nilCheck (.tmp 17),0,"",#[⟨1,.data⟩],none⟩,
   ⟨some 19,.fieldAddr E.tRd (.tmp 18) 0,0,"",#[⟨2,.data⟩],none⟩,
   ⟨some 20,.load E.tB (.tmp 19),E.tB,"",#[⟨3,.data⟩],none⟩,
   ⟨some 21,.call { callee:=.value (.func E.bU16),args:=#[(.tmp 16),(.tmp 20)],argTypes:=#[E.tBE,E.tB] },E.tU16,"",#[⟨0,.data⟩,⟨4,.data⟩],none⟩,
   ⟨some 22,.convert E.tU16 E.tI16 (.tmp 21),E.tI16,"",#[⟨5,.data⟩],none⟩,
   ⟨some 3,.assign (.tmp 22),E.tI16,"",#[⟨6,.data⟩,⟨5,.chain⟩,⟨0,.phase⟩,⟨1,.phase⟩,⟨2,.phase⟩,⟨3,.phase⟩,⟨4,.phase⟩,⟨5,.phase⟩,⟨6,.phase⟩],none⟩]),
  (rg [(oQ 23 (.move (.tmp 0)) E.tPRd),
   (oQ 24 (.move (.tmp 0)) E.tPRd),
   (oQ 25 (.nilCheck (.tmp 24)) 0),
   (oQ 26 (.fieldAddr E.tRd (.tmp 25) 0) 0),
   (oQ 27 (.load E.tB (.tmp 26)) E.tB),
   (oQ 28 (.slice E.tB (.tmp 27) (some (.const (.int .i64 2))) none none) E.tB),
   (oQ 29 (.nilCheck (.tmp 23)) 0),
   (oQ 30 (.fieldAddr E.tRd (.tmp 29) 0) 0),
   ⟨none,.store E.tB (.tmp 30) (.tmp 28),0,"",#[],none⟩]),
  (rg [(oQ 31 (.move (.tmp 3)) E.tI16),
   (oQ 2 (.assign (.tmp 31)) E.tI16)]),
  .ret])
def c_rI32 (E:Env):Code :=
 (sq [(rg [(oQ 2 (.assign (.const (.int .i32 0))) E.tI32)]),
  (sq [(rg [(oQ 4 (.move (.tmp 0)) E.tPRd),
    (oQ 5 (.nilCheck (.tmp 4)) 0),
    (oQ 6 (.fieldAddr E.tRd (.tmp 5) 0) 0),
    (oQ 7 (.load E.tB (.tmp 6)) E.tB),
    (oQ 8 (.call { callee:=.builtin .len,args:=#[(.tmp 7)],argTypes:=#[E.tB] }) E.tI),
    (oQ 9 (.binOp .lss E.tI (.tmp 8) (.const (.int .i64 4)) E.tI) E.tO)]),
   (.cond (.tmp 9)
    (sq [(rg [(oQ 10 (.move (.tmp 0)) E.tPRd),
      (oQ 11 (.nilCheck (.tmp 10)) 0),
      (oQ 12 (.fieldAddr E.tRd (.tmp 11) 1) 0),
      ⟨none,.store E.tO (.tmp 12) (.const (.bool true)),0,"",#[],none⟩]),
     (rg [(oQ 13 (.move (.tmp 0)) E.tPRd),
      (oQ 14 (.nilCheck (.tmp 13)) 0),
      (oQ 15 (.fieldAddr E.tRd (.tmp 14) 0) 0),
      ⟨none,.store E.tB (.tmp 15) (.const (.slice none 0 0)),0,"",#[],none⟩]),
     (rg [(oQ 2 (.assign (.const (.int .i32 0))) E.tI32)]),
     .ret])
    .skip)]),
  (rgd [(oQ 16 (.load E.tBE (.global E.vBE)) E.tBE),
   (oQ 17 (.move (.tmp 0)) E.tPRd),
   ⟨some 18,.nilCheck (.tmp 17),0,"",#[⟨1,.data⟩],none⟩,
   ⟨some 19,.fieldAddr E.tRd (.tmp 18) 0,0,"",#[⟨2,.data⟩],none⟩,
   ⟨some 20,.load E.tB (.tmp 19),E.tB,"",#[⟨3,.data⟩],none⟩,
   ⟨some 21,.call { callee:=.value (.func E.bU32),args:=#[(.tmp 16),(.tmp 20)],argTypes:=#[E.tBE,E.tB] },E.tW,"",#[⟨0,.data⟩,⟨4,.data⟩],none⟩,
   ⟨some 22,.convert E.tW E.tI32 (.tmp 21),E.tI32,"",#[⟨5,.data⟩],none⟩,
   ⟨some 3,.assign (.tmp 22),E.tI32,"",#[⟨6,.data⟩,⟨5,.chain⟩,⟨0,.phase⟩,⟨1,.phase⟩,⟨2,.phase⟩,⟨3,.phase⟩,⟨4,.phase⟩,⟨5,.phase⟩,⟨6,.phase⟩],none⟩]),
  (rg [(oQ 23 (.move (.tmp 0)) E.tPRd),
   (oQ 24 (.move (.tmp 0)) E.tPRd),
   (oQ 25 (.nilCheck (.tmp 24)) 0),
   (oQ 26 (.fieldAddr E.tRd (.tmp 25) 0) 0),
   (oQ 27 (.load E.tB (.tmp 26)) E.tB),
   (oQ 28 (.slice E.tB (.tmp 27) (some (.const (.int .i64 4))) none none) E.tB),
   (oQ 29 (.nilCheck (.tmp 23)) 0),
   (oQ 30 (.fieldAddr E.tRd (.tmp 29) 0) 0),
   ⟨none,.store E.tB (.tmp 30) (.tmp 28),0,"",#[],none⟩]),
  (rg [(oQ 31 (.move (.tmp 3)) E.tI32),
   (oQ 2 (.assign (.tmp 31)) E.tI32)]),
  .ret])
def c_rI64 (E:Env):Code :=
 (sq [(rg [(oQ 2 (.assign (.const (.int .i64 0))) E.tI64)]),
  (rg [(oQ 3 (.move (.tmp 0)) E.tPRd),
   (oQ 4 (.call { callee:=.value (.func E.rU64),args:=#[(.tmp 3)],argTypes:=#[E.tPRd] }) E.tU64),
   (oQ 5 (.convert E.tU64 E.tI64 (.tmp 4)) E.tI64),
   (oQ 2 (.assign (.tmp 5)) E.tI64)]),
  .ret])
def c_rU16 (E:Env):Code :=
 (sq [(rg [(oQ 2 (.assign (.const (.int .u16 0))) E.tU16)]),
  (sq [(rg [(oQ 4 (.move (.tmp 0)) E.tPRd),
    (oQ 5 (.nilCheck (.tmp 4)) 0),
    (oQ 6 (.fieldAddr E.tRd (.tmp 5) 0) 0),
    (oQ 7 (.load E.tB (.tmp 6)) E.tB),
    (oQ 8 (.call { callee:=.builtin .len,args:=#[(.tmp 7)],argTypes:=#[E.tB] }) E.tI),
    (oQ 9 (.binOp .lss E.tI (.tmp 8) (.const (.int .i64 2)) E.tI) E.tO)]),
   (.cond (.tmp 9)
    (sq [(rg [(oQ 10 (.move (.tmp 0)) E.tPRd),
      (oQ 11 (.nilCheck (.tmp 10)) 0),
      (oQ 12 (.fieldAddr E.tRd (.tmp 11) 1) 0),
      ⟨none,.store E.tO (.tmp 12) (.const (.bool true)),0,"",#[],none⟩]),
     (rg [(oQ 13 (.move (.tmp 0)) E.tPRd),
      (oQ 14 (.nilCheck (.tmp 13)) 0),
      (oQ 15 (.fieldAddr E.tRd (.tmp 14) 0) 0),
      ⟨none,.store E.tB (.tmp 15) (.const (.slice none 0 0)),0,"",#[],none⟩]),
     (rg [(oQ 2 (.assign (.const (.int .u16 0))) E.tU16)]),
     .ret])
    .skip)]),
  (rgd [(oQ 16 (.load E.tBE (.global E.vBE)) E.tBE),
   (oQ 17 (.move (.tmp 0)) E.tPRd),
   ⟨some 18,.nilCheck (.tmp 17),0,"",#[⟨1,.data⟩],none⟩,
   ⟨some 19,.fieldAddr E.tRd (.tmp 18) 0,0,"",#[⟨2,.data⟩],none⟩,
   ⟨some 20,.load E.tB (.tmp 19),E.tB,"",#[⟨3,.data⟩],none⟩,
   ⟨some 21,.call { callee:=.value (.func E.bU16),args:=#[(.tmp 16),(.tmp 20)],argTypes:=#[E.tBE,E.tB] },E.tU16,"",#[⟨0,.data⟩,⟨4,.data⟩],none⟩,
   ⟨some 3,.assign (.tmp 21),E.tU16,"",#[⟨5,.data⟩,⟨5,.chain⟩,⟨0,.phase⟩,⟨1,.phase⟩,⟨2,.phase⟩,⟨3,.phase⟩,⟨4,.phase⟩,⟨5,.phase⟩],none⟩]),
  (rg [(oQ 22 (.move (.tmp 0)) E.tPRd),
   (oQ 23 (.move (.tmp 0)) E.tPRd),
   (oQ 24 (.nilCheck (.tmp 23)) 0),
   (oQ 25 (.fieldAddr E.tRd (.tmp 24) 0) 0),
   (oQ 26 (.load E.tB (.tmp 25)) E.tB),
   (oQ 27 (.slice E.tB (.tmp 26) (some (.const (.int .i64 2))) none none) E.tB),
   (oQ 28 (.nilCheck (.tmp 22)) 0),
   (oQ 29 (.fieldAddr E.tRd (.tmp 28) 0) 0),
   ⟨none,.store E.tB (.tmp 29) (.tmp 27),0,"",#[],none⟩]),
  (rg [(oQ 30 (.move (.tmp 3)) E.tU16),
   (oQ 2 (.assign (.tmp 30)) E.tU16)]),
  .ret])
def c_rBool (E:Env):Code :=
 (sq [(rg [(oQ 2 (.assign (.const (.bool false))) E.tO)]),
  (sq [(rg [(oQ 4 (.move (.tmp 0)) E.tPRd),
    (oQ 5 (.nilCheck (.tmp 4)) 0),
    (oQ 6 (.fieldAddr E.tRd (.tmp 5) 0) 0),
    (oQ 7 (.load E.tB (.tmp 6)) E.tB),
    (oQ 8 (.call { callee:=.builtin .len,args:=#[(.tmp 7)],argTypes:=#[E.tB] }) E.tI),
    (oQ 9 (.binOp .lss E.tI (.tmp 8) (.const (.int .i64 1)) E.tI) E.tO)]),
   (.cond (.tmp 9)
    (sq [(rg [(oQ 10 (.move (.tmp 0)) E.tPRd),
      (oQ 11 (.nilCheck (.tmp 10)) 0),
      (oQ 12 (.fieldAddr E.tRd (.tmp 11) 1) 0),
      ⟨none,.store E.tO (.tmp 12) (.const (.bool true)),0,"",#[],none⟩]),
     (rg [(oQ 13 (.move (.tmp 0)) E.tPRd),
      (oQ 14 (.nilCheck (.tmp 13)) 0),
      (oQ 15 (.fieldAddr E.tRd (.tmp 14) 0) 0),
      ⟨none,.store E.tB (.tmp 15) (.const (.slice none 0 0)),0,"",#[],none⟩]),
     (rg [(oQ 2 (.assign (.const (.bool false))) E.tO)]),
     .ret])
    .skip)]),
  (rg [(oQ 16 (.move (.tmp 0)) E.tPRd),
   (oQ 17 (.nilCheck (.tmp 16)) 0),
   (oQ 18 (.fieldAddr E.tRd (.tmp 17) 0) 0),
   (oQ 19 (.load E.tB (.tmp 18)) E.tB),
   (oQ 20 (.indexAddr E.tB (.tmp 19) (.const (.int .i64 0))) 0),
   (oQ 21 (.load E.tU8 (.tmp 20)) E.tU8),
   (oQ 22 (.binOp .neq E.tU8 (.tmp 21) (.const (.int .u8 0)) E.tU8) E.tO),
   (oQ 3 (.assign (.tmp 22)) E.tO)]),
  (rg [(oQ 23 (.move (.tmp 0)) E.tPRd),
   (oQ 24 (.move (.tmp 0)) E.tPRd),
   (oQ 25 (.nilCheck (.tmp 24)) 0),
   (oQ 26 (.fieldAddr E.tRd (.tmp 25) 0) 0),
   (oQ 27 (.load E.tB (.tmp 26)) E.tB),
   (oQ 28 (.slice E.tB (.tmp 27) (some (.const (.int .i64 1))) none none) E.tB),
   (oQ 29 (.nilCheck (.tmp 23)) 0),
   (oQ 30 (.fieldAddr E.tRd (.tmp 29) 0) 0),
   ⟨none,.store E.tB (.tmp 30) (.tmp 28),0,"",#[],none⟩]),
  (rg [(oQ 31 (.move (.tmp 3)) E.tO),
   (oQ 2 (.assign (.tmp 31)) E.tO)]),
  .ret])
def c_rUuid (E:Env):Code :=
 (sq [(rg [(oQ 2 (.alloc E.tUuid) 0)]),
  (rg [(oQ 3 (.alloc E.tUuid) 0)]),
  (rgd [(oQ 4 (.slice E.tUuid (.tmp 3) none none none) E.tB),
   (oQ 5 (.move (.tmp 0)) E.tPRd),
   ⟨some 6,.call { callee:=.value (.func E.rSpan),args:=#[(.tmp 5),(.const (.int .i64 16))],argTypes:=#[E.tPRd,E.tI] },E.tB,"",#[⟨1,.data⟩],none⟩,
   ⟨some 7,.call { callee:=.builtin .copy,args:=#[(.tmp 4),(.tmp 6)],argTypes:=#[E.tB,E.tB] },E.tI,"",#[⟨0,.data⟩,⟨2,.data⟩,⟨2,.chain⟩],none⟩]),
  (rg [(oQ 8 (.load E.tUuid (.tmp 3)) E.tUuid),
   ⟨none,.store E.tUuid (.tmp 2) (.tmp 8),0,"",#[],none⟩]),
  .ret])
def c_rStr (E:Env):Code :=
 (sq [(rg [(oQ 2 (.assign (.const (.string ⟨#[]⟩))) E.tStr)]),
  (rg [(oQ 4 (.move (.tmp 0)) E.tPRd),
   (oQ 5 (.call { callee:=.value (.func E.rI16),args:=#[(.tmp 4)],argTypes:=#[E.tPRd] }) E.tI16),
   (oQ 3 (.assign (.tmp 5)) E.tI16)]),
  (rg [(oQ 6 (.move (.tmp 0)) E.tPRd),
   (oQ 7 (.move (.tmp 3)) E.tI16),
   (oQ 8 (.convert E.tI16 E.tI (.tmp 7)) E.tI),
   (oQ 9 (.call { callee:=.value (.func E.rSpan),args:=#[(.tmp 6),(.tmp 8)],argTypes:=#[E.tPRd,E.tI] }) E.tB),
   (oQ 10 (.convert E.tB E.tStr (.tmp 9)) E.tStr),
   (oQ 2 (.assign (.tmp 10)) E.tStr)]),
  .ret])
def c_rCStr (E:Env):Code :=
 (sq [(rg [(oQ 2 (.assign (.const (.string ⟨#[]⟩))) E.tStr)]),
  (rg [(oQ 4 (.move (.tmp 0)) E.tPRd),
   (oQ 5 (.call { callee:=.value (.func E.rUvar),args:=#[(.tmp 4)],argTypes:=#[E.tPRd] }) E.tW),
   (oQ 6 (.convert E.tW E.tI (.tmp 5)) E.tI),
   (oQ 7 (.binOp .sub E.tI (.tmp 6) (.const (.int .i64 1)) E.tI) E.tI),
   (oQ 3 (.assign (.tmp 7)) E.tI)]),
  (rg [(oQ 8 (.move (.tmp 0)) E.tPRd),
   (oQ 9 (.move (.tmp 3)) E.tI),
   (oQ 10 (.call { callee:=.value (.func E.rSpan),args:=#[(.tmp 8),(.tmp 9)],argTypes:=#[E.tPRd,E.tI] }) E.tB),
   (oQ 11 (.convert E.tB E.tStr (.tmp 10)) E.tStr),
   (oQ 2 (.assign (.tmp 11)) E.tStr)]),
  .ret])
def c_rNStr (E:Env):Code :=
 (sq [(rg [(oQ 2 (.assign (.const (.pointer none))) E.tPStr)]),
  (rg [(oQ 5 (.move (.tmp 0)) E.tPRd),
   (oQ 6 (.call { callee:=.value (.func E.rI16),args:=#[(.tmp 5)],argTypes:=#[E.tPRd] }) E.tI16),
   (oQ 3 (.assign (.tmp 6)) E.tI16)]),
  (sq [(rg [(oQ 7 (.move (.tmp 3)) E.tI16),
    (oQ 8 (.binOp .lss E.tI16 (.tmp 7) (.const (.int .i16 0)) E.tI16) E.tO)]),
   (.cond (.tmp 8)
    (sq [(rg [(oQ 2 (.assign (.const (.pointer none))) E.tPStr)]),
     .ret])
    .skip)]),
  (rg [(oQ 9 (.move (.tmp 0)) E.tPRd),
   (oQ 10 (.move (.tmp 3)) E.tI16),
   (oQ 11 (.convert E.tI16 E.tI (.tmp 10)) E.tI),
   (oQ 12 (.call { callee:=.value (.func E.rSpan),args:=#[(.tmp 9),(.tmp 11)],argTypes:=#[E.tPRd,E.tI] }) E.tB),
   (oQ 13 (.convert E.tB E.tStr (.tmp 12)) E.tStr),
   (oQ 4 (.alloc E.tStr) 0),
   ⟨none,.store E.tStr (.tmp 4) (.tmp 13),0,"",#[],none⟩]),
  (rg [(oQ 2 (.assign (.tmp 4)) E.tPStr)]),
  .ret])
def c_rCNStr (E:Env):Code :=
 (sq [(rg [(oQ 2 (.assign (.const (.pointer none))) E.tPStr)]),
  (rg [(oQ 5 (.move (.tmp 0)) E.tPRd),
   (oQ 6 (.call { callee:=.value (.func E.rUvar),args:=#[(.tmp 5)],argTypes:=#[E.tPRd] }) E.tW),
   (oQ 7 (.convert E.tW E.tI (.tmp 6)) E.tI),
   (oQ 8 (.binOp .sub E.tI (.tmp 7) (.const (.int .i64 1)) E.tI) E.tI),
   (oQ 3 (.assign (.tmp 8)) E.tI)]),
  (sq [(rg [(oQ 9 (.move (.tmp 3)) E.tI),
    (oQ 10 (.binOp .lss E.tI (.tmp 9) (.const (.int .i64 0)) E.tI) E.tO)]),
   (.cond (.tmp 10)
    (sq [(rg [(oQ 2 (.assign (.const (.pointer none))) E.tPStr)]),
     .ret])
    .skip)]),
  (rg [(oQ 11 (.move (.tmp 0)) E.tPRd),
   (oQ 12 (.move (.tmp 3)) E.tI),
   (oQ 13 (.call { callee:=.value (.func E.rSpan),args:=#[(.tmp 11),(.tmp 12)],argTypes:=#[E.tPRd,E.tI] }) E.tB),
   (oQ 14 (.convert E.tB E.tStr (.tmp 13)) E.tStr),
   (oQ 4 (.alloc E.tStr) 0),
   ⟨none,.store E.tStr (.tmp 4) (.tmp 14),0,"",#[],none⟩]),
  (rg [(oQ 2 (.assign (.tmp 4)) E.tPStr)]),
  .ret])
def c_rBytes (E:Env):Code :=
 (sq [(rg [(oQ 2 (.assign (.const (.slice none 0 0))) E.tB)]),
  (rg [(oQ 4 (.move (.tmp 0)) E.tPRd),
   (oQ 5 (.call { callee:=.value (.func E.rI32),args:=#[(.tmp 4)],argTypes:=#[E.tPRd] }) E.tI32),
   (oQ 3 (.assign (.tmp 5)) E.tI32)]),
  (sq [(rg [(oQ 6 (.move (.tmp 3)) E.tI32),
    (oQ 7 (.binOp .eql E.tI32 (.tmp 6) (.const (.int .i32 (-1))) E.tI32) E.tO)]),
   (.cond (.tmp 7)
    (sq [(rg [(oQ 8 (.buildSlice E.tB 0 #[]) E.tB),
      (oQ 2 (.assign (.tmp 8)) E.tB)]),
     .ret])
    .skip)]),
  (rg [(oQ 9 (.move (.tmp 0)) E.tPRd),
   (oQ 10 (.move (.tmp 3)) E.tI32),
   (oQ 11 (.convert E.tI32 E.tI (.tmp 10)) E.tI),
   (oQ 12 (.call { callee:=.value (.func E.rSpan),args:=#[(.tmp 9),(.tmp 11)],argTypes:=#[E.tPRd,E.tI] }) E.tB),
   (oQ 2 (.assign (.tmp 12)) E.tB)]),
  .ret])
def c_rCBytes (E:Env):Code :=
 (sq [(rg [(oQ 2 (.assign (.const (.slice none 0 0))) E.tB)]),
  (rg [(oQ 4 (.move (.tmp 0)) E.tPRd),
   (oQ 5 (.call { callee:=.value (.func E.rUvar),args:=#[(.tmp 4)],argTypes:=#[E.tPRd] }) E.tW),
   (oQ 6 (.convert E.tW E.tI (.tmp 5)) E.tI),
   (oQ 7 (.binOp .sub E.tI (.tmp 6) (.const (.int .i64 1)) E.tI) E.tI),
   (oQ 3 (.assign (.tmp 7)) E.tI)]),
  (sq [(rg [(oQ 8 (.move (.tmp 3)) E.tI),
    (oQ 9 (.binOp .eql E.tI (.tmp 8) (.const (.int .i64 (-1))) E.tI) E.tO)]),
   (.cond (.tmp 9)
    (sq [(rg [(oQ 10 (.buildSlice E.tB 0 #[]) E.tB),
      (oQ 2 (.assign (.tmp 10)) E.tB)]),
     .ret])
    .skip)]),
  (rg [(oQ 11 (.move (.tmp 0)) E.tPRd),
   (oQ 12 (.move (.tmp 3)) E.tI),
   (oQ 13 (.call { callee:=.value (.func E.rSpan),args:=#[(.tmp 11),(.tmp 12)],argTypes:=#[E.tPRd,E.tI] }) E.tB),
   (oQ 2 (.assign (.tmp 13)) E.tB)]),
  .ret])
def c_rNBytes (E:Env):Code :=
 (sq [(rg [(oQ 2 (.assign (.const (.slice none 0 0))) E.tB)]),
  (rg [(oQ 5 (.move (.tmp 0)) E.tPRd),
   (oQ 6 (.call { callee:=.value (.func E.rI32),args:=#[(.tmp 5)],argTypes:=#[E.tPRd] }) E.tI32),
   (oQ 3 (.assign (.tmp 6)) E.tI32)]),
  (sq [(rg [(oQ 7 (.move (.tmp 3)) E.tI32),
    (oQ 8 (.binOp .lss E.tI32 (.tmp 7) (.const (.int .i32 0)) E.tI32) E.tO)]),
   (.cond (.tmp 8)
    (sq [(rg [(oQ 2 (.assign (.const (.slice none 0 0))) E.tB)]),
     .ret])
    .skip)]),
  (rg [(oQ 9 (.move (.tmp 0)) E.tPRd),
   (oQ 10 (.move (.tmp 3)) E.tI32),
   (oQ 11 (.convert E.tI32 E.tI (.tmp 10)) E.tI),
   (oQ 12 (.call { callee:=.value (.func E.rSpan),args:=#[(.tmp 9),(.tmp 11)],argTypes:=#[E.tPRd,E.tI] }) E.tB),
   (oQ 4 (.assign (.tmp 12)) E.tB)]),
  (rg [(oQ 13 (.move (.tmp 4)) E.tB),
   (oQ 2 (.assign (.tmp 13)) E.tB)]),
  .ret])
def wl (E:Env):Code :=
 (sq [(rg [(oQ 2 (.assign (.const (.slice none 0 0))) E.tB)]),
  (rg [(oQ 5 (.move (.tmp 0)) E.tPRd),
   (oQ 6 (.call { callee:=.value (.func E.rUvar),args:=#[(.tmp 5)],argTypes:=#[E.tPRd] }) E.tW),
   (oQ 7 (.convert E.tW E.tI (.tmp 6)) E.tI),
   (oQ 8 (.binOp .sub E.tI (.tmp 7) (.const (.int .i64 1)) E.tI) E.tI),
   (oQ 3 (.assign (.tmp 8)) E.tI)]),
  (sq [(rg [(oQ 9 (.move (.tmp 3)) E.tI),
    (oQ 10 (.binOp .lss E.tI (.tmp 9) (.const (.int .i64 0)) E.tI) E.tO)]),
   (.cond (.tmp 10)
    (sq [(rg [(oQ 2 (.assign (.const (.slice none 0 0))) E.tB)]),
     .ret])
    .skip)]),
  (rg [(oQ 11 (.move (.tmp 0)) E.tPRd),
   (oQ 12 (.move (.tmp 3)) E.tI),
   (oQ 13 (.call { callee:=.value (.func E.rSpan),args:=#[(.tmp 11),(.tmp 12)],argTypes:=#[E.tPRd,E.tI] }) E.tB),
   (oQ 4 (.assign (.tmp 13)) E.tB)]),
  (rg [(oQ 14 (.move (.tmp 4)) E.tB),
   (oQ 2 (.assign (.tmp 14)) E.tB)]),
  .ret])
def c_rLen (E:Env):Code :=
 (sq [(rg [(oQ 2 (.assign (.const (.int .i32 0))) E.tI32)]),
  (rg [(oQ 4 (.move (.tmp 0)) E.tPRd),
   (oQ 5 (.call { callee:=.value (.func E.rI32),args:=#[(.tmp 4)],argTypes:=#[E.tPRd] }) E.tI32),
   (oQ 3 (.assign (.tmp 5)) E.tI32)]),
  (sq [(rg [(oQ 6 (.move (.tmp 0)) E.tPRd),
    (oQ 7 (.nilCheck (.tmp 6)) 0),
    (oQ 8 (.fieldAddr E.tRd (.tmp 7) 0) 0),
    (oQ 9 (.load E.tB (.tmp 8)) E.tB),
    (oQ 10 (.call { callee:=.builtin .len,args:=#[(.tmp 9)],argTypes:=#[E.tB] }) E.tI),
    (oQ 11 (.move (.tmp 3)) E.tI32),
    (oQ 12 (.convert E.tI32 E.tI (.tmp 11)) E.tI),
    (oQ 13 (.binOp .lss E.tI (.tmp 10) (.tmp 12) E.tI) E.tO)]),
   (.cond (.tmp 13)
    (sq [(rg [(oQ 14 (.move (.tmp 0)) E.tPRd),
      (oQ 15 (.nilCheck (.tmp 14)) 0),
      (oQ 16 (.fieldAddr E.tRd (.tmp 15) 1) 0),
      ⟨none,.store E.tO (.tmp 16) (.const (.bool true)),0,"",#[],none⟩]),
     (rg [(oQ 17 (.move (.tmp 0)) E.tPRd),
      (oQ 18 (.nilCheck (.tmp 17)) 0),
      (oQ 19 (.fieldAddr E.tRd (.tmp 18) 0) 0),
      ⟨none,.store E.tB (.tmp 19) (.const (.slice none 0 0)),0,"",#[],none⟩]),
     (rg [(oQ 2 (.assign (.const (.int .i32 0))) E.tI32)]),
     .ret])
    .skip)]),
  (rg [(oQ 20 (.move (.tmp 3)) E.tI32),
   (oQ 2 (.assign (.tmp 20)) E.tI32)]),
  .ret])
def c_rCLen (E:Env):Code :=
 (sq [(rg [(oQ 2 (.assign (.const (.int .i32 0))) E.tI32)]),
  (rg [(oQ 4 (.move (.tmp 0)) E.tPRd),
   (oQ 5 (.call { callee:=.value (.func E.rUvar),args:=#[(.tmp 4)],argTypes:=#[E.tPRd] }) E.tW),
   (oQ 6 (.convert E.tW E.tI32 (.tmp 5)) E.tI32),
   (oQ 7 (.binOp .sub E.tI32 (.tmp 6) (.const (.int .i32 1)) E.tI32) E.tI32),
   (oQ 3 (.assign (.tmp 7)) E.tI32)]),
  (sq [(rg [(oQ 8 (.move (.tmp 0)) E.tPRd),
    (oQ 9 (.nilCheck (.tmp 8)) 0),
    (oQ 10 (.fieldAddr E.tRd (.tmp 9) 0) 0),
    (oQ 11 (.load E.tB (.tmp 10)) E.tB),
    (oQ 12 (.call { callee:=.builtin .len,args:=#[(.tmp 11)],argTypes:=#[E.tB] }) E.tI),
    (oQ 13 (.move (.tmp 3)) E.tI32),
    (oQ 14 (.convert E.tI32 E.tI (.tmp 13)) E.tI),
    (oQ 15 (.binOp .lss E.tI (.tmp 12) (.tmp 14) E.tI) E.tO)]),
   (.cond (.tmp 15)
    (sq [(rg [(oQ 16 (.move (.tmp 0)) E.tPRd),
      (oQ 17 (.nilCheck (.tmp 16)) 0),
      (oQ 18 (.fieldAddr E.tRd (.tmp 17) 1) 0),
      ⟨none,.store E.tO (.tmp 18) (.const (.bool true)),0,"",#[],none⟩]),
     (rg [(oQ 19 (.move (.tmp 0)) E.tPRd),
      (oQ 20 (.nilCheck (.tmp 19)) 0),
      (oQ 21 (.fieldAddr E.tRd (.tmp 20) 0) 0),
      ⟨none,.store E.tB (.tmp 21) (.const (.slice none 0 0)),0,"",#[],none⟩]),
     (rg [(oQ 2 (.assign (.const (.int .i32 0))) E.tI32)]),
     .ret])
    .skip)]),
  (rg [(oQ 22 (.move (.tmp 3)) E.tI32),
   (oQ 2 (.assign (.tmp 22)) E.tI32)]),
  .ret])
def c_rOk (E:Env):Code :=
 (sq [(rg [(oQ 2 (.assign (.const (.bool false))) E.tO)]),
  (rg [(oQ 3 (.move (.tmp 0)) E.tPRd),
   (oQ 4 (.nilCheck (.tmp 3)) 0),
   (oQ 5 (.fieldAddr E.tRd (.tmp 4) 1) 0),
   (oQ 6 (.load E.tO (.tmp 5)) E.tO),
   (oQ 7 (.unOp .not E.tO (.tmp 6)) E.tO),
   (oQ 2 (.assign (.tmp 7)) E.tO)]),
  .ret])
def yV (E:Env):Code :=
 (sq [(rg [(oQ 2 (.assign (.const .nilIface)) E.tErr)]),
  (sq [(rg [(oQ 3 (.move (.tmp 0)) E.tPRd),
    (oQ 4 (.nilCheck (.tmp 3)) 0),
    (oQ 5 (.fieldAddr E.tRd (.tmp 4) 1) 0),
    (oQ 6 (.load E.tO (.tmp 5)) E.tO)]),
   (.cond (.tmp 6)
    (sq [(rg [(oQ 7 (.load E.tErr (.global E.vErr)) E.tErr),
      (oQ 2 (.assign (.tmp 7)) E.tErr)]),
     .ret])
    .skip)]),
  (rg [(oQ 2 (.assign (.const .nilIface)) E.tErr)]),
  .ret])
def c_rTags (E:Env):Code :=
 (sq [(rg [(oQ 2 (.alloc E.tTags) 0)]),
  (rg [(oQ 3 (.alloc E.tTags) 0)]),
  (sq [(rg [(oQ 7 (.move (.tmp 0)) E.tPRd),
    (oQ 8 (.call { callee:=.value (.func E.rUvar),args:=#[(.tmp 7)],argTypes:=#[E.tPRd] }) E.tW),
    (oQ 4 (.assign (.tmp 8)) E.tW)]),
   (.block 0 (.loop (sq [(sq [(rg [(oQ 9 (.move (.tmp 4)) E.tW),
        (oQ 10 (.binOp .gtr E.tW (.tmp 9) (.const (.int .u32 0)) E.tW) E.tO)]),
       (.cond (.tmp 10)
        .skip
        (.exit 0))]),
      (.block 1 (sq [(rg [(oQ 13 (.move (.tmp 0)) E.tPRd),
         (oQ 14 (.call { callee:=.value (.func E.rUvar),args:=#[(.tmp 13)],argTypes:=#[E.tPRd] }) E.tW),
         (oQ 15 (.move (.tmp 0)) E.tPRd),
         (oQ 16 (.call { callee:=.value (.func E.rUvar),args:=#[(.tmp 15)],argTypes:=#[E.tPRd] }) E.tW),
         (oQ 5 (.assign (.tmp 14)) E.tW),
         (oQ 6 (.assign (.tmp 16)) E.tW)]),
        (rg [(oQ 17 (.move (.tmp 5)) E.tW),
         (oQ 18 (.move (.tmp 0)) E.tPRd),
         (oQ 19 (.move (.tmp 6)) E.tW),
         (oQ 20 (.convert E.tW E.tI (.tmp 19)) E.tI),
         (oQ 21 (.call { callee:=.value (.func E.rSpan),args:=#[(.tmp 18),(.tmp 20)],argTypes:=#[E.tPRd,E.tI] }) E.tB),
         (oQ 22 (.call { callee:=.value (.func E.gSet),args:=#[(.tmp 3),(.tmp 17),(.tmp 21)],argTypes:=#[E.tTags,E.tW,E.tB] }) 0)])])),
      (rg [(oQ 11 (.move (.tmp 4)) E.tW),
       (oQ 12 (.binOp .sub E.tW (.tmp 11) (.const (.int .u32 1)) E.tW) E.tW),
       (oQ 4 (.assign (.tmp 12)) E.tW)])])))]),
  (rg [(oQ 23 (.load E.tTags (.tmp 3)) E.tTags),
   ⟨none,.store E.tTags (.tmp 2) (.tmp 23),0,"",#[],none⟩]),
  .ret])
def c_rUvar (E:Env):Code :=
 (sq [(rg [(oQ 2 (.assign (.const (.int .u32 0))) E.tW)]),
  (rg [(oQ 6 (.move (.tmp 0)) E.tPRd),
   (oQ 7 (.nilCheck (.tmp 6)) 0),
   (oQ 8 (.fieldAddr E.tRd (.tmp 7) 0) 0),
   (oQ 9 (.load E.tB (.tmp 8)) E.tB),
   (oQ 10 (.call { callee:=.value (.func E.kUv),args:=#[(.tmp 9)],argTypes:=#[E.tB] }) E.tUvR),
   (oQ 5 (.move (.tmp 10)) E.tUvR),
   (oQ 11 (.extract (.tmp 5) 0) E.tW),
   (oQ 12 (.extract (.tmp 5) 1) E.tI),
   (oQ 3 (.assign (.tmp 11)) E.tW),
   (oQ 4 (.assign (.tmp 12)) E.tI)]),
  (sq [(rg [(oQ 13 (.move (.tmp 4)) E.tI),
    (oQ 14 (.binOp .leq E.tI (.tmp 13) (.const (.int .i64 0)) E.tI) E.tO)]),
   (.cond (.tmp 14)
    (sq [(rg [(oQ 15 (.move (.tmp 0)) E.tPRd),
      (oQ 16 (.nilCheck (.tmp 15)) 0),
      (oQ 17 (.fieldAddr E.tRd (.tmp 16) 1) 0),
      ⟨none,.store E.tO (.tmp 17) (.const (.bool true)),0,"",#[],none⟩]),
     (rg [(oQ 18 (.move (.tmp 0)) E.tPRd),
      (oQ 19 (.nilCheck (.tmp 18)) 0),
      (oQ 20 (.fieldAddr E.tRd (.tmp 19) 0) 0),
      ⟨none,.store E.tB (.tmp 20) (.const (.slice none 0 0)),0,"",#[],none⟩]),
     (rg [(oQ 2 (.assign (.const (.int .u32 0))) E.tW)]),
     .ret])
    .skip)]),
  (rg [(oQ 21 (.move (.tmp 0)) E.tPRd),
   (oQ 22 (.move (.tmp 0)) E.tPRd),
   (oQ 23 (.nilCheck (.tmp 22)) 0),
   (oQ 24 (.fieldAddr E.tRd (.tmp 23) 0) 0),
   (oQ 25 (.load E.tB (.tmp 24)) E.tB),
   (oQ 26 (.move (.tmp 4)) E.tI),
   (oQ 27 (.slice E.tB (.tmp 25) (some (.tmp 26)) none none) E.tB),
   (oQ 28 (.nilCheck (.tmp 21)) 0),
   (oQ 29 (.fieldAddr E.tRd (.tmp 28) 0) 0),
   ⟨none,.store E.tB (.tmp 29) (.tmp 27),0,"",#[],none⟩]),
  (rg [(oQ 30 (.move (.tmp 3)) E.tW),
   (oQ 2 (.assign (.tmp 30)) E.tW)]),
  .ret])
def c_rSpan (E:Env):Code :=
 (sq [(rg [(oQ 4 (.assign (.const (.slice none 0 0))) E.tB)]),
  (sq [(rg [(oQ 6 (.move (.tmp 0)) E.tPRd),
    (oQ 7 (.nilCheck (.tmp 6)) 0),
    (oQ 8 (.fieldAddr E.tRd (.tmp 7) 0) 0),
    (oQ 9 (.load E.tB (.tmp 8)) E.tB),
    (oQ 10 (.call { callee:=.builtin .len,args:=#[(.tmp 9)],argTypes:=#[E.tB] }) E.tI),
    (oQ 11 (.move (.tmp 1)) E.tI),
    (oQ 12 (.binOp .lss E.tI (.tmp 10) (.tmp 11) E.tI) E.tO),
    (oQ 13 (.move (.tmp 12)) E.tO),
    ⟨some 14,.move (.tmp 1),E.tI,"",#[],some (7,false)⟩,
    ⟨some 15,.binOp .lss E.tI (.tmp 14) (.const (.int .i64 0)) E.tI,E.tO,"",#[],some (7,false)⟩,
    (oQ 16 (.pick (.tmp 13) (.const (.bool true)) (.tmp 15)) E.tO)]),
   (.cond (.tmp 16)
    (sq [(rg [(oQ 17 (.move (.tmp 0)) E.tPRd),
      (oQ 18 (.nilCheck (.tmp 17)) 0),
      (oQ 19 (.fieldAddr E.tRd (.tmp 18) 1) 0),
      ⟨none,.store E.tO (.tmp 19) (.const (.bool true)),0,"",#[],none⟩]),
     (rg [(oQ 20 (.move (.tmp 0)) E.tPRd),
      (oQ 21 (.nilCheck (.tmp 20)) 0),
      (oQ 22 (.fieldAddr E.tRd (.tmp 21) 0) 0),
      ⟨none,.store E.tB (.tmp 22) (.const (.slice none 0 0)),0,"",#[],none⟩]),
     (rg [(oQ 4 (.assign (.const (.slice none 0 0))) E.tB)]),
     .ret])
    .skip)]),
  (rg [(oQ 23 (.move (.tmp 0)) E.tPRd),
   (oQ 24 (.nilCheck (.tmp 23)) 0),
   (oQ 25 (.fieldAddr E.tRd (.tmp 24) 0) 0),
   (oQ 26 (.load E.tB (.tmp 25)) E.tB),
   (oQ 27 (.move (.tmp 1)) E.tI),
   (oQ 28 (.move (.tmp 1)) E.tI),
   (oQ 29 (.slice E.tB (.tmp 26) none (some (.tmp 27)) (some (.tmp 28))) E.tB),
   (oQ 5 (.assign (.tmp 29)) E.tB)]),
  (rg [(oQ 30 (.move (.tmp 0)) E.tPRd),
   (oQ 31 (.move (.tmp 0)) E.tPRd),
   (oQ 32 (.nilCheck (.tmp 31)) 0),
   (oQ 33 (.fieldAddr E.tRd (.tmp 32) 0) 0),
   (oQ 34 (.load E.tB (.tmp 33)) E.tB),
   (oQ 35 (.move (.tmp 1)) E.tI),
   (oQ 36 (.slice E.tB (.tmp 34) (some (.tmp 35)) none none) E.tB),
   (oQ 37 (.nilCheck (.tmp 30)) 0),
   (oQ 38 (.fieldAddr E.tRd (.tmp 37) 0) 0),
   ⟨none,.store E.tB (.tmp 38) (.tmp 36),0,"",#[],none⟩]),
  (rg [(oQ 39 (.move (.tmp 5)) E.tB),
   (oQ 4 (.assign (.tmp 39)) E.tB)]),
  .ret])
def c_rU64 (E:Env):Code :=
 (sq [(rg [(oQ 2 (.assign (.const (.int .u64 0))) E.tU64)]),
  (sq [(rg [(oQ 4 (.move (.tmp 0)) E.tPRd),
    (oQ 5 (.nilCheck (.tmp 4)) 0),
    (oQ 6 (.fieldAddr E.tRd (.tmp 5) 0) 0),
    (oQ 7 (.load E.tB (.tmp 6)) E.tB),
    (oQ 8 (.call { callee:=.builtin .len,args:=#[(.tmp 7)],argTypes:=#[E.tB] }) E.tI),
    (oQ 9 (.binOp .lss E.tI (.tmp 8) (.const (.int .i64 8)) E.tI) E.tO)]),
   (.cond (.tmp 9)
    (sq [(rg [(oQ 10 (.move (.tmp 0)) E.tPRd),
      (oQ 11 (.nilCheck (.tmp 10)) 0),
      (oQ 12 (.fieldAddr E.tRd (.tmp 11) 1) 0),
      ⟨none,.store E.tO (.tmp 12) (.const (.bool true)),0,"",#[],none⟩]),
     (rg [(oQ 13 (.move (.tmp 0)) E.tPRd),
      (oQ 14 (.nilCheck (.tmp 13)) 0),
      (oQ 15 (.fieldAddr E.tRd (.tmp 14) 0) 0),
      ⟨none,.store E.tB (.tmp 15) (.const (.slice none 0 0)),0,"",#[],none⟩]),
     (rg [(oQ 2 (.assign (.const (.int .u64 0))) E.tU64)]),
     .ret])
    .skip)]),
  (rgd [(oQ 16 (.load E.tBE (.global E.vBE)) E.tBE),
   (oQ 17 (.move (.tmp 0)) E.tPRd),
   ⟨some 18,.nilCheck (.tmp 17),0,"",#[⟨1,.data⟩],none⟩,
   ⟨some 19,.fieldAddr E.tRd (.tmp 18) 0,0,"",#[⟨2,.data⟩],none⟩,
   ⟨some 20,.load E.tB (.tmp 19),E.tB,"",#[⟨3,.data⟩],none⟩,
   ⟨some 21,.call { callee:=.value (.func E.bU64),args:=#[(.tmp 16),(.tmp 20)],argTypes:=#[E.tBE,E.tB] },E.tU64,"",#[⟨0,.data⟩,⟨4,.data⟩],none⟩,
   ⟨some 3,.assign (.tmp 21),E.tU64,"",#[⟨5,.data⟩,⟨5,.chain⟩,⟨0,.phase⟩,⟨1,.phase⟩,⟨2,.phase⟩,⟨3,.phase⟩,⟨4,.phase⟩,⟨5,.phase⟩],none⟩]),
  (rg [(oQ 22 (.move (.tmp 0)) E.tPRd),
   (oQ 23 (.move (.tmp 0)) E.tPRd),
   (oQ 24 (.nilCheck (.tmp 23)) 0),
   (oQ 25 (.fieldAddr E.tRd (.tmp 24) 0) 0),
   (oQ 26 (.load E.tB (.tmp 25)) E.tB),
   (oQ 27 (.slice E.tB (.tmp 26) (some (.const (.int .i64 8))) none none) E.tB),
   (oQ 28 (.nilCheck (.tmp 22)) 0),
   (oQ 29 (.fieldAddr E.tRd (.tmp 28) 0) 0),
   ⟨none,.store E.tB (.tmp 29) (.tmp 27),0,"",#[],none⟩]),
  (rg [(oQ 30 (.move (.tmp 3)) E.tU64),
   (oQ 2 (.assign (.tmp 30)) E.tU64)]),
  .ret])
def c_kUv (E : Env) : Code :=
  (sq [(rg [(oQ 2 (.assign (.const (.int .u32 0))) E.tW),
      (oQ 3 (.assign (.const (.int .i64 0))) E.tI)]),
    (.scope (sq [(rg [(oQ 4 (.assign (.const (.int .u32 0))) E.tW)]),
        (rg [(oQ 5 (.assign (.const (.int .i64 0))) E.tI)]),
        (sq [(rg [(oQ 6 (.move (.tmp 0)) E.tB),
            (oQ 7 (.call { callee := .builtin .len, args := #[(.tmp 6)], argTypes := #[E.tB] }) E.tI),
            (oQ 8 (.binOp .lss E.tI (.tmp 7) (.const (.int .i64 1)) E.tI) E.tO)]),
          (.cond (.tmp 8)
            (.goto 0)
            .skip)]),
        (rg [(oQ 9 (.move (.tmp 0)) E.tB),
          (oQ 10 (.indexAddr E.tB (.tmp 9) (.const (.int .i64 0))) 0),
          (oQ 11 (.load E.tU8 (.tmp 10)) E.tU8),
          (oQ 12 (.binOp .and E.tU8 (.tmp 11) (.const (.int .u8 127)) E.tU8) E.tU8),
          (oQ 13 (.convert E.tU8 E.tW (.tmp 12)) E.tW),
          (oQ 4 (.assign (.tmp 13)) E.tW)]),
        (sq [(rg [(oQ 14 (.move (.tmp 0)) E.tB),
            (oQ 15 (.indexAddr E.tB (.tmp 14) (.const (.int .i64 0))) 0),
            (oQ 16 (.load E.tU8 (.tmp 15)) E.tU8),
            (oQ 17 (.binOp .and E.tU8 (.tmp 16) (.const (.int .u8 128)) E.tU8) E.tU8),
            (oQ 18 (.binOp .eql E.tU8 (.tmp 17) (.const (.int .u8 0)) E.tU8) E.tO)]),
          (.cond (.tmp 18)
            (sq [(rg [(oQ 19 (.move (.tmp 4)) E.tW),
                (oQ 2 (.assign (.tmp 19)) E.tW),
                (oQ 3 (.assign (.const (.int .i64 1))) E.tI)]),
              .ret])
            (sq [(rg [(oQ 20 (.move (.tmp 0)) E.tB),
                (oQ 21 (.call { callee := .builtin .len, args := #[(.tmp 20)], argTypes := #[E.tB] }) E.tI),
                (oQ 22 (.binOp .lss E.tI (.tmp 21) (.const (.int .i64 2)) E.tI) E.tO)]),
              (.cond (.tmp 22)
                (.goto 0)
                .skip)]))]),
        (rg [(oQ 23 (.move (.tmp 4)) E.tW),
          (oQ 24 (.move (.tmp 0)) E.tB),
          (oQ 25 (.indexAddr E.tB (.tmp 24) (.const (.int .i64 1))) 0),
          (oQ 26 (.load E.tU8 (.tmp 25)) E.tU8),
          (oQ 27 (.binOp .and E.tU8 (.tmp 26) (.const (.int .u8 127)) E.tU8) E.tU8),
          (oQ 28 (.convert E.tU8 E.tW (.tmp 27)) E.tW),
          (oQ 29 (.binOp .shl E.tW (.tmp 28) (.const (.int .u64 7)) E.tUint) E.tW),
          (oQ 30 (.binOp .or E.tW (.tmp 23) (.tmp 29) E.tW) E.tW),
          (oQ 4 (.assign (.tmp 30)) E.tW)]),
        (sq [(rg [(oQ 31 (.move (.tmp 0)) E.tB),
            (oQ 32 (.indexAddr E.tB (.tmp 31) (.const (.int .i64 1))) 0),
            (oQ 33 (.load E.tU8 (.tmp 32)) E.tU8),
            (oQ 34 (.binOp .and E.tU8 (.tmp 33) (.const (.int .u8 128)) E.tU8) E.tU8),
            (oQ 35 (.binOp .eql E.tU8 (.tmp 34) (.const (.int .u8 0)) E.tU8) E.tO)]),
          (.cond (.tmp 35)
            (sq [(rg [(oQ 36 (.move (.tmp 4)) E.tW),
                (oQ 2 (.assign (.tmp 36)) E.tW),
                (oQ 3 (.assign (.const (.int .i64 2))) E.tI)]),
              .ret])
            (sq [(rg [(oQ 37 (.move (.tmp 0)) E.tB),
                (oQ 38 (.call { callee := .builtin .len, args := #[(.tmp 37)], argTypes := #[E.tB] }) E.tI),
                (oQ 39 (.binOp .lss E.tI (.tmp 38) (.const (.int .i64 3)) E.tI) E.tO)]),
              (.cond (.tmp 39)
                (.goto 0)
                .skip)]))]),
        (rg [(oQ 40 (.move (.tmp 4)) E.tW),
          (oQ 41 (.move (.tmp 0)) E.tB),
          (oQ 42 (.indexAddr E.tB (.tmp 41) (.const (.int .i64 2))) 0),
          (oQ 43 (.load E.tU8 (.tmp 42)) E.tU8),
          (oQ 44 (.binOp .and E.tU8 (.tmp 43) (.const (.int .u8 127)) E.tU8) E.tU8),
          (oQ 45 (.convert E.tU8 E.tW (.tmp 44)) E.tW),
          (oQ 46 (.binOp .shl E.tW (.tmp 45) (.const (.int .u64 14)) E.tUint) E.tW),
          (oQ 47 (.binOp .or E.tW (.tmp 40) (.tmp 46) E.tW) E.tW),
          (oQ 4 (.assign (.tmp 47)) E.tW)]),
        (sq [(rg [(oQ 48 (.move (.tmp 0)) E.tB),
            (oQ 49 (.indexAddr E.tB (.tmp 48) (.const (.int .i64 2))) 0),
            (oQ 50 (.load E.tU8 (.tmp 49)) E.tU8),
            (oQ 51 (.binOp .and E.tU8 (.tmp 50) (.const (.int .u8 128)) E.tU8) E.tU8),
            (oQ 52 (.binOp .eql E.tU8 (.tmp 51) (.const (.int .u8 0)) E.tU8) E.tO)]),
          (.cond (.tmp 52)
            (sq [(rg [(oQ 53 (.move (.tmp 4)) E.tW),
                (oQ 2 (.assign (.tmp 53)) E.tW),
                (oQ 3 (.assign (.const (.int .i64 3))) E.tI)]),
              .ret])
            (sq [(rg [(oQ 54 (.move (.tmp 0)) E.tB),
                (oQ 55 (.call { callee := .builtin .len, args := #[(.tmp 54)], argTypes := #[E.tB] }) E.tI),
                (oQ 56 (.binOp .lss E.tI (.tmp 55) (.const (.int .i64 4)) E.tI) E.tO)]),
              (.cond (.tmp 56)
                (.goto 0)
                .skip)]))]),
        (rg [(oQ 57 (.move (.tmp 4)) E.tW),
          (oQ 58 (.move (.tmp 0)) E.tB),
          (oQ 59 (.indexAddr E.tB (.tmp 58) (.const (.int .i64 3))) 0),
          (oQ 60 (.load E.tU8 (.tmp 59)) E.tU8),
          (oQ 61 (.binOp .and E.tU8 (.tmp 60) (.const (.int .u8 127)) E.tU8) E.tU8),
          (oQ 62 (.convert E.tU8 E.tW (.tmp 61)) E.tW),
          (oQ 63 (.binOp .shl E.tW (.tmp 62) (.const (.int .u64 21)) E.tUint) E.tW),
          (oQ 64 (.binOp .or E.tW (.tmp 57) (.tmp 63) E.tW) E.tW),
          (oQ 4 (.assign (.tmp 64)) E.tW)]),
        (sq [(rg [(oQ 65 (.move (.tmp 0)) E.tB),
            (oQ 66 (.indexAddr E.tB (.tmp 65) (.const (.int .i64 3))) 0),
            (oQ 67 (.load E.tU8 (.tmp 66)) E.tU8),
            (oQ 68 (.binOp .and E.tU8 (.tmp 67) (.const (.int .u8 128)) E.tU8) E.tU8),
            (oQ 69 (.binOp .eql E.tU8 (.tmp 68) (.const (.int .u8 0)) E.tU8) E.tO)]),
          (.cond (.tmp 69)
            (sq [(rg [(oQ 70 (.move (.tmp 4)) E.tW),
                (oQ 2 (.assign (.tmp 70)) E.tW),
                (oQ 3 (.assign (.const (.int .i64 4))) E.tI)]),
              .ret])
            (sq [(rg [(oQ 71 (.move (.tmp 0)) E.tB),
                (oQ 72 (.call { callee := .builtin .len, args := #[(.tmp 71)], argTypes := #[E.tB] }) E.tI),
                (oQ 73 (.binOp .lss E.tI (.tmp 72) (.const (.int .i64 5)) E.tI) E.tO)]),
              (.cond (.tmp 73)
                (.goto 0)
                .skip)]))]),
        (rg [(oQ 74 (.move (.tmp 4)) E.tW),
          (oQ 75 (.move (.tmp 0)) E.tB),
          (oQ 76 (.indexAddr E.tB (.tmp 75) (.const (.int .i64 4))) 0),
          (oQ 77 (.load E.tU8 (.tmp 76)) E.tU8),
          (oQ 78 (.convert E.tU8 E.tW (.tmp 77)) E.tW),
          (oQ 79 (.binOp .shl E.tW (.tmp 78) (.const (.int .u64 28)) E.tUint) E.tW),
          (oQ 80 (.binOp .or E.tW (.tmp 74) (.tmp 79) E.tW) E.tW),
          (oQ 4 (.assign (.tmp 80)) E.tW)]),
        (sq [(rg [(oQ 81 (.move (.tmp 0)) E.tB),
            (oQ 82 (.indexAddr E.tB (.tmp 81) (.const (.int .i64 4))) 0),
            (oQ 83 (.load E.tU8 (.tmp 82)) E.tU8),
            (oQ 84 (.binOp .leq E.tU8 (.tmp 83) (.const (.int .u8 15)) E.tU8) E.tO)]),
          (.cond (.tmp 84)
            (sq [(rg [(oQ 85 (.move (.tmp 4)) E.tW),
                (oQ 2 (.assign (.tmp 85)) E.tW),
                (oQ 3 (.assign (.const (.int .i64 5))) E.tI)]),
              .ret])
            .skip)]),
        (rg [(oQ 5 (.assign (.const (.int .i64 (-5)))) E.tI)]),
        (.label 0),
        (rg [(oQ 86 (.move (.tmp 5)) E.tI),
          (oQ 2 (.assign (.const (.int .u32 0))) E.tW),
          (oQ 3 (.assign (.tmp 86)) E.tI)]),
        .ret]))])
def c_bU16 (E:Env):Code :=
 (sq [(rg [(oQ 2 (.box E.tBE (.tmp 0)) 0),
   (oQ 4 (.assign (.const (.int .u16 0))) E.tU16)]),
  (rg [(oQ 5 (.move (.tmp 1)) E.tB),
   (oQ 6 (.indexAddr E.tB (.tmp 5) (.const (.int .i64 1))) 0),
   (oQ 7 (.load E.tU8 (.tmp 6)) E.tU8)]),
  (rgd [(oQ 8 (.move (.tmp 1)) E.tB),
   ⟨some 9,.indexAddr E.tB (.tmp 8) (.const (.int .i64 1)),0,"",#[⟨0,.data⟩],none⟩,
   ⟨some 10,.load E.tU8 (.tmp 9),E.tU8,"",#[⟨1,.data⟩],none⟩,
   ⟨some 11,.convert E.tU8 E.tU16 (.tmp 10),E.tU16,"",#[⟨2,.data⟩],none⟩,
   (oQ 12 (.move (.tmp 1)) E.tB),
   ⟨some 13,.indexAddr E.tB (.tmp 12) (.const (.int .i64 0)),0,"",#[⟨4,.data⟩],none⟩,
   ⟨some 14,.load E.tU8 (.tmp 13),E.tU8,"",#[⟨5,.data⟩],none⟩,
   ⟨some 15,.convert E.tU8 E.tU16 (.tmp 14),E.tU16,"",#[⟨6,.data⟩],none⟩,
   ⟨some 16,.binOp .shl E.tU16 (.tmp 15) (.const (.int .u64 8)) E.tUint,E.tU16,"",#[⟨7,.data⟩],none⟩,
   ⟨some 17,.binOp .or E.tU16 (.tmp 11) (.tmp 16) E.tU16,E.tU16,"",#[⟨3,.data⟩,⟨8,.data⟩],none⟩,
   ⟨some 4,.assign (.tmp 17),E.tU16,"",#[⟨9,.data⟩,⟨0,.phase⟩,⟨1,.phase⟩,⟨2,.phase⟩,⟨3,.phase⟩,⟨4,.phase⟩,⟨5,.phase⟩,⟨6,.phase⟩,⟨7,.phase⟩,⟨8,.phase⟩,⟨9,.phase⟩],none⟩]),
  .ret])
def c_bU32 (E:Env):Code :=
 (sq [(rg [(oQ 2 (.box E.tBE (.tmp 0)) 0),
   (oQ 4 (.assign (.const (.int .u32 0))) E.tW)]),
  (rg [(oQ 5 (.move (.tmp 1)) E.tB),
   (oQ 6 (.indexAddr E.tB (.tmp 5) (.const (.int .i64 3))) 0),
   (oQ 7 (.load E.tU8 (.tmp 6)) E.tU8)]),
  (rgd [(oQ 8 (.move (.tmp 1)) E.tB),
   ⟨some 9,.indexAddr E.tB (.tmp 8) (.const (.int .i64 3)),0,"",#[⟨0,.data⟩],none⟩,
   ⟨some 10,.load E.tU8 (.tmp 9),E.tU8,"",#[⟨1,.data⟩],none⟩,
   ⟨some 11,.convert E.tU8 E.tW (.tmp 10),E.tW,"",#[⟨2,.data⟩],none⟩,
   (oQ 12 (.move (.tmp 1)) E.tB),
   ⟨some 13,.indexAddr E.tB (.tmp 12) (.const (.int .i64 2)),0,"",#[⟨4,.data⟩],none⟩,
   ⟨some 14,.load E.tU8 (.tmp 13),E.tU8,"",#[⟨5,.data⟩],none⟩,
   ⟨some 15,.convert E.tU8 E.tW (.tmp 14),E.tW,"",#[⟨6,.data⟩],none⟩,
   ⟨some 16,.binOp .shl E.tW (.tmp 15) (.const (.int .u64 8)) E.tUint,E.tW,"",#[⟨7,.data⟩],none⟩,
   ⟨some 17,.binOp .or E.tW (.tmp 11) (.tmp 16) E.tW,E.tW,"",#[⟨3,.data⟩,⟨8,.data⟩],none⟩,
   (oQ 18 (.move (.tmp 1)) E.tB),
   ⟨some 19,.indexAddr E.tB (.tmp 18) (.const (.int .i64 1)),0,"",#[⟨10,.data⟩],none⟩,
   ⟨some 20,.load E.tU8 (.tmp 19),E.tU8,"",#[⟨11,.data⟩],none⟩,
   ⟨some 21,.convert E.tU8 E.tW (.tmp 20),E.tW,"",#[⟨12,.data⟩],none⟩,
   ⟨some 22,.binOp .shl E.tW (.tmp 21) (.const (.int .u64 16)) E.tUint,E.tW,"",#[⟨13,.data⟩],none⟩,
   ⟨some 23,.binOp .or E.tW (.tmp 17) (.tmp 22) E.tW,E.tW,"",#[⟨9,.data⟩,⟨14,.data⟩],none⟩,
   (oQ 24 (.move (.tmp 1)) E.tB),
   ⟨some 25,.indexAddr E.tB (.tmp 24) (.const (.int .i64 0)),0,"",#[⟨16,.data⟩],none⟩,
   ⟨some 26,.load E.tU8 (.tmp 25),E.tU8,"",#[⟨17,.data⟩],none⟩,
   ⟨some 27,.convert E.tU8 E.tW (.tmp 26),E.tW,"",#[⟨18,.data⟩],none⟩,
   ⟨some 28,.binOp .shl E.tW (.tmp 27) (.const (.int .u64 24)) E.tUint,E.tW,"",#[⟨19,.data⟩],none⟩,
   ⟨some 29,.binOp .or E.tW (.tmp 23) (.tmp 28) E.tW,E.tW,"",#[⟨15,.data⟩,⟨20,.data⟩],none⟩,
   ⟨some 4,.assign (.tmp 29),E.tW,"",#[⟨21,.data⟩,⟨0,.phase⟩,⟨1,.phase⟩,⟨2,.phase⟩,⟨3,.phase⟩,⟨4,.phase⟩,⟨5,.phase⟩,⟨6,.phase⟩,⟨7,.phase⟩,⟨8,.phase⟩,⟨9,.phase⟩,⟨10,.phase⟩,⟨11,.phase⟩,⟨12,.phase⟩,⟨13,.phase⟩,⟨14,.phase⟩,⟨15,.phase⟩,⟨16,.phase⟩,⟨17,.phase⟩,⟨18,.phase⟩,⟨19,.phase⟩,⟨20,.phase⟩,⟨21,.phase⟩],none⟩]),
  .ret])
def c_bU64 (E:Env):Code :=
 (sq [(rg [(oQ 2 (.box E.tBE (.tmp 0)) 0),
   (oQ 4 (.assign (.const (.int .u64 0))) E.tU64)]),
  (rg [(oQ 5 (.move (.tmp 1)) E.tB),
   (oQ 6 (.indexAddr E.tB (.tmp 5) (.const (.int .i64 7))) 0),
   (oQ 7 (.load E.tU8 (.tmp 6)) E.tU8)]),
  (rgd [(oQ 8 (.move (.tmp 1)) E.tB),
   ⟨some 9,.indexAddr E.tB (.tmp 8) (.const (.int .i64 7)),0,"",#[⟨0,.data⟩],none⟩,
   ⟨some 10,.load E.tU8 (.tmp 9),E.tU8,"",#[⟨1,.data⟩],none⟩,
   ⟨some 11,.convert E.tU8 E.tU64 (.tmp 10),E.tU64,"",#[⟨2,.data⟩],none⟩,
   (oQ 12 (.move (.tmp 1)) E.tB),
   ⟨some 13,.indexAddr E.tB (.tmp 12) (.const (.int .i64 6)),0,"",#[⟨4,.data⟩],none⟩,
   ⟨some 14,.load E.tU8 (.tmp 13),E.tU8,"",#[⟨5,.data⟩],none⟩,
   ⟨some 15,.convert E.tU8 E.tU64 (.tmp 14),E.tU64,"",#[⟨6,.data⟩],none⟩,
   ⟨some 16,.binOp .shl E.tU64 (.tmp 15) (.const (.int .u64 8)) E.tUint,E.tU64,"",#[⟨7,.data⟩],none⟩,
   ⟨some 17,.binOp .or E.tU64 (.tmp 11) (.tmp 16) E.tU64,E.tU64,"",#[⟨3,.data⟩,⟨8,.data⟩],none⟩,
   (oQ 18 (.move (.tmp 1)) E.tB),
   ⟨some 19,.indexAddr E.tB (.tmp 18) (.const (.int .i64 5)),0,"",#[⟨10,.data⟩],none⟩,
   ⟨some 20,.load E.tU8 (.tmp 19),E.tU8,"",#[⟨11,.data⟩],none⟩,
   ⟨some 21,.convert E.tU8 E.tU64 (.tmp 20),E.tU64,"",#[⟨12,.data⟩],none⟩,
   ⟨some 22,.binOp .shl E.tU64 (.tmp 21) (.const (.int .u64 16)) E.tUint,E.tU64,"",#[⟨13,.data⟩],none⟩,
   ⟨some 23,.binOp .or E.tU64 (.tmp 17) (.tmp 22) E.tU64,E.tU64,"",#[⟨9,.data⟩,⟨14,.data⟩],none⟩,
   (oQ 24 (.move (.tmp 1)) E.tB),
   ⟨some 25,.indexAddr E.tB (.tmp 24) (.const (.int .i64 4)),0,"",#[⟨16,.data⟩],none⟩,
   ⟨some 26,.load E.tU8 (.tmp 25),E.tU8,"",#[⟨17,.data⟩],none⟩,
   ⟨some 27,.convert E.tU8 E.tU64 (.tmp 26),E.tU64,"",#[⟨18,.data⟩],none⟩,
   ⟨some 28,.binOp .shl E.tU64 (.tmp 27) (.const (.int .u64 24)) E.tUint,E.tU64,"",#[⟨19,.data⟩],none⟩,
   ⟨some 29,.binOp .or E.tU64 (.tmp 23) (.tmp 28) E.tU64,E.tU64,"",#[⟨15,.data⟩,⟨20,.data⟩],none⟩,
   (oQ 30 (.move (.tmp 1)) E.tB),
   ⟨some 31,.indexAddr E.tB (.tmp 30) (.const (.int .i64 3)),0,"",#[⟨22,.data⟩],none⟩,
   ⟨some 32,.load E.tU8 (.tmp 31),E.tU8,"",#[⟨23,.data⟩],none⟩,
   ⟨some 33,.convert E.tU8 E.tU64 (.tmp 32),E.tU64,"",#[⟨24,.data⟩],none⟩,
   ⟨some 34,.binOp .shl E.tU64 (.tmp 33) (.const (.int .u64 32)) E.tUint,E.tU64,"",#[⟨25,.data⟩],none⟩,
   ⟨some 35,.binOp .or E.tU64 (.tmp 29) (.tmp 34) E.tU64,E.tU64,"",#[⟨21,.data⟩,⟨26,.data⟩],none⟩,
   (oQ 36 (.move (.tmp 1)) E.tB),
   ⟨some 37,.indexAddr E.tB (.tmp 36) (.const (.int .i64 2)),0,"",#[⟨28,.data⟩],none⟩,
   ⟨some 38,.load E.tU8 (.tmp 37),E.tU8,"",#[⟨29,.data⟩],none⟩,
   ⟨some 39,.convert E.tU8 E.tU64 (.tmp 38),E.tU64,"",#[⟨30,.data⟩],none⟩,
   ⟨some 40,.binOp .shl E.tU64 (.tmp 39) (.const (.int .u64 40)) E.tUint,E.tU64,"",#[⟨31,.data⟩],none⟩,
   ⟨some 41,.binOp .or E.tU64 (.tmp 35) (.tmp 40) E.tU64,E.tU64,"",#[⟨27,.data⟩,⟨32,.data⟩],none⟩,
   (oQ 42 (.move (.tmp 1)) E.tB),
   ⟨some 43,.indexAddr E.tB (.tmp 42) (.const (.int .i64 1)),0,"",#[⟨34,.data⟩],none⟩,
   ⟨some 44,.load E.tU8 (.tmp 43),E.tU8,"",#[⟨35,.data⟩],none⟩,
   ⟨some 45,.convert E.tU8 E.tU64 (.tmp 44),E.tU64,"",#[⟨36,.data⟩],none⟩,
   ⟨some 46,.binOp .shl E.tU64 (.tmp 45) (.const (.int .u64 48)) E.tUint,E.tU64,"",#[⟨37,.data⟩],none⟩,
   ⟨some 47,.binOp .or E.tU64 (.tmp 41) (.tmp 46) E.tU64,E.tU64,"",#[⟨33,.data⟩,⟨38,.data⟩],none⟩,
   (oQ 48 (.move (.tmp 1)) E.tB),
   ⟨some 49,.indexAddr E.tB (.tmp 48) (.const (.int .i64 0)),0,"",#[⟨40,.data⟩],none⟩,
   ⟨some 50,.load E.tU8 (.tmp 49),E.tU8,"",#[⟨41,.data⟩],none⟩,
   ⟨some 51,.convert E.tU8 E.tU64 (.tmp 50),E.tU64,"",#[⟨42,.data⟩],none⟩,
   ⟨some 52,.binOp .shl E.tU64 (.tmp 51) (.const (.int .u64 56)) E.tUint,E.tU64,"",#[⟨43,.data⟩],none⟩,
   ⟨some 53,.binOp .or E.tU64 (.tmp 47) (.tmp 52) E.tU64,E.tU64,"",#[⟨39,.data⟩,⟨44,.data⟩],none⟩,
   ⟨some 4,.assign (.tmp 53),E.tU64,"",#[⟨45,.data⟩,⟨0,.phase⟩,⟨1,.phase⟩,⟨2,.phase⟩,⟨3,.phase⟩,⟨4,.phase⟩,⟨5,.phase⟩,⟨6,.phase⟩,⟨7,.phase⟩,⟨8,.phase⟩,⟨9,.phase⟩,⟨10,.phase⟩,⟨11,.phase⟩,⟨12,.phase⟩,⟨13,.phase⟩,⟨14,.phase⟩,⟨15,.phase⟩,⟨16,.phase⟩,⟨17,.phase⟩,⟨18,.phase⟩,⟨19,.phase⟩,⟨20,.phase⟩,⟨21,.phase⟩,⟨22,.phase⟩,⟨23,.phase⟩,⟨24,.phase⟩,⟨25,.phase⟩,⟨26,.phase⟩,⟨27,.phase⟩,⟨28,.phase⟩,⟨29,.phase⟩,⟨30,.phase⟩,⟨31,.phase⟩,⟨32,.phase⟩,⟨33,.phase⟩,⟨34,.phase⟩,⟨35,.phase⟩,⟨36,.phase⟩,⟨37,.phase⟩,⟨38,.phase⟩,⟨39,.phase⟩,⟨40,.phase⟩,⟨41,.phase⟩,⟨42,.phase⟩,⟨43,.phase⟩,⟨44,.phase⟩,⟨45,.phase⟩],none⟩]),
  .ret])
def c_gSet (E:Env):Code :=
 (sq [(sq [(rg [(oQ 6 (.move (.tmp 0)) E.tPTags),
    (oQ 7 (.nilCheck (.tmp 6)) 0),
    (oQ 8 (.fieldAddr E.tTags (.tmp 7) 0) 0),
    (oQ 9 (.load E.tTagMap (.tmp 8)) E.tTagMap),
    (oQ 10 (.binOp .eql E.tTagMap (.tmp 9) (.const (.map none)) E.tTagMap) E.tO)]),
   (.cond (.tmp 10)
    (rg [(oQ 11 (.move (.tmp 0)) E.tPTags),
     (oQ 12 (.makeMap E.tTagMap none) E.tTagMap),
     (oQ 13 (.nilCheck (.tmp 11)) 0),
     (oQ 14 (.fieldAddr E.tTags (.tmp 13) 0) 0),
     ⟨none,.store E.tTagMap (.tmp 14) (.tmp 12),0,"",#[],none⟩])
    .skip)]),
  (rg [(oQ 15 (.move (.tmp 0)) E.tPTags),
   (oQ 16 (.nilCheck (.tmp 15)) 0),
   (oQ 17 (.fieldAddr E.tTags (.tmp 16) 0) 0),
   (oQ 18 (.load E.tTagMap (.tmp 17)) E.tTagMap),
   (oQ 19 (.move (.tmp 1)) E.tW),
   (oQ 20 (.move (.tmp 2)) E.tB),
   ⟨none,.mapUpdate E.tTagMap (.tmp 18) (.tmp 19) (.tmp 20),0,"",#[],none⟩])])
end Go.Km
