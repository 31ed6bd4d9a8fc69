/- Tags: Set; the reading of tags. Tags: the reading of tags. Known tags: Set, wherever the map lies; the reader's code for a tag that is not known. Known tags: what is asked of the code of each; scalars. Known tags: the reading of a list. Known tags: the reading of the tags of a struct that has known ones. Known tags: the loop over the tags. Known tags: the reading of the tags as a whole. The reader's walk: the fields of a struct. readFrom, ReadFrom. ReadFrom; a message is read and written again. The plain law, first part: numbers are read as they were written; what is read stays so if more follows. The plain law, second part: what is written is read. -/
import Derived.Test.YtlcamogfjoneiaaDoorKb03
set_option maxHeartbeats 4000000
set_option linter.unusedSimpArgs false
set_option linter.unusedVariables false
namespace Go.Km
open Go Go.RowKit Go.ChangeMaps
attribute [local irreducible] vc rO_ qz qI qF
theorem yQ {w:World} {B q:Nat} (o:Obj) (h:B<=q):Below B w (setBlock w q o):=by
 refine ⟨rfl,rfl,rfl,?_,fun k hk=>?_⟩
 ·simp[setBlock]
 ·simp only[setBlock]
  rw[Array.getElem?_setIfInBounds_ne (by omega)]
theorem jo {w:World} {q k:Nat} (o:Obj) (h:k≠q):(setBlock w q o).heap[k]? = w.heap[k]?:=by
 simp only[setBlock]
 rw[Array.getElem?_setIfInBounds_ne (Ne.symm h)]
theorem jH (w:World) (q:Nat) (o:Obj):(setBlock w q o).heap.size=w.heap.size:=by simp[setBlock]
theorem kQ {w w':World} {b o:Nat} (h:w'.heap[b]? = w.heap[b]?):w'.cell? ⟨b,o,none⟩=w.cell? ⟨b,o,none⟩:=by
 simp only[World.cell?]
 rw[h]
theorem zh {w w':World} {b o:Nat} (h:w'.heap[b]? = w.heap[b]?) (hf:qq w b o):qq w' b o:=by
 refine ⟨by rw[kQ h];exact hf.1,?_⟩
 have:=hf.2
 simp only[World.frozen?] at this ⊢
 rw[h]
 exact this
theorem ne_map {w:World} {b o q:Nat} {v:Value} {es:Array MapEntry} {clock:Nat} (hc:w.cell? ⟨b,o,none⟩=some v) (hq:w.heap[q]? = some (.map es clock)):b≠q:=by
 rintro rfl
 simp[World.cell?,hq] at hc
structure TagT (P:Program) (E:Env):Prop where
 map:P.underlying E.tTagMap=some (.map E.tW E.tB)
 u32:P.underlying E.tW=some (.int .u32)
 oMap:qQ P E.tTagMap=true
 f0:ql P E.tTags 0=some 0
 aTags:zb P E.tTags=some 1
 zTags:qH P E.tTags=some (.agg #[.map none])
section
variable {P : Program} {a : Act} {w : World} {r : List Oper} {Q : Exit → Act → World → Prop}
theorem yw {d t x yt ty p af g m kt et} (ht:P.underlying t=some (.map kt et)) (hx:a.eval x=.map m) (h:rO_ P Q r (a.put (some d) (.bool m.isNone)) w):rO_ P Q (⟨some d,.binOp .eql t x (.const (.map none)) yt,ty,p,af,g⟩::r) a w:=by
 refine st ?_
 have hb:(binOp .eql t (.map m) (.map none)).run P w=.ok (.bool m.isNone) w:=by
  have h0:∀ k:Nat,(Op.equalIn (k+1) t (.map m) (.map none)).run P w=.ok m.isNone w:=fun k=>by
   cases m<;>simp[Op.equalIn,run_underlying ht]
  simp only[binOp]
  simp[Op.equal,Op.maxDepth,h0 9999]
 simp only[Oper.wp,execOp,hx,xi,eqGuard_at_map,hb,Sem.run_bind,Sem.run_pure,Result.andThen_ok,Oper.upon_value]
 exact h
theorem r_makeMap {d t ty p af g} (h:rO_ P Q r (a.put (some d) (.map (some w.heap.size))) (w.alloc (.map #[] 0))):rO_ P Q (⟨some d,.makeMap t none,ty,p,af,g⟩::r) a w:=by
 refine st ?_
 have hr:(Instr.makeMap t none).run P w=.ok (.map (some w.heap.size)) (w.alloc (.map #[] 0)):=rfl
 simp only[Oper.wp,execOp,Option.map_none,Sem.run_bind,hr,Result.andThen_ok,Sem.run_pure,Oper.upon_value]
 exact h
theorem r_mapUpdate {t m k x ty p af g mv kv xv w'} (hm:a.eval m=mv) (hk:a.eval k=kv) (hx:a.eval x=xv) (hr:(Instr.mapUpdate t mv kv xv).run P w=.ok () w') (h:rO_ P Q r a w'):rO_ P Q (⟨none,.mapUpdate t m k x,ty,p,af,g⟩::r) a w:=by
 refine st ?_
 simp only[Oper.wp,execOp,hm,hk,hx,Sem.run_bind,hr,Result.andThen_ok,Sem.run_pure,Oper.upon_skip]
 exact h
end
section
variable {P : Program} {E : Env}
theorem k_gSet (H:TagT P E) (ht:Text P E.gSet 3 21 #[] (c_gSet E)) {w:World} {b sb B k:Nat} {v val:Value} {tags:List (Nat × List UInt8)} {l:List UInt8} (hc:w.cell? ⟨b,0,none⟩=some v) (hf:qq w b 0) (hm:zx w sb B v tags) (hv:j5 w sb val l) (hk:k<4294967296) (hB:B<=b) (hBz:B<=w.heap.size) (hsb:sb<B) :
  qa P E.gSet #[.pointer (some ⟨b,0,none⟩),.int .u32 (k:Int),val] w fun _ w'=>Below B w w'/\∃ v',w'.cell? ⟨b,0,none⟩=some v'/\v'.oneCell'=true/\qq w' b 0/\zx w' sb B v' (qx k l tags):=by
 refine qa.enter ht (by simp) ?_
 intro a hsz hdf harg
 have e0:=harg 0 (.pointer (some ⟨b,0,none⟩)) (by simp)
 have e1:=harg 1 (.int .u32 (k:Int)) (by simp)
 have e2:=harg 2 val (by simp)
 have hblt:b<w.heap.size:=qj hc
 have tail:∀ (A:Act) (w1:World) (q:Nat) (ls:List (Nat × List UInt8)),A.tmps.size=21->A.defers=[]->(∀ i:Nat,i<3->A.eval (.tmp i)=a.eval (.tmp i))->w1.cell? ⟨b,0,none⟩=some (.map (some q))->qq w1 b 0->MapIs w1 sb q ls->ls.Perm tags->B<=q->Below B w w1 →
   vc P (rg [(oQ 15 (.move (.tmp 0)) E.tPTags),
   (oQ 16 (.nilCheck (.tmp 15)) 0),
   (oQ 17 (.fieldAddr E.tTags (.tmp 16) 0) 0),
   (oQ 18 (.load E.tTagMap (.tmp 17)) E.tTagMap),
   (oQ 19 (.move (.tmp 1)) E.tW),
   (oQ 20 (.move (.tmp 2)) E.tB),
   ⟨none,.mapUpdate E.tTagMap (.tmp 18) (.tmp 19) (.tmp 20),0,"",#[],none⟩])
   (Out P #[] fun _ w'=>Below B w w'/\∃ v',w'.cell? ⟨b,0,none⟩=some v'/\v'.oneCell'=true/\qq w' b 0/\zx w' sb B v' (qx k l tags)) A w1:=by
  intro A w1 q ls hs hd hA hcq hfq hmi hperm hBq hb1
  have g0:=(hA 0 (by omega)).trans e0
  have g1:=(hA 1 (by omega)).trans e1
  have g2:=(hA 2 (by omega)).trans e2
  have hv1:j5 w1 sb val l:=hv.heap (hb1.block sb hsb)
  have hne:b≠q:=by
   obtain ⟨es,clock,hq,_⟩:=hmi
   exact ne_map hcq hq
  have hqs:q<w1.heap.size:=by
   obtain ⟨es,clock,hq,_⟩:=hmi
   exact (Array.getElem?_eq_some_iff.1 hq).1
  obtain ⟨o,hr,hmi'⟩:=run_mapSet (P:=P) (k:=k) H.map H.u32 hmi (by omega) hv1
  refine vR (by simp) ?_
  refine rM ?_
  refine qV (ad:=⟨b,0,none⟩) (by simp (disch:=(try simp only[sP]);omega) only[eV,g0]) ?_
  refine rF (b:=b) (o:=0) (by simp (disch:=(try simp only[sP]);omega) only[eV]) H.f0 ?_
  refine rL (b:=b) (o:=0+0) (v:=.map (some q)) (by simp (disch:=(try simp only[sP]);omega) only[eV]) H.oMap (by simpa using hcq) ?_
  refine rM (rM ?_)
  refine r_mapUpdate (mv:=.map (some q)) (kv:=.int .u32 (k:Int)) (xv:=val) (w':=setBlock w1 q o) (by simp (disch:=(try simp only[sP]);omega) only[eV]) (by simp (disch:=(try simp only[sP]);omega) only[eV,g1]) (by simp (disch:=(try simp only[sP]);omega) only[eV,g2]) hr ?_
  refine dn ?_
  refine ⟨by simp only[dF];exact hd,.tuple #[],by simp[results],hb1.trans (yQ o hBq),.map (some q),by rw[kQ (jo o hne)];exact hcq,rfl,zh (jo o hne) hfq,setTag_ok hk _ hm.1,.inr ⟨q,updL k l ls,rfl,hBq,by rw[jH];exact hqs,hmi',updL_perm hperm hm.1.1⟩⟩
 unfold c_gSet
 refine vS (vX (rM ?_))
 refine qV (ad:=⟨b,0,none⟩) (by simp (disch:=(try simp only[sP]);omega) only[eV,e0]) ?_
 refine rF (b:=b) (o:=0) (by simp (disch:=(try simp only[sP]);omega) only[eV]) H.f0 ?_
 refine rL (b:=b) (o:=0+0) (v:=v) (by simp (disch:=(try simp only[sP]);omega) only[eV]) H.oMap (by simpa using hc) ?_
 rcases hm.2 with ⟨rfl,rfl⟩ | ⟨q,ls,rfl,hBq,hqs,hmi,hperm⟩
 ·refine yw (m:=none) H.map (by simp (disch:=(try simp only[sP]);omega) only[eV]) ?_
  refine dn ?_
  refine vS (vC (t:=true) (by simp (disch:=(try simp only[sP]);omega) only[eV];rfl) ?_ (fun h=>by cases h))
  intro _
  refine vR (by simp) ?_
  refine rM ?_
  refine r_makeMap ?_
  refine qV (ad:=⟨b,0,none⟩) (by simp (disch:=(try simp only[sP]);omega) only[eV,e0]) ?_
  refine rF (b:=b) (o:=0) (by simp (disch:=(try simp only[sP]);omega) only[eV]) H.f0 ?_
  have hb1:Below w.heap.size w (w.alloc (.map #[] 0)):=(Below.refl w.heap.size w).alloc (o:=.map _ _) (Nat.le_refl _)
  have hf1:qq (w.alloc (.map #[] 0)) b 0:=zh (hb1.block b hblt) hf
  refine xq (b:=b) (o:=0+0) (v:=.map (some w.heap.size)) (by simp (disch:=(try simp only[sP]);omega) only[eV]) (by simp (disch:=(try simp only[sP]);omega) only[eV]) rfl H.oMap (by simpa using hf1) ?_
  refine dn (vN ?_)
  have hnew:(w.alloc (.map #[] 0)).heap[w.heap.size]? = some (.map #[] 0):=heap_alloc_new w _
  have hnew2:((w.alloc (.map #[] 0)).setCell ⟨b,0+0,none⟩ (.map (some w.heap.size))).heap[w.heap.size]? = some (.map #[] 0):=by
   rw[← hnew]
   exact Below.heap_setCell _ _ _ _ (by show w.heap.size≠b;omega)
  have hb2:Below B w ((w.alloc (.map #[] 0)).setCell ⟨b,0+0,none⟩ (.map (some w.heap.size))):=(hb1.mono hBz).setCell (p:=⟨b,0+0,none⟩) hB _
  refine tail _ _ w.heap.size [] (by simp only[zP];exact hsz) (by simp only[dF];exact hdf) (fun i hi=>by simp (disch:=(try simp only[sP]);omega) only[eV]) (qo _ (by simpa using hf1.1)) ?_ ?_ (List.Perm.refl _) hBz hb2
  ·exact (show qq (w.alloc (.map #[] 0)) b 0 from hf1).eff ((Eff.refl (fun k _=>k=b) _).setCell _ _ _ (fun _=>rfl))
  ·exact ⟨#[],0,hnew2,by simp,by simp,rfl,fun i x hx=>by simp at hx⟩
 ·refine yw (m:=some q) H.map (by simp (disch:=(try simp only[sP]);omega) only[eV]) ?_
  refine dn ?_
  refine vS (vC (t:=false) (by simp (disch:=(try simp only[sP]);omega) only[eV];rfl) (fun h=>by cases h) ?_)
  intro _
  refine vK (vN ?_)
  exact tail _ _ q ls (by simp only[zP];exact hsz) (by simp only[dF];exact hdf) (fun i hi=>by simp (disch:=(try simp only[sP]);omega) only[eV]) hc hf hmi hperm hBq (Below.refl _ _)
end
end Go.Km
namespace Go.Km
open Go Go.RowKit Go.ChangeMaps
attribute [local irreducible] vc rO_ qz qI qF
theorem effBelow {M:Nat->Nat->Prop} {W w w':World} (h:Eff M W w) (hb:Below W.heap.size w w'):Eff M W w' :=
 ⟨hb.os.trans h.os,hb.tape.trans h.tape,hb.output.trans h.output,Nat.le_trans h.size hb.size,fun k hk=>(h.block k hk).trans (qN.of_eq (hb.block k hk))⟩
theorem ym:∀ (n:Nat) (acc:List (Nat × List UInt8)) (st:RSt),qS (n+1) acc st=(qx (xp (qS n acc st).2).1.1 (xp (qS n acc st).2).1.2 (qS n acc st).1,(xp (qS n acc st).2).2)
 | 0,acc,st=>rfl
 | n+1,acc,st=>by
  rw[qS,ym n _ _]
  rfl
theorem wrapu32 {n:Int} (h0:0<=n) (h1:n<4294967296):IntKind.u32.wrap n=n:=by
 have h2:(2:Int) ^ 32=4294967296:=by decide
 simp only[IntKind.wrap,IntKind.bits,IntKind.signed,Bool.false_and,Bool.false_eq_true,if_false,h2]
 omega
section
variable {P : Program} {E : Env}
theorem zx.eff {rb sb B:Nat} {w w':World} {v:Value} {tags:List (Nat × List UInt8)} (h:zx w sb B v tags) (he:Eff (RM rb) w w') (hrb:rb<B) (hne:rb≠sb) (hsb:sb<w.heap.size):zx w' sb B v tags:=by
 refine h.heap (he.blockEq hsb (by rintro i ⟨e,_⟩;exact hne e.symm)) he.size ?_
 rintro q rfl
 obtain ⟨_,h2⟩:=h
 rcases h2 with ⟨h2,_⟩ | ⟨q',l,hv,hq,hqs,_⟩
 ·cases h2
 ·cases hv
  exact he.blockEq hqs (by rintro i ⟨e,_⟩;omega)
set_option maxHeartbeats 1000000 in
theorem tagsR (H:TagT P E) (iu:qs P E.tW=some .u32) (ii:qs P E.tI=some .i64) (cU:E.rTags≠0->CUv P E) (cS:E.rTags≠0->yH P E) (hset:E.rTags≠0->Text P E.gSet 3 21 #[] (c_gSet E)) (ht:E.rTags≠0->Text P E.rTags 1 24 #[.cell 2 E.tTags] (c_rTags E)):TagsR P E (fun _=>True):=by
 intro hne rb sb st W hr
 have cU:=cU hne
 have cS:=cS hne
 have hset:=hset hne
 have ht:=ht hne
 have hrlt:=hr.rb_lt
 have hslt:=hr.lt
 refine qa.enter ht (by simp) ?_
 intro a hsz hdf harg
 have e0:=harg 0 (.pointer (some ⟨rb,0,none⟩)) (by simp)
 unfold c_rTags
 refine vX ?_
 refine qK H.zTags ?_
 refine dn (vX ?_)
 refine qK H.zTags ?_
 refine dn ?_
 have hb0:Below W.heap.size W ((W.alloc (.cells (Value.agg #[.map none]).cells E.tTags)).alloc (.cells (Value.agg #[.map none]).cells E.tTags)) :=
  ((Below.refl W.heap.size W).alloc (o:=.cells _ _) (Nat.le_refl _)).alloc (o:=.cells _ _) (by simp)
 have hf2:qq ((W.alloc (.cells (Value.agg #[.map none]).cells E.tTags)).alloc (.cells (Value.agg #[.map none]).cells E.tTags)) W.heap.size 0 :=
  (qn W _ E.tTags (by simp[Value.cells])).eff ((Eff.refl (fun _ _=>False) _).alloc _)
 have hf3:qq ((W.alloc (.cells (Value.agg #[.map none]).cells E.tTags)).alloc (.cells (Value.agg #[.map none]).cells E.tTags)) (W.heap.size+1) 0:=by
  have:=qn (W.alloc (.cells (Value.agg #[.map none]).cells E.tTags)) (Value.agg #[.map none]).cells E.tTags (i:=0) (by simp[Value.cells])
  simpa using this
 have hc3:((W.alloc (.cells (Value.agg #[.map none]).cells E.tTags)).alloc (.cells (Value.agg #[.map none]).cells E.tTags)).cell? ⟨W.heap.size+1,0,none⟩=some (.map none):=by
  have:=qt (W.alloc (.cells (Value.agg #[.map none]).cells E.tTags)) (Value.agg #[.map none]).cells E.tTags (i:=0) (v:=.map none) (by simp[Value.cells])
  simpa using this
 have hz0:((W.alloc (.cells (Value.agg #[.map none]).cells E.tTags)).alloc (.cells (Value.agg #[.map none]).cells E.tTags)).heap.size=W.heap.size+2:=by simp
 have hsz1:(W.alloc (.cells (Value.agg #[.map none]).cells E.tTags)).heap.size=W.heap.size+1:=by simp
 generalize ha1:Act.put (Act.put a _ _) _ _=a1
 have hfr1:Fr (fun k=>k<2) a a1:=by
  subst ha1
  exact ((Fr.refl _ a).put _ (by omega)).put _ (by omega)
 have h12:a1.eval (.tmp 2)=.pointer (some ⟨W.heap.size,0,none⟩):=by subst ha1;simp (disch:=(try simp only[sP]);omega) only[eV]
 have h13:a1.eval (.tmp 3)=.pointer (some ⟨W.heap.size+1,0,none⟩):=by subst ha1;rw[← hsz1];simp (disch:=(try simp only[sP]);omega) only[eV]
 have hs1:=hfr1.size
 clear ha1
 generalize hW0:(W.alloc (.cells (Value.agg #[.map none]).cells E.tTags)).alloc (.cells (Value.agg #[.map none]).cells E.tTags)=w0 at *
 generalize hB:W.heap.size=B0 at *
 have hr0:RdS w0 rb sb st:=hr.below hb0 (by omega) (by omega)
 refine vS (vX (rM ?_))
 refine q8 (args:=#[.pointer (some ⟨rb,0,none⟩)]) ?_ (cU rb sb st w0 hr0) ?_
 ·simp only[lM]
  simp (disch:=(try simp only[sP]);omega) only[eV,hfr1.slot 0 (by omega),e0]
 rintro v w1 ⟨rfl,hr1,hE1,_⟩
 refine rA (dn ?_)
 generalize ha2:Act.put _ (some 4) _=a2
 have hfr2:Fr (fun k=>k<4) a1 a2:=by
  subst ha2
  exact (((Fr.refl _ a1).put _ (by omega)).put _ (by omega)).put _ (by omega)
 have h24:a2.eval (.tmp 4)=.int .u32 ((qp st).1:Int):=by subst ha2;simp (disch:=(try simp only[sP]);omega) only[eV]
 have hs2:=hfr2.size
 clear ha2
 have hn:=ze st
 have hbW:Eff (RM rb) W w0:=Eff.of_below (by rw[hB];exact hb0)
 have hEW1:Eff (RM rb) W w1:=hbW.trans hE1
 have hz1:=hE1.size
 generalize hnn:(qp st).1=n at *
 -- the loop
 refine vS (qh (zU (fun A w=>∃ i,i<=n/\A.tmps.size=24/\A.defers=[]/\A.eval (.tmp 0)=.pointer (some ⟨rb,0,none⟩)/\A.eval (.tmp 2)=.pointer (some ⟨B0,0,none⟩)/\A.eval (.tmp 3)=.pointer (some ⟨B0+1,0,none⟩)/\A.eval (.tmp 4)=.int .u32 ((n-i:Nat):Int) ∧
   RdS w rb sb (qS i [] (qp st).2).2/\Eff (RM rb) W w/\B0+2<=w.heap.size/\qq w B0 0/\qq w (B0+1) 0/\∃ v tags,w.cell? ⟨B0+1,0,none⟩=some v/\v.oneCell'=true/\zx w sb (B0+1) v tags/\((qS i [] (qp st).2).2.2=false->tags=(qS i [] (qp st).2).1))
  (fun A _=>(intOf (A.eval (.tmp 4))).toNat) ?_ ?_))
 ·refine ⟨0,Nat.zero_le _,by rw[hs2,hs1,hsz],by rw[hfr2.defers,hfr1.defers,hdf],by rw[hfr2.slot 0 (by omega),hfr1.slot 0 (by omega)];exact e0,by rw[hfr2.slot 2 (by omega)];exact h12,by rw[hfr2.slot 3 (by omega)];exact h13,h24,hr1,hEW1,by omega,hf2.eff hE1,hf3.eff hE1,.map none,[],?_,rfl,⟨⟨List.Pairwise.nil,by simp⟩,.inl ⟨rfl,rfl⟩⟩,fun _=>rfl⟩
  exact hE1.cellSome hc3 (by rintro ⟨e,_⟩;omega)
 rintro A w ⟨i,hi,hsA,hdA,g0,g2,g3,g4,hrw,hEw,hzw,hfw2,hfw3,v,tags,hcv,hv1,htm,hteq⟩
 refine vS (vX (rM ?_))
 refine je (k:=.u32) (m:=((n-i:Nat):Int)) (n:=0) (by simp (disch:=(try simp only[sP]);omega) only[eV,g4]) rfl ?_
 refine dn ?_
 refine vS (vC (t:=decide (((n-i:Nat):Int)>0)) (by simp (disch:=(try simp only[sP]);omega) only[eV]) ?_ ?_)
 ·intro h
  have hlt:i<n:=by
   have:((n-i:Nat):Int)>0:=by simpa using h
   omega
  refine vK (vN ?_)
  refine vS (qh (vX ?_))
  refine rM ?_
  refine q8 (args:=#[.pointer (some ⟨rb,0,none⟩)]) ?_ (cU rb sb _ w hrw) ?_
  ·simp only[lM]
   simp (disch:=(try simp only[sP]);omega) only[eV,g0]
  rintro v2 w2 ⟨rfl,hr2,hE2,_⟩
  refine rM ?_
  refine q8 (args:=#[.pointer (some ⟨rb,0,none⟩)]) ?_ (cU rb sb _ w2 hr2) ?_
  ·simp only[lM]
   simp (disch:=(try simp only[sP]);omega) only[eV,g0]
  rintro v3 w3 ⟨rfl,hr3,hE3,hNN3⟩
  refine rA (rA (dn (vX (rM (rM (rM ?_))))))
  have hk1:=ze (qS i [] (qp st).2).2
  have hk2:=ze (qp (qS i [] (qp st).2).2).2
  refine qM (k:=.u32) (k':=.i64) (m:=((qp (qp (qS i [] (qp st).2).2).2).1:Int)) iu ii (by simp (disch:=(try simp only[sP]);omega) only[eV]) ?_
  rw[wrap_i64 (by omega) (by omega)]
  refine q8 (args:=#[.pointer (some ⟨rb,0,none⟩),.int .i64 ((qp (qp (qS i [] (qp st).2).2).2).1:Int)]) ?_ (cS rb sb _ _ w3 hr3) ?_
  ·simp only[lM]
   simp (disch:=(try simp only[sP]);omega) only[eV,g0]
  rintro sv w4 ⟨hsv,hr4,hE4,_⟩
  have hE24:Eff (RM rb) w w4:=(hE2.trans hE3).trans hE4
  have hz4:=hE24.size
  have htm4:zx w4 sb (B0+1) v tags:=htm.eff hE24 (by omega) hr.ne (by omega)
  refine q8 (args:=#[.pointer (some ⟨B0+1,0,none⟩),.int .u32 ((qp (qS i [] (qp st).2).2).1:Int),sv]) ?_
   (k_gSet H hset (B:=B0+1) (hE24.cellSome hcv (by rintro ⟨e,_⟩;omega)) (hfw3.eff hE24) htm4 hsv hk1 (Nat.le_refl _) (by omega) (by omega)) ?_
  ·simp only[lM]
   simp (disch:=(try simp only[sP]);omega) only[eV,g3]
  rintro v5 w5 ⟨hb5,v',hc5,hv5,hf5,htm5⟩
  refine dn ?_
  have hz5:=hb5.size
  refine vN (vX (rM ?_))
  refine yE (k:=.u32) (m:=((n-i:Nat):Int)) (n:=1) (by simp (disch:=(try simp only[sP]);omega) only[eV,g4]) rfl ?_
  rw[wrapu32 (by omega) (by omega)]
  refine rA (dn (vN ?_))
  generalize hA5:Act.put _ (some 4) _=A5
  have hfr5:Fr (fun k=>k<4) A A5:=by
   subst hA5
   exact ((((((((((((((Fr.refl _ A).put _ (by omega)).put _ (by omega)).put _ (by omega)).put _ (by omega)).put _ (by omega)).put _ (by omega)).put _ (by omega)).put _ (by omega)).put _ (by omega)).put _ (by omega)).put _ (by omega)).put _ (by omega) |>.put _ (by omega)).put _ (by omega) |>.put _ (by omega)).put _ (by omega) |>.put _ (by omega)
  have h54:A5.eval (.tmp 4)=.int .u32 (((n-i:Nat):Int)-1):=by subst hA5;simp (disch:=(try simp only[sP]);omega) only[eV]
  have e1:((n-i:Nat):Int)-1=((n-(i+1):Nat):Int):=by omega
  rw[e1] at h54
  have hEW5:Eff (RM rb) W w5:=effBelow (hEw.trans hE24) (by rw[hB];exact hb5.mono (by omega))
  refine ⟨⟨i+1,hlt,by rw[hfr5.size];exact hsA,by rw[hfr5.defers];exact hdA,by rw[hfr5.slot 0 (by omega)];exact g0,by rw[hfr5.slot 2 (by omega)];exact g2,by rw[hfr5.slot 3 (by omega)];exact g3,h54,?_,hEW5,by omega,?_,hf5,v',_,hc5,hv5,htm5,?_⟩,?_⟩
  ·rw[ym]
   exact (show RdS w4 rb sb (xp (qS i [] (qp st).2).2).2 from hr4).below hb5 (by omega) (by omega)
  ·have:=hfw2.eff hE24
   exact zh (hb5.block B0 (by omega)) this
  ·intro hbad
   rw[ym] at hbad ⊢
   rw[hteq (yn hbad)]
   rfl
  ·show (intOf _).toNat<(intOf _).toNat
   rw[h54,g4]
   simp only[intOf,Int.toNat_natCast]
   omega
 ·intro h
  have hin:i=n:=by
   have:¬ (((n-i:Nat):Int)>0):=by simpa using h
   omega
  subst hin
  refine xc ?_
  simp only[Exit.then,Exit.inBlock,if_true]
  refine vN (vX ?_)
  have hcc:qb w (B0+1) 0 [v]:=by
   intro j u hu
   cases j with
   | zero=>simp only[List.getElem?_cons_zero,Option.some.injEq] at hu;subst hu;exact hcv
   | succ j=>simp at hu
  refine qf (b:=B0+1) (o:=0) (cs:=[v]) (by simp (disch:=(try simp only[sP]);omega) only[eV,g3]) H.aTags hcc ?_
  have hfree:∀ j,j < [v].length->qq w B0 (0+j):=fun j hj=>by
   have:j=0:=by simpa using hj
   subst this
   exact hfw2
  refine qu (b:=B0) (o:=0) (cs:=[v]) (by simp (disch:=(try simp only[sP]);omega) only[eV,g2]) (by simp (disch:=(try simp only[sP]);omega) only[eV]) (by simpa using hv1) H.aTags hfree ?_
  refine dn (vS (vT ?_))
  have hE9:=qe B0 [v] w 0
  have hcells:qb (setCells w B0 0 [v]) B0 0 [v]:=fun j u hu=>qg _ _ _ _ (fun j hj=>(hfree j hj).1) j u hu
  refine ⟨by simp only[dF];exact hdA,.agg [v].toArray,zd (b:=B0) (o:=0) (cs:=[v]) (by simp (disch:=(try simp only[sP]);omega) only[eV,g2]) H.aTags hcells,⟨v,tags,rfl,hv1,?_,fun hb=>?_⟩,?_,?_⟩
  ·have htm':zx (setCells w B0 0 [v]) sb (B0+1) v tags:=by
    refine htm.heap (hE9.blockEq (by omega) (by rintro j ⟨e,_⟩;omega)) hE9.size ?_
    rintro q rfl
    rcases htm.2 with ⟨h2,_⟩ | ⟨q',l,hv,hq,hqs,_⟩
    ·cases h2
    ·cases hv
     exact hE9.blockEq hqs (by rintro j ⟨e,_⟩;omega)
   have:=htm'.rep (by have:=hE9.size;omega)
   obtain ⟨k1,k2,k3⟩:=this
   refine ⟨k1,k2,?_⟩
   rcases k3 with k3 | ⟨q,es,clock,k4,k5,k6⟩
   ·exact .inl k3
   ·obtain ⟨k7,k8,k9,k10,l,k11,k12,k13⟩:=k6
    refine .inr ⟨q,es,clock,k4,by omega,k7,k8,k9,k10,l,k11,k12,fun j x hx=>?_⟩
    obtain ⟨e,m1,m2,m3⟩:=k13 j x hx
    exact ⟨e,m1,m2,m3.imp id (fun ⟨c,o,cap,z1,z2,z3⟩=>⟨c,o,cap,z1,z2.imp id (fun h=>by omega),z3⟩)⟩
  ·have e:(zi st)=qS i [] (qp st).2:=by unfold zi;rw[hnn]
   rw[e] at hb ⊢
   exact hteq hb
  ·have e:(zi st)=qS i [] (qp st).2:=by unfold zi;rw[hnn]
   rw[e]
   exact hrw.keep hE9 (by rintro j ⟨e,_⟩;omega) (by rintro j ⟨e,_⟩;omega)
  ·refine hEw.trans' hE9 ?_
   rintro k j hk ⟨e,_⟩
   omega
end
end Go.Km
namespace Go.Km
open Go Go.RowKit Go.ChangeMaps
section
variable {P : Program} {a : Act} {w : World} {Q : Exit → Act → World → Prop} {ops : List Oper} {S : World → Prop}
theorem d_nilC {i d:Nat} {x:Operand} {ty:TypeId} {p af g} {ad:Addr} {r:List (Nat × Bool)} (ho:ops[i]? = some ⟨some d,.nilCheck x,ty,p,af,g⟩) (hw:jT ops a ⟨some d,.nilCheck x,ty,p,af,g⟩=true) (hx:a.eval x=.pointer (some ad)) (hS:S w)
  (h:qF P ops Q S r (a.put (some d) (.pointer (some ad))) w):qF P ops Q S ((i,true)::r) a w :=
 ⟨_,.pointer (some ad),ho,.inl ⟨hw,fun w' _=>by simp[execOp,hx]⟩,hS,h⟩
end
attribute [local irreducible] vc rO_ qz qI qF
structure SetE (pb o:Nat) (v:Value) (w w':World):Prop where
 os:w'.os=w.os
 tape:w'.tape=w.tape
 output:w'.output=w.output
 size:w.heap.size<=w'.heap.size
 block:∀ k,k<w.heap.size->v≠.map (some k)->qN (fun i=>k=pb/\i=o) w.heap[k]? w'.heap[k]?
theorem SetE.refl (pb o:Nat) (v:Value) (w:World):SetE pb o v w w:=⟨rfl,rfl,rfl,Nat.le_refl _,fun _ _ _=>qN.refl _ _⟩
theorem SetE.of_eff {pb o:Nat} {v:Value} {w w':World} (h:Eff (fun k i=>k=pb/\i=o) w w'):SetE pb o v w w':=⟨h.os,h.tape,h.output,h.size,fun k hk _=>h.block k hk⟩
theorem SetE.setBlock {pb o q:Nat} {v:Value} {w w1:World} (h:SetE pb o v w w1) (ob:Obj) (hq:∀ k,k<w.heap.size->v≠.map (some k)->k≠q):SetE pb o v w (setBlock w1 q ob) :=
 ⟨h.os,h.tape,h.output,by rw[jH];exact h.size,fun k hk hn=>(h.block k hk hn).trans (qN.of_eq (jo ob (hq k hk hn)))⟩
theorem SetE.eff {M:Nat->Nat->Prop} {pb o:Nat} {v:Value} {W w w':World} (h:SetE pb o v w w') (he:Eff M W w) (hq:∀ q,v=.map (some q)->W.heap.size<=q) (hM:pb<W.heap.size->M pb o):Eff M W w':=by
 refine ⟨h.os.trans he.os,h.tape.trans he.tape,h.output.trans he.output,Nat.le_trans he.size h.size,fun k hk=>(he.block k hk).trans ((h.block k (Nat.lt_of_lt_of_le hk he.size) (fun e=>by have:=hq k e;omega)).mono ?_)⟩
 rintro i ⟨rfl,rfl⟩
 exact hM hk
theorem SetE.at {pb o k:Nat} {v:Value} {w w':World} (h:SetE pb o v w w') (hk:k<w.heap.size) (hn:v≠.map (some k)) (hp:k≠pb):w'.heap[k]? = w.heap[k]?:=(h.block k hk hn).eq (fun i ⟨e,_⟩=>hp e)
theorem SetE.cell {pb o b i:Nat} {v u:Value} {w w':World} (h:SetE pb o v w w') (hc:w.cell? ⟨b,i,none⟩=some u) (hm:v≠.map (some b)) (hp:¬ (b=pb/\i=o)):w'.cell? ⟨b,i,none⟩=some u :=
 ((h.block b (qj hc) hm).cell hp).trans hc
theorem SetE.cells {pb o b i:Nat} {v:Value} {w w':World} {cs:List Value} (h:SetE pb o v w w') (hc:qb w b i cs) (hm:v≠.map (some b)) (hp:∀ j,j<cs.length->¬ (b=pb/\i+j=o)):qb w' b i cs:=by
 intro j u hu
 refine h.cell (hc j u hu) hm (hp j ?_)
 rcases Nat.lt_or_ge j cs.length with h | h
 ·exact h
 ·rw[List.getElem?_eq_none h] at hu;cases hu
theorem zx.ne {w:World} {sb B b o:Nat} {v u:Value} {tags:List (Nat × List UInt8)} (h:zx w sb B v tags) (hc:w.cell? ⟨b,o,none⟩=some u):v≠.map (some b):=by
 rintro rfl
 rcases h.2 with ⟨h,_⟩ | ⟨q,l,hv,_,_,⟨es,clock,hm,_⟩,_⟩
 ·cases h
 ·cases hv
  exact ne_map hc hm rfl
theorem zx.low {w:World} {sb B:Nat} {v:Value} {tags:List (Nat × List UInt8)} (h:zx w sb B v tags):∀ q,v=.map (some q)->B<=q:=by
 rintro q rfl
 rcases h.2 with ⟨h,_⟩ | ⟨q,l,hv,hq,_⟩
 ·cases h
 ·cases hv;exact hq
theorem RdS.heapEq {w w':World} {rb sb:Nat} {st:RSt} (h:RdS w rb sb st) (h1:w'.heap[rb]? = w.heap[rb]?) (h2:w'.heap[sb]? = w.heap[sb]?) (hz:w.heap.size<=w'.heap.size):RdS w' rb sb st:=by
 obtain ⟨v,hc,hv⟩:=h.cells
 exact ⟨h.ne,Nat.lt_of_lt_of_le h.lt hz,⟨v,fun i u hu=>(kQ h1).trans (hc i u hu),hv.heap h2⟩,zh h1 h.f0,zh h1 h.f1,h.len⟩
section
variable {P : Program} {E : Env}
theorem k_gSetO (H:TagT P E) (ht:Text P E.gSet 3 21 #[] (c_gSet E)) {w:World} {b o sb B k:Nat} {v val:Value} {tags:List (Nat × List UInt8)} {l:List UInt8} (hc:w.cell? ⟨b,o,none⟩=some v) (hf:qq w b o) (hm:zx w sb B v tags) (hv:j5 w sb val l) (hk:k<4294967296) (hbs:b≠sb) (hBz:B<=w.heap.size) (hsb:sb<B) :
  qa P E.gSet #[.pointer (some ⟨b,o,none⟩),.int .u32 (k:Int),val] w fun _ w'=>SetE b o v w w'/\∃ v',w'.cell? ⟨b,o,none⟩=some v'/\v'.oneCell'=true/\qq w' b o/\(v'=v\/v'=.map (some w.heap.size))/\zx w' sb B v' (qx k l tags):=by
 refine qa.enter ht (by simp) ?_
 intro a hsz hdf harg
 have e0:=harg 0 (.pointer (some ⟨b,o,none⟩)) (by simp)
 have e1:=harg 1 (.int .u32 (k:Int)) (by simp)
 have e2:=harg 2 val (by simp)
 have hblt:b<w.heap.size:=qj hc
 have tail:∀ (A:Act) (w1:World) (q:Nat) (ls:List (Nat × List UInt8)),A.tmps.size=21->A.defers=[]->(∀ i:Nat,i<3->A.eval (.tmp i)=a.eval (.tmp i))->w1.cell? ⟨b,o,none⟩=some (.map (some q))->qq w1 b o->MapIs w1 sb q ls->ls.Perm tags->B<=q->SetE b o v w w1->w1.heap[sb]? = w.heap[sb]?->(∀ k,k<w.heap.size->v≠.map (some k)->k≠q)->(Value.map (some q)=v\/Value.map (some q)=.map (some w.heap.size)) →
   vc P (rg [(oQ 15 (.move (.tmp 0)) E.tPTags),
   (oQ 16 (.nilCheck (.tmp 15)) 0),
   (oQ 17 (.fieldAddr E.tTags (.tmp 16) 0) 0),
   (oQ 18 (.load E.tTagMap (.tmp 17)) E.tTagMap),
   (oQ 19 (.move (.tmp 1)) E.tW),
   (oQ 20 (.move (.tmp 2)) E.tB),
   ⟨none,.mapUpdate E.tTagMap (.tmp 18) (.tmp 19) (.tmp 20),0,"",#[],none⟩])
   (Out P #[] fun _ w'=>SetE b o v w w'/\∃ v',w'.cell? ⟨b,o,none⟩=some v'/\v'.oneCell'=true/\qq w' b o/\(v'=v\/v'=.map (some w.heap.size))/\zx w' sb B v' (qx k l tags)) A w1:=by
  intro A w1 q ls hs hd hA hcq hfq hmi hperm hBq hE1 hsb1 hqn hvq
  have g0:=(hA 0 (by omega)).trans e0
  have g1:=(hA 1 (by omega)).trans e1
  have g2:=(hA 2 (by omega)).trans e2
  have hv1:j5 w1 sb val l:=hv.heap hsb1
  have hne:b≠q:=by
   obtain ⟨es,clock,hq,_⟩:=hmi
   exact ne_map hcq hq
  have hqs:q<w1.heap.size:=by
   obtain ⟨es,clock,hq,_⟩:=hmi
   exact (Array.getElem?_eq_some_iff.1 hq).1
  obtain ⟨ob,hr,hmi'⟩:=run_mapSet (P:=P) (k:=k) H.map H.u32 hmi (by omega) hv1
  refine vR (by simp) ?_
  refine rM ?_
  refine qV (ad:=⟨b,o,none⟩) (by simp (disch:=(try simp only[sP]);omega) only[eV,g0]) ?_
  refine rF (b:=b) (o:=o) (by simp (disch:=(try simp only[sP]);omega) only[eV]) H.f0 ?_
  refine rL (b:=b) (o:=o+0) (v:=.map (some q)) (by simp (disch:=(try simp only[sP]);omega) only[eV]) H.oMap (by simpa using hcq) ?_
  refine rM (rM ?_)
  refine r_mapUpdate (mv:=.map (some q)) (kv:=.int .u32 (k:Int)) (xv:=val) (w':=setBlock w1 q ob) (by simp (disch:=(try simp only[sP]);omega) only[eV]) (by simp (disch:=(try simp only[sP]);omega) only[eV,g1]) (by simp (disch:=(try simp only[sP]);omega) only[eV,g2]) hr ?_
  refine dn ?_
  refine ⟨by simp only[dF];exact hd,.tuple #[],by simp[results],hE1.setBlock ob hqn,.map (some q),by rw[kQ (jo ob hne)];exact hcq,rfl,zh (jo ob hne) hfq,hvq,setTag_ok hk _ hm.1,.inr ⟨q,updL k l ls,rfl,hBq,by rw[jH];exact hqs,hmi',updL_perm hperm hm.1.1⟩⟩
 unfold c_gSet
 refine vS (vX (rM ?_))
 refine qV (ad:=⟨b,o,none⟩) (by simp (disch:=(try simp only[sP]);omega) only[eV,e0]) ?_
 refine rF (b:=b) (o:=o) (by simp (disch:=(try simp only[sP]);omega) only[eV]) H.f0 ?_
 refine rL (b:=b) (o:=o+0) (v:=v) (by simp (disch:=(try simp only[sP]);omega) only[eV]) H.oMap (by simpa using hc) ?_
 rcases hm.2 with ⟨rfl,rfl⟩ | ⟨q,ls,rfl,hBq,hqs,hmi,hperm⟩
 ·refine yw (m:=none) H.map (by simp (disch:=(try simp only[sP]);omega) only[eV]) ?_
  refine dn ?_
  refine vS (vC (t:=true) (by simp (disch:=(try simp only[sP]);omega) only[eV];rfl) ?_ (fun h=>by cases h))
  intro _
  refine vR (by simp) ?_
  refine rM ?_
  refine r_makeMap ?_
  refine qV (ad:=⟨b,o,none⟩) (by simp (disch:=(try simp only[sP]);omega) only[eV,e0]) ?_
  refine rF (b:=b) (o:=o) (by simp (disch:=(try simp only[sP]);omega) only[eV]) H.f0 ?_
  have hb1:Below w.heap.size w (w.alloc (.map #[] 0)):=(Below.refl w.heap.size w).alloc (o:=.map _ _) (Nat.le_refl _)
  have hf1:qq (w.alloc (.map #[] 0)) b o:=zh (hb1.block b hblt) hf
  refine xq (b:=b) (o:=o+0) (v:=.map (some w.heap.size)) (by simp (disch:=(try simp only[sP]);omega) only[eV]) (by simp (disch:=(try simp only[sP]);omega) only[eV]) rfl H.oMap (by simpa using hf1) ?_
  refine dn (vN ?_)
  have hnew:(w.alloc (.map #[] 0)).heap[w.heap.size]? = some (.map #[] 0):=heap_alloc_new w _
  have hnew2:((w.alloc (.map #[] 0)).setCell ⟨b,o+0,none⟩ (.map (some w.heap.size))).heap[w.heap.size]? = some (.map #[] 0):=by
   rw[← hnew]
   exact Below.heap_setCell _ _ _ _ (by show w.heap.size≠b;omega)
  have hE2:Eff (fun k i=>k=b/\i=o) w ((w.alloc (.map #[] 0)).setCell ⟨b,o+0,none⟩ (.map (some w.heap.size))):=((Eff.refl _ w).alloc _).setCell _ _ _ (fun _=>⟨rfl,rfl⟩)
  refine tail _ _ w.heap.size [] (by simp only[zP];exact hsz) (by simp only[dF];exact hdf) (fun i hi=>by simp (disch:=(try simp only[sP]);omega) only[eV]) (qo _ (by simpa using hf1.1)) ?_ ?_ (List.Perm.refl _) hBz (SetE.of_eff hE2) (hE2.blockEq (by omega) (by rintro i ⟨e,_⟩;exact hbs e.symm)) (fun k hk _=>by omega) (.inr rfl)
  ·exact (show qq (w.alloc (.map #[] 0)) b o from hf1).eff ((Eff.refl (fun k _=>k=b) _).setCell _ _ _ (fun _=>rfl))
  ·exact ⟨#[],0,hnew2,by simp,by simp,rfl,fun i x hx=>by simp at hx⟩
 ·refine yw (m:=some q) H.map (by simp (disch:=(try simp only[sP]);omega) only[eV]) ?_
  refine dn ?_
  refine vS (vC (t:=false) (by simp (disch:=(try simp only[sP]);omega) only[eV];rfl) (fun h=>by cases h) ?_)
  intro _
  refine vK (vN ?_)
  exact tail _ _ q ls (by simp only[zP];exact hsz) (by simp only[dF];exact hdf) (fun i hi=>by simp (disch:=(try simp only[sP]);omega) only[eV]) hc hf hmi hperm hBq (SetE.refl _ _ _ _) rfl (fun k hk hne e=>hne (by rw[e])) (.inl rfl)
end
def ju (P:Program) (t:TypeId):Bool :=
 match P.underlying t with
 | some (.interface _)=>true
 | _=>false
def isErr:Value->Bool
 | .nilIface=>false
 | _=>true
section
variable {P : Program} {E : Env}
theorem ky {a:Act} {w:World} {r:List Oper} {Q:Exit->Act->World->Prop} {d t x yt ty p af g v} (ht:ju P t=true) (hx:a.eval x=v) (hv:v=.nilIface\/∃ u z,v=.iface u z) (h:rO_ P Q r (a.put (some d) (.bool (isErr v))) w) :
  rO_ P Q (⟨some d,.binOp .neq t x (.const .nilIface) yt,ty,p,af,g⟩::r) a w:=by
 obtain ⟨ms,hu⟩:∃ ms,P.underlying t=some (.interface ms):=by
  unfold ju at ht
  split at ht
  ·rename_i ms h;exact ⟨ms,h⟩
  ·cases ht
 refine st ?_
 rcases hv with rfl | ⟨u,z,rfl⟩
 ·have h1:(eqGuard .neq t x (.const .nilIface) .nilIface .nilIface).run P w=.ok () w:=by cases x<;>simp[eqGuard]
  have h2:(binOp .neq t .nilIface .nilIface).run P w=.ok (.bool false) w:=by
   simp only[binOp]
   have h0:∀ k:Nat,(Op.equalIn (k+1) t .nilIface .nilIface).run P w=.ok true w:=fun k=>by simp[Op.equalIn,run_underlying hu]
   simp[Op.equal,Op.maxDepth,h0 9999]
  simp only[Oper.wp,execOp,hx,xi,h1,h2,Sem.run_bind,Sem.run_pure,Result.andThen_ok,Oper.upon_value]
  exact h
 ·have h1:(eqGuard .neq t x (.const .nilIface) (.iface u z) .nilIface).run P w=.ok () w:=by simp[eqGuard]
  have h2:(binOp .neq t (.iface u z) .nilIface).run P w=.ok (.bool true) w:=by
   simp only[binOp]
   have h0:∀ k:Nat,(Op.equalIn (k+1) t (.iface u z) .nilIface).run P w=.ok false w:=fun k=>by simp[Op.equalIn,run_underlying hu]
   simp[Op.equal,Op.maxDepth,h0 9999]
  simp only[Oper.wp,execOp,hx,xi,h1,h2,Sem.run_bind,Sem.run_pure,Result.andThen_ok,Oper.upon_value]
  exact h
end
structure EnvRK (P:Program) (E:Env) (T:List (Nat × List UInt8)->Prop):Prop where
 tag:TagT P E
 iu:qs P E.tW=some .u32
 ii:qs P E.tI=some .i64
 cU:CUv P E
 cS:yH P E
 set:Text P E.gSet 3 21 #[] (c_gSet E)
 all:∀ tags,T tags
 mixed:P.follows .mixedOrders=true
 rd:vH P E.tRd=some ([(0,1),(1,1)],#[.slice none 0 0,.bool false])
 rdA:zb P E.tRd=some 2
 tErr:ju P E.tErr=true
section
variable {P : Program} {E : Env} {T : List (Nat × List UInt8) → Prop} {a : Act} {w : World} {Q : Exit → Act → World → Prop} {ops : List Oper} {S : World → Prop}
theorem m_krSet (H:EnvRK P E T) {x:Cx} {TP TU:TypeId} {s f n t rb sb pb po off k B:Nat} {st:RSt} {v:Value} {tags:List (Nat × List UInt8)} {K:Nat->Prop}
  (hr:RdS w rb sb st) (hp7:a.eval (.tmp x.rd)=.pointer (some ⟨rb,0,none⟩)) (hp:a.eval (.tmp s)=.pointer (some ⟨pb,po,none⟩)) (hk:a.eval (.tmp n)=.int .u32 (k:Int)) (hk2:k<4294967296) (hfo:ql P TU f=some off)
  (hc:w.cell? ⟨pb,po+off,none⟩=some v) (hf:qq w pb (po+off)) (hm:zx w sb B v tags) (hBw:B<=w.heap.size) (hsb:sb<B) (hrB:rb<B) (h1:pb≠rb) (h2:pb≠sb) (ht:∀ d,t<=d->¬ K d) (hrt:x.rd<t) (hst:s<t) (hnt:n<t) (hsz:t+8<=a.tmps.size)
  (kn:∀ a' w1 w' v',Fr K a a'->Eff (RM rb) w w1->SetE pb (po+off) v w1 w'->RdS w1 rb sb (qr ((qp st).1:Int) (qp st).2).2->RdS w' rb sb (qr ((qp st).1:Int) (qp st).2).2->w'.cell? ⟨pb,po+off,none⟩=some v'->v'.oneCell'=true->qq w' pb (po+off)->(v'=v\/v'=.map (some w1.heap.size)) →
   zx w1 sb B v tags->zx w' sb B v' (qx k (qr ((qp st).1:Int) (qp st).2).1 tags)->Q .normal a' w') :
  vc P (krSet E x TP TU s f n t) Q a w:=by
 have hrd0:RdS { w with drawn:=w.drawn+1 } rb sb st:=hr.below (B:=w.heap.size) (show Below w.heap.size w { w with drawn:=w.drawn+1 } from ⟨rfl,rfl,rfl,Nat.le_refl _,fun _ _=>rfl⟩) hr.rb_lt hr.lt
 have hE0:Eff (RM rb) w { w with drawn:=w.drawn+1 }:=(Eff.refl _ w).drawn _
 have hk1:=ze st
 unfold krSet
 refine noPanic ?_
 refine xh [(0,true),(1,true),(2,true),(3,true),(4,false),(5,true),(6,false),(7,false)] (fun _=>True) H.mixed (by kernel_rfl) rfl (ordP_ok (ap:=[(0,2),(0,3),(0,4),(0,5),(0,6),(0,7),(1,3),(1,4),(1,5),(1,6),(1,7),(2,3),(2,4),(2,5),(2,6),(3,4),(3,5),(3,6),(5,7)]) ?_ _ _ (by kernel_rfl)) (fun c _ _ _ h=>absurd rfl (h.1 c)) ?_
 ·simp only[List.forall_mem_cons,List.mem_nil_iff,false_imp_iff,implies_true,and_true,List.getElem?_toArray,List.getElem?_cons_succ,List.getElem?_cons_zero,Option.some.injEq]
  refine ⟨?_,?_,?_,?_,?_,?_,?_,?_,?_,?_,?_,?_,?_,?_,?_,?_,?_,?_,?_⟩<;>rintro x y rfl rfl<;>simp[Oper.apart,Oper.looksAt,Op.operands,Call.operands]<;>(repeat' apply And.intro)<;>exact tne (by omega)
 refine dP rfl rfl rfl (wN rfl) (by first | omega | (simp only[zP];omega)) trivial (fun w' _=>rM (dn ⟨rfl,rfl,rfl⟩)) ?_
 refine d_nilC (d:=t+1) (x:=.tmp t) (ad:=⟨pb,po,none⟩) rfl (wN rfl) ?_ trivial ?_
 ·simp (disch:=(try simp only[sP]);omega) only[eV,hp]
 refine dP rfl rfl rfl (wN rfl) (by first | omega | (simp only[zP];omega)) trivial (fun w' _=>rF (b:=pb) (o:=po) (by simp (disch:=(try simp only[sP]);omega) only[eV]) hfo (dn ⟨rfl,rfl,rfl⟩)) ?_
 refine dP rfl rfl rfl (wN rfl) (by first | omega | (simp only[zP];omega)) trivial (fun w' _=>rM (dn ⟨rfl,rfl,rfl⟩)) ?_
 refine qw rfl (wN rfl) ?_
 refine q8 (args:=#[.pointer (some ⟨rb,0,none⟩)]) ?_ (H.cU rb sb st _ hrd0) ?_
 ·simp only[lM]
  simp (disch:=(try simp only[sP]);omega) only[eV,hp7]
 rintro v1 w1 ⟨rfl,hr1,hE1,_⟩
 refine dn (qv trivial ?_)
 refine dP rfl rfl rfl (wN rfl) (by first | omega | (simp only[zP];omega)) trivial (fun w' _=>qM (k:=.u32) (k':=.i64) (m:=((qp st).1:Int)) H.iu H.ii (by simp (disch:=(try simp only[sP]);omega) only[eV]) (dn ⟨rfl,rfl,rfl⟩)) ?_
 rw[wrap_i64 (by omega) (by omega)]
 refine qw rfl (wN rfl) ?_
 refine q8 (args:=#[.pointer (some ⟨rb,0,none⟩),.int .i64 ((qp st).1:Int)]) ?_ (H.cS rb sb _ _ w1 hr1) ?_
 ·simp only[lM]
  simp (disch:=(try simp only[sP]);omega) only[eV,hp7]
 rintro sv w2 ⟨hsv,hr2,hE2,_⟩
 refine dn (qv trivial ?_)
 have hE02:Eff (RM rb) w w2:=(hE0.trans hE1).trans hE2
 have hz2:=hE02.size
 have htm2:zx w2 sb B v tags:=hm.eff hE02 hrB hr.ne (by omega)
 have hc2:w2.cell? ⟨pb,po+off,none⟩=some v:=hE02.cellSome hc (by rintro ⟨e,_⟩;exact h1 e)
 refine qw rfl (wN rfl) ?_
 refine q8 (args:=#[.pointer (some ⟨pb,po+off,none⟩),.int .u32 (k:Int),sv]) ?_ (k_gSetO H.tag H.set (B:=B) hc2 (hf.eff hE02) htm2 hsv hk2 h2 (by omega) hsb) ?_
 ·simp only[lM]
  simp (disch:=(try simp only[sP]);omega) only[eV,hk]
 rintro v5 w5 ⟨hS5,v',hc5,hv5,hf5,hvv,htm5⟩
 refine dn (qv trivial (xx ?_))
 obtain ⟨u0,hu0,_⟩:=hr2.cells
 have hrq:v≠.map (some rb):=htm2.ne (hu0 0 _ rfl)
 have hsq:v≠.map (some sb):=by
  intro e
  have:=htm2.low sb e
  omega
 refine ⟨(fun _ h=>by cases h),kn _ w2 w5 v' ?_ hE02 hS5 hr2 (hr2.heapEq (hS5.at hr2.rb_lt hrq (Ne.symm h1)) (hS5.at hr2.lt hsq (Ne.symm h2)) hS5.size) hc5 hv5 hf5 hvv htm2 htm5⟩
 exact ((((((((Fr.refl K a).put _ (ht _ (by omega))).put _ (ht _ (by omega))).put _ (ht _ (by omega))).put _ (ht _ (by omega))).put _ (ht _ (by omega))).put _ (ht _ (by omega))).put _ (ht _ (by omega))).put _ (ht _ (by omega))
end
end Go.Km
namespace Go.Km
open Go Go.RowKit
attribute [local irreducible] vc rO_ qz qI qF
structure KY where
 k:Nat
 off:Nat
 ty:Ty
 krd:KRd
def KY.val (fx:Bool) (ver:Nat) (y:KY) (p:List UInt8):D:=(y.ty.rd fx ver (p,false)).1
def KY.chk (fx:Bool) (ver:Nat) (y:KY) (p:List UInt8):Bool:=!(y.ty.rd fx ver (p,false)).2.2
def KY.get (fx:Bool) (ver:Nat) (y:KY) (tags:List (Nat × List UInt8)):D:=(Ver.tag y.k 0).getT y.ty.dflt (y.val fx ver) tags
def xg (st:RSt):List UInt8 × RSt:=qr ((qp st).1:Int) (qp st).2
def Ty.Own (F:Nat->Prop) (w:World):Ty->List Value->Prop
 | .list _ _ e,c=>∃ ad len cap,c=[.slice ad len cap]/\((ad=none/\len=0/\cap=0)\/∃ q,ad=some ⟨q,0,none⟩/\F q/\∀ i,i<cap*e.size->qq w q i)
 | _,_=>True
def Sup (sb:Sb) (B:Nat) (F:Nat->Prop) (ty:Ty) (w:World) (c:List Value) (d:D):Prop :=
 (∀ k,F k->B<=k/\k<w.heap.size)/\∀ w',w.heap.size<=w'.heap.size->(∀ k,k=sb.b\/F k->w'.heap[k]? = w.heap[k]?)->ty.Rep w' sb B c d/\ty.Own F w' c
theorem Sup.keep {sb:Sb} {B:Nat} {F:Nat->Prop} {ty:Ty} {w w':World} {c:List Value} {d:D} (h:Sup sb B F ty w c d) (hz:w.heap.size<=w'.heap.size) (hk:∀ k,k=sb.b\/F k->w'.heap[k]? = w.heap[k]?):Sup sb B F ty w' c d :=
 ⟨fun k hF=>⟨(h.1 k hF).1,Nat.lt_of_lt_of_le (h.1 k hF).2 hz⟩,fun w2 h1 h2=>h.2 w2 (by omega) (fun k hF=>(h2 k hF).trans (hk k hF))⟩
theorem Sup.rep {sb:Sb} {B:Nat} {F:Nat->Prop} {ty:Ty} {w:World} {c:List Value} {d:D} (h:Sup sb B F ty w c d):ty.Rep w sb B c d/\ty.Own F w c:=h.2 w (Nat.le_refl _) (fun _ _=>rfl)
theorem Sup.eff {M:Nat->Nat->Prop} {sb:Sb} {B:Nat} {F:Nat->Prop} {ty:Ty} {w w':World} {c:List Value} {d:D} (h:Sup sb B F ty w c d) (hE:Eff M w w') (hs:sb.b<w.heap.size) (h1:∀ i,¬ M sb.b i) (h2:∀ k i,F k->¬ M k i):Sup sb B F ty w' c d :=
 h.keep hE.size (fun k hk=>by
  rcases hk with rfl | hk
  ·exact hE.blockEq hs h1
  ·exact hE.blockEq (h.1 k hk).2 (fun i=>h2 k i hk))
abbrev FMF (rb pb lo n:Nat) (F:Nat->Prop):Nat->Nat->Prop:=fun k i=>FM rb pb lo n k i\/F k
def KY.OK (P:Program) (E:Env) (T:List (Nat × List UInt8)->Prop) (x:Cx) (ver:Nat) (fx:Bool) (L s:Nat) (y:KY):Prop :=
 y.krd.k=y.k/\y.k<4294967296/\(∀ w sb B,Sup sb B (fun _=>False) y.ty w y.ty.dz y.ty.dflt) ∧
 ∀ (n t b rb sb pb po B:Nat) (ev:Value) (a:Act) (w:World) (st:RSt) (F:Nat->Prop) (c0:List Value) (d0:D) (Q:Exit->Act->World->Prop),RSl x L n t fx->n+y.krd.casN<=L->t+y.krd.casT<=a.tmps.size->RSta E x ver fx rb sb ev a w st →
  a.eval (.tmp s)=.pointer (some ⟨pb,po,none⟩)->s<n->(∀ i,i<y.ty.size->qq w pb (po+y.off+i))->pb≠rb->pb≠sb->pb≠E.vErr->pb<B->rb<B->sb<B->E.vErr<B->B<=w.heap.size →
  c0.length=y.ty.size->qb w pb (po+y.off) c0->Sup ⟨sb,T⟩ B F y.ty w c0 d0 →
  (∀ a' w' c d F',Fr (KR L n t) a a'->RSta E x ver fx rb sb ev a' w' (xg st).2->c.length=y.ty.size->qb w' pb (po+y.off) c->Sup ⟨sb,T⟩ B F' y.ty w' c d->(∀ k,F' k->F k\/w.heap.size<=k)->Eff (FMF rb pb (po+y.off) y.ty.size F) w w' →
   ((xg st).2.2=false->y.chk fx ver (xg st).1=true/\d=y.val fx ver (xg st).1)->Q .normal a' w') →
  (∀ a' w',a'.defers=a.defers->a'.tmps.size=a.tmps.size->a'.eval (.tmp 6)=ev->Eff (FMF rb pb (po+y.off) y.ty.size F) w w'->((xg st).2.2=true\/y.chk fx ver (xg st).1=false)->Q .ret a' w') →
  vc P (sq (y.krd.cas n t b)) Q a w
theorem rdSpan_le (n:Int) (st:RSt):(qr n st).1.length<=st.1.length:=by
 unfold qr
 split
 ·simp
 ·simp only[List.length_take];omega
def kScal (E:Env) (x:Cx) (TP TU:TypeId) (s idx k:Nat) (c:Scal):KRd :=
 { k:=k,casN:=3,casT:=13,casB:=0,cas:=fun n t b=>[krHead E x n t,qU E { x with rd:=n } (E.rScal c) (E.tScal c) (n+1) (t+4),yx TP TU (E.tScal c) false (n+1) s idx (t+5)]++krEnd E { x with rd:=n } (n+2) (t+9) }
section
variable {P : Program} {E : Env} {T : List (Nat × List UInt8) → Prop}
theorem m_krEnd (H:EnvR P E T) (HK:EnvRK P E T) {x:Cx} {rb sb n t:Nat} {st:RSt} {ev:Value} {a:Act} {w:World} {Q:Exit->Act->World->Prop} {K:Nat->Prop} (hr:RdS w rb sb st) (he:w.cell? ⟨E.vErr,0,none⟩=some ev) (hev:∃ u z,ev=.iface u z) (hp:a.eval (.tmp x.rd)=.pointer (some ⟨rb,0,none⟩))
  (ht:∀ d,t<=d->¬ K d) (hn:¬ K n) (hnt:n<t) (h6:6<n) (hsz:t+4<=a.tmps.size) (kn:st.2=false->∀ a',Fr K a a'->Q .normal a' w) (kr:st.2=true->∀ a',a'.defers=a.defers->a'.tmps.size=a.tmps.size->a'.eval (.tmp 6)=ev->Q .ret a' w) :
  vc P (sq (krEnd E x n t)) Q a w:=by
 unfold krEnd
 refine vS (ja (K:=K) hp (H.complete rb sb st w ev hr he) ht hn hnt (by omega) ?_)
 rintro a1 v w1 hf1 he1 ⟨hv,rfl⟩
 have hz1:=hf1.size
 have hd1:=hf1.defers
 have hie:isErr v=st.2:=by
  obtain ⟨u,z,rfl⟩:=hev
  rw[hv]
  cases st.2<;>rfl
 refine vX (rM ?_)
 refine ky (v:=v) HK.tErr (by simp (disch:=(try simp only[sP]);omega) only[eV,he1]) (by rw[hv];cases st.2 with | true=>exact .inr hev | false=>exact .inl rfl) ?_
 rw[hie]
 refine dn ?_
 have hf2:Fr K a1 ((a1.put (some (t+1)) (a1.eval (.tmp n))).put (some (t+2)) (.bool st.2)):=((Fr.refl K a1).put _ (ht _ (by omega))).put _ (ht _ (by omega))
 refine vS (vC (t:=st.2) (by simp (disch:=(try simp only[sP]);omega) only[eV]) ?_ ?_)
 ·intro h
  refine vX (rM (rA (dn (vS (vT ?_)))))
  refine kr h _ (by simp only[dF];exact hd1) (by simp only[zP];exact hz1) ?_
  have:v=ev:=by rw[hv,if_pos h]
  rw[← this]
  simp (disch:=(try simp only[sP]);omega) only[eV,he1]
 ·intro h
  exact vK (vN (kn h _ (hf1.trans hf2)))
theorem RSl.inner {x:Cx} {L n t:Nat} {fx:Bool} (hs:RSl x L n t fx) (hn:n+1<=L):RSl { x with rd:=n } L (n+1) (t+4) fx :=
 ⟨by have:=hs.seven;omega,by show n<n+1;omega,by have:=hs.vs;show x.vs<n+1;omega,fun f hf=>by have:=hs.fl f hf;omega,hs.no,by omega,by have:=hs.Lt;omega⟩
theorem m_krHead (HK:EnvRK P E T) {x:Cx} {ver:Nat} {fx:Bool} {L n t rb sb:Nat} {ev:Value} {a:Act} {w:World} {st:RSt} {Q:Exit->Act->World->Prop} (hs:RSl x L n t fx) (hn:n+1<=L) (ht:t+4<=a.tmps.size) (hst:RSta E x ver fx rb sb ev a w st)
  (k:∀ a' w' rb',Fr (KR L n t) a a'->RSta E { x with rd:=n } ver fx rb' sb ev a' w' ((xg st).1,false)->RdS w' rb sb (xg st).2->Eff (RM rb) w w'->w.heap.size<=rb'->rb'<w'.heap.size->Q .normal a' w'):vc P (krHead E x n t) Q a w:=by
 have hnL:=hs.nL;have hLt:=hs.Lt;have h7:=hs.seven;have hrd:=hs.rd;have hvs:=hs.vs
 have hkt:=hs.kt
 have hk1:=ze st
 obtain ⟨zr,hzr,hzrc⟩:=xD HK.rd
 unfold krHead
 refine vR (by simp) ?_
 refine q8 (args:=#[.pointer (some ⟨rb,0,none⟩)]) ?_ (HK.cU rb sb st w hst.rd) ?_
 ·simp only[lM]
  simp (disch:=(try simp only[sP]);omega) only[eV,hst.p7]
 rintro v1 w1 ⟨rfl,hr1,hE1,_⟩
 refine qM (k:=.u32) (k':=.i64) (m:=((qp st).1:Int)) HK.iu HK.ii (by simp (disch:=(try simp only[sP]);omega) only[eV]) ?_
 rw[wrap_i64 (by omega) (by omega)]
 refine q8 (args:=#[.pointer (some ⟨rb,0,none⟩),.int .i64 ((qp st).1:Int)]) ?_ (HK.cS rb sb _ _ w1 hr1) ?_
 ·simp only[lM]
  simp (disch:=(try simp only[sP]);omega) only[eV,hst.p7]
 rintro sv w2 ⟨hsv,hr2,hE2,_⟩
 have hpl:(qr ((qp st).1:Int) (qp st).2).1.length<=big:=Nat.le_trans (rdSpan_le _ _) hr1.len
 change RdS w2 rb sb (xg st).2 at hr2
 change j5 w2 sb sv (xg st).1 at hsv
 change (xg st).1.length<=big at hpl
 have hE02:Eff (RM rb) w w2:=hE1.trans hE2
 have hz2:=hE02.size
 have hsv1:=hsv.one
 have hsvc:sv.cells=#[sv]:=by
  obtain ⟨ad,cap,rfl,_⟩:=hsv.form
  rfl
 refine z9 (cells:=#[sv,.bool false]) HK.rd ?_ ?_
 ·have:(((a.put (some t) (.int .u32 ((qp st).1:Int))).put (some (t+1)) (.int .i64 ((qp st).1:Int))).put (some (t+2)) sv).eval (.tmp (t+2))=sv:=(by simp (disch:=(try simp only[sP]);omega) only[eV])
  simp[Instr.fill,this,hsvc]
 refine qK hzr ?_
 have hfree:∀ i,i < [sv,Value.bool false].length->qq (w2.alloc (.cells zr.cells E.tRd)) w2.heap.size (0+i):=by
  intro i hi
  rw[Nat.zero_add]
  exact qn w2 _ _ (by rw[hzrc];simpa using hi)
 refine qu (b:=w2.heap.size) (o:=0) (cs:=[sv,.bool false]) (by simp (disch:=(try simp only[sP]);omega) only[eV]) (by simp (disch:=(try simp only[sP]);omega) only[eV]) (by intro v hv;simp only[List.mem_cons,List.not_mem_nil,or_false] at hv;rcases hv with rfl | rfl;exact hsv1;rfl) HK.rdA hfree ?_
 refine dn ?_
 have hcb:qb (setCells (w2.alloc (.cells zr.cells E.tRd)) w2.heap.size 0 [sv,.bool false]) w2.heap.size 0 [sv,.bool false] :=
  fun i v hv=>qg _ _ _ _ (fun j hj=>(hfree j hj).1) i v hv
 have hE3:=qe w2.heap.size [sv,.bool false] (w2.alloc (.cells zr.cells E.tRd)) 0
 have hb3:Below w2.heap.size w2 (setCells (w2.alloc (.cells zr.cells E.tRd)) w2.heap.size 0 [sv,.bool false]) :=
  ((Below.refl w2.heap.size w2).alloc (o:=.cells _ _) (Nat.le_refl _)).trans (hE3.below (by simp) (by rintro k i hk ⟨rfl,_,_⟩;omega))
 have hz3:w2.heap.size<(setCells (w2.alloc (.cells zr.cells E.tRd)) w2.heap.size 0 [sv,.bool false]).heap.size:=by
  have:=hE3.size
  simp at this
  omega
 have hfr3:∀ i,i<2->qq (setCells (w2.alloc (.cells zr.cells E.tRd)) w2.heap.size 0 [sv,.bool false]) w2.heap.size i:=fun i hi=>by
  have:=(hfree i (by simpa using hi)).eff hE3
  rwa [Nat.zero_add] at this
 generalize setCells (w2.alloc (.cells zr.cells E.tRd)) w2.heap.size 0 [sv,.bool false]=w3 at *
 have hbw:Below w2.heap.size w2 w3:=hb3
 generalize hrb:w2.heap.size=rb' at *
 generalize ha3:Act.put _ (some n) _=a3
 have hf3:Fr (KR L n t) a a3:=by
  subst ha3
  exact (((((Fr.refl _ a).put _ (hkt _ (by omega))).put _ (hkt _ (by omega))).put _ (hkt _ (by omega))).put _ (hkt _ (by omega))).put _ (hs.kn n (Nat.le_refl _) (by omega))
 have h3n:a3.eval (.tmp n)=.pointer (some ⟨rb',0,none⟩):=by subst ha3;simp (disch:=(try simp only[sP]);omega) only[eV]
 have hz3a:=hf3.size
 clear ha3
 have hrlt:=hr2.rb_lt
 have hslt:=hr2.lt
 have hevw:E.vErr<w.heap.size:=qj hst.err
 have hr3:RdS w3 rb sb (xg st).2:=hr2.below hb3 (by omega) (by omega)
 have hrd3:RdS w3 rb' sb ((xg st).1,false):=⟨by omega,by omega,⟨sv,hcb,hsv.heap (hb3.block sb (by omega))⟩,hfr3 0 (by omega),hfr3 1 (by omega),hpl⟩
 have hE03:Eff (RM rb) w w3:=hE02.trans' (Eff.of_below (M:=fun _ _=>False) (by rw[hrb];exact hb3)) (fun _ _ _ h=>h.elim)
 have hev3:w3.cell? ⟨E.vErr,0,none⟩=some ev:=hE03.cellSome hst.err (fun hh=>hst.evr hh.1)
 have hfr:=hst.fr hs hf3
 exact k a3 w3 rb' hf3 ⟨hrd3,h3n,hfr.us,hfr.ver,hfr.fl,hev3,by omega,hst.evi⟩ hr3 hE03 (by have:=hE02.size;omega) hz3
theorem kScal_ok (H:EnvR P E T) (HK:EnvRK P E T) {x:Cx} {ver:Nat} {fx:Bool} {L TP TU s idx k off:Nat} {c:Scal} {df:Int} (hk:k<4294967296) (hr:E.rScal c≠0) (ho:qQ P (E.tScal c)=true) (hfo:ql P TU idx=some off) (hdf:c.ok df) :
  KY.OK P E T x ver fx L s ⟨k,off,.scal c df,kScal E x TP TU s idx k c⟩:=by
 refine ⟨rfl,hk,?_,?_⟩
 ·intro w sb B
  refine ⟨fun k h=>h.elim,fun w' _ _=>⟨?_,trivial⟩⟩
  simp only[Ty.dz,Ty.dflt,Ty.Rep]
  exact ⟨trivial,hdf⟩
 intro n t b rb sb pb po B ev a w st F c0 d0 Q hs hn ht hst hp hsn hf h1 h2 h3 hB hrB hsB hvB hBw _ _ hsup kn kr
 have hnL:=hs.nL;have hLt:=hs.Lt;have h7:=hs.seven;have hrd:=hs.rd;have hvs:=hs.vs
 have hkt:=hs.kt
 simp only[kScal,Ty.size] at hn ht hf kn kr ⊢
 simp only[List.cons_append,List.nil_append]
 refine vS (m_krHead HK hs (by omega) (by omega) hst ?_)
 intro a3 w3 rb' hf3 hst3 hr3 hE03 hrb1 hrb2
 have hz3a:=hf3.size
 have hev3:=hst3.err
 have h3n:=hst3.p7
 have hz3:=hE03.size
 have hrlt:=hst.rd.rb_lt
 have hslt:=hst.rd.lt
 have hevw:E.vErr<w.heap.size:=qj hst.err
 have hs':RSl { x with rd:=n } L (n+1) (t+4) fx:=hs.inner (by omega)
 refine vS (ja (x:={ x with rd:=n }) (K:=KR L (n+1) (t+4)) h3n (H.scal c hr rb' sb ((xg st).1,false) w3 hst3.rd) hs'.kt (hs'.kn (n+1) (Nat.le_refl _) (by omega)) (by omega) (by omega) ?_)
 rintro a4 v w4 hf4 he4 ⟨⟨hv,hvo⟩,hr4,hE4⟩
 have hz4:=hf4.size
 have hs4:=hE4.size
 have hf4':Fr (KR L n t) a a4:=hf3.trans (hf4.mono (KR.mono (by omega) (by omega)))
 have hp4:a4.eval (.tmp s)=.pointer (some ⟨pb,po,none⟩):=by rw[hf4'.slot _ (.inl hsn)];exact hp
 have h4n:a4.eval (.tmp n)=.pointer (some ⟨rb',0,none⟩):=by rw[hf4.slot _ (.inl (by omega))];exact h3n
 have hE04:Eff (RM rb) w w4:=hE03.trans' hE4 (by rintro k i hk ⟨e,_⟩;omega)
 have hfr4:qq w4 pb (po+off):=by
  have:=(hf 0 (by omega)).eff hE04
  simpa using this
 unfold yx
 refine vX (rM ?_)
 simp only[Bool.false_eq_true,if_false]
 refine rM ?_
 refine qV (ad:=⟨pb,po,none⟩) (by simp (disch:=(try simp only[sP]);omega) only[eV,hp4]) ?_
 refine rF (b:=pb) (o:=po) (by simp (disch:=(try simp only[sP]);omega) only[eV]) hfo ?_
 refine xq (b:=pb) (o:=po+off) (v:=c.val (c.rd ((xg st).1,false)).1) (by simp (disch:=(try simp only[sP]);omega) only[eV]) (by simp (disch:=(try simp only[sP]);omega) only[eV,he4,hv]) (by cases c<;>rfl) ho hfr4 ?_
 refine dn ?_
 generalize ha5:Act.put _ (some (t+5+3)) _=a5
 have hf5:Fr (KR L (n+1) (t+4)) a4 a5:=by
  subst ha5
  exact ((((Fr.refl _ a4).put _ (hs'.kt _ (by omega))).put _ (hs'.kt _ (by omega))).put _ (hs'.kt _ (by omega))).put _ (hs'.kt _ (by omega))
 have hz5:=hf5.size
 clear ha5
 have hE5:Eff (fun k i=>k=pb/\i=po+off) w4 (w4.setCell ⟨pb,po+off,none⟩ (c.val (c.rd ((xg st).1,false)).1)):=(Eff.refl _ w4).setCell _ _ _ (fun _=>⟨rfl,rfl⟩)
 have hc5:(w4.setCell ⟨pb,po+off,none⟩ (c.val (c.rd ((xg st).1,false)).1)).cell? ⟨pb,po+off,none⟩=some (c.val (c.rd ((xg st).1,false)).1):=qo _ hfr4.1
 have hr5:RdS (w4.setCell ⟨pb,po+off,none⟩ (c.val (c.rd ((xg st).1,false)).1)) rb' sb (c.rd ((xg st).1,false)).2:=(show RdS w4 rb' sb (c.rd ((xg st).1,false)).2 from hr4).keep hE5 (by rintro i ⟨e,_⟩;omega) (by rintro i ⟨e,_⟩;exact h2 e.symm)
 have hr5o:RdS (w4.setCell ⟨pb,po+off,none⟩ (c.val (c.rd ((xg st).1,false)).1)) rb sb (xg st).2:=(hr3.keep hE4 (by rintro i ⟨e,_⟩;omega) (by rintro i ⟨e,_⟩;omega)).keep hE5 (by rintro i ⟨e,_⟩;exact h1 e.symm) (by rintro i ⟨e,_⟩;exact h2 e.symm)
 have hev5:(w4.setCell ⟨pb,po+off,none⟩ (c.val (c.rd ((xg st).1,false)).1)).cell? ⟨E.vErr,0,none⟩=some ev:=hE5.cellSome (hE04.cellSome hst.err (fun hh=>hst.evr hh.1)) (by rintro ⟨e,_⟩;exact h3 e.symm)
 have hE:Eff (FMF rb pb (po+off) 1 F) w (w4.setCell ⟨pb,po+off,none⟩ (c.val (c.rd ((xg st).1,false)).1)):=(hE04.mono (fun k i _ h=>.inl (.inl h))).trans (hE5.mono (by rintro k i _ ⟨e1,e2⟩;exact .inl (.inr ⟨e1,by omega,by omega⟩)))
 generalize w4.setCell ⟨pb,po+off,none⟩ (c.val (c.rd ((xg st).1,false)).1)=w5 at *
 have hf5':Fr (KR L n t) a a5:=hf4'.trans (hf5.mono (KR.mono (by omega) (by omega)))
 refine m_krEnd H HK (x:={ x with rd:=n }) (K:=KR L (n+1) (t+4)) (sb:=sb) (st:=(c.rd ((xg st).1,false)).2) hr5 hev5 hst.evi (by rw[hf5.slot _ (.inl (by show n<n+1;omega))];exact h4n) (fun d hd=>hs'.kt d (by omega)) (hs'.kn _ (by omega) (by omega)) (by omega) (by omega) (by omega) ?_ ?_
 ·intro hgood a6 hf6
  have hf6':Fr (KR L n t) a a6:=hf5'.trans (hf6.mono (KR.mono (by omega) (by omega)))
  have hfr:=hst.fr hs hf6'
  refine kn a6 w5 [c.val (c.rd ((xg st).1,false)).1] (.int (c.rd ((xg st).1,false)).1) (fun _=>False) hf6' ⟨hr5o,hfr.p7,hfr.us,hfr.ver,hfr.fl,hev5,hst.evr,hst.evi⟩ rfl ?_ ⟨fun k h=>h.elim,fun w' _ _=>⟨⟨rfl,hvo⟩,trivial⟩⟩ (fun k h=>h.elim) hE (fun _=>⟨?_,?_⟩)
  ·intro j u hu
   cases j with
   | zero=>simp only[List.getElem?_cons_zero,Option.some.injEq] at hu;subst hu;exact hc5
   | succ j=>simp at hu
  ·show (!((Ty.scal c df).rd fx ver ((xg st).1,false)).2.2)=true
   simp only[Ty.rd,hgood,Bool.not_false]
  ·simp only[KY.val,Ty.rd]
 ·intro hbad a6 g1 g2 g3
  refine kr a6 w5 (by rw[g1,hf5'.defers]) (by rw[g2,hf5'.size]) g3 hE (.inr ?_)
  show (!((Ty.scal c df).rd fx ver ((xg st).1,false)).2.2)=false
  simp only[Ty.rd,hbad,Bool.not_true]
end
end Go.Km
namespace Go.Km
open Go Go.RowKit
attribute [local irreducible] vc rO_ qz qI qF
mutual
theorem Ty.rt_rd (x:Cx) (r:Nat):∀ t:Ty,t.rt { x with rd:=r }=t.rt x
 | .list _ _ e=>by simp only[Ty.rt,Ty.rt_rd x r e]
 | .struct _ _ _ fs | .nstruct _ _ _ fs _=>by simp only[Ty.rt,Flds.rt_rd x r fs]
 | .scal _ _ | .named _ _ _ | .uuid | .text | .ntext | .ntextFrom _ | .bytes | .nbytes=>rfl
theorem Flds.rt_rd (x:Cx) (r:Nat):∀ (fs:Flds) {kz:List Nat},fs.rt { x with rd:=r } kz=fs.rt x kz
 | .nil _,_=>rfl
 | .cons v t fs,kz=>by cases v<;>simp only[Flds.rt,Ty.rt_rd x r t,Flds.rt_rd x r fs]
end
mutual
theorem Ty.okR_rd {P:Program} {E:Env} (x:Cx) (r:Nat):∀ t:Ty,t.okR P E { x with rd:=r }=t.okR P E x
 | .list _ _ e=>by simp only[Ty.okR,Ty.okR_rd x r e];rfl
 | .struct _ TU _ fs | .nstruct _ TU _ fs _=>by simp only[Ty.okR,Flds.okR_rd x r fs]
 | .scal _ _ | .named _ _ _ | .uuid | .text | .ntext | .ntextFrom _ | .bytes | .nbytes=>rfl
theorem Flds.okR_rd {P:Program} {E:Env} (x:Cx) (r:Nat):∀ (fs:Flds) {TU idx off m:Nat},fs.okR P E { x with rd:=r } TU idx off m=fs.okR P E x TU idx off m
 | .nil _,_,_,_,_=>rfl
 | .cons _ t fs,_,_,_,_=>by simp only[Flds.okR,Ty.okR_rd x r t,Flds.okR_rd x r fs]
end
mutual
theorem Ty.zc_one:∀ (t:Ty),∀ v ∈ t.zc,v.oneCell'=true
 | .scal k _,v,h | .named k _ _,v,h=>by simp only[Ty.zc,List.mem_singleton] at h;subst h;exact k.val_one 0
 | .uuid,v,h=>by simp only[Ty.zc,List.mem_replicate] at h;rw[h.2];rfl
 | .text,v,h | .ntext,v,h | .ntextFrom _,v,h | .nstruct _ _ _ _ _,v,h | .bytes,v,h | .nbytes,v,h | .list _ _ _,v,h=>by simp only[Ty.zc,List.mem_singleton] at h;subst h;rfl
 | .struct _ _ _ fs,v,h=>Flds.zc_one fs v h
theorem Flds.zc_one:∀ (fs:Flds),∀ v ∈ fs.zc,v.oneCell'=true
 | .nil t,v,h=>by
  cases t with
  | false=>simp[Flds.zc] at h
  | true=>simp only[Flds.zc,if_true,List.mem_singleton] at h;subst h;rfl
 | .cons _ t r,v,h=>by
  simp only[Flds.zc,List.mem_append] at h
  exact h.elim (Ty.zc_one t v) (Flds.zc_one r v)
end
def kList (E:Env) (x:Cx) (TP TU:TypeId) (s idx k:Nat) (ty:Ty):KRd :=
 { k:=k,casN:=3+0+ty.rn,casT:=4+ty.h+ty.rt x+4,casB:=ty.wb,cas:=fun n t b=>krHead E x n t::(Ty.rc E { x with rd:=n } TP TU s idx (n+1) (t+4) b ty++[yx TP TU (ty.T E) ty.arr (n+1+ty.rslot) s idx (t+4+ty.rt x)]++krEnd E { x with rd:=n } (n+2+ty.rn) (t+8+ty.rt x)) }
section
variable {P : Program} {E : Env} {T : List (Nat × List UInt8) → Prop}
set_option maxHeartbeats 1000000 in
theorem kList_ok (H:EnvR P E T) (HK:EnvRK P E T) {x:Cx} {ver:Nat} {fx:Bool} {L TP TU TS s idx k off:Nat} {e:Ty} (hlf:e.tp=none->e.np=false->e.RVal P E T) (hfs:∀ TP TU FD fs,e=.struct TP TU FD fs->fs.RVal P E T) (hk:k<4294967296)
  (hok:(Ty.list TS none e).okR P E x=true) (htx:(Ty.list TS none e).txR P E) (hfo:ql P TU idx=some off):KY.OK P E T x ver fx L s ⟨k,off,.list TS none e,kList E x TP TU s idx k (.list TS none e)⟩:=by
 refine ⟨rfl,hk,?_,?_⟩
 ·exact fun w sb B=>⟨fun k h=>h.elim,fun w' _ _=>⟨.inl rfl,none,0,0,rfl,.inl ⟨rfl,rfl,rfl⟩⟩⟩
 intro n t b rb sb pb po B ev a w st F c0 d0 Q hs hn ht hst hp hsn hf h1 h2 h3 hB hrB hsB hvB hBw hcl hc0 hsup kn kr
 have hnL:=hs.nL;have hLt:=hs.Lt;have h7:=hs.seven;have hrd:=hs.rd;have hvs:=hs.vs
 have hrt:=Ty.rt_rd x n (.list TS none e)
 have hokx:(Ty.list TS none e).okR P E { x with rd:=n }=true:=by rw[Ty.okR_rd];exact hok
 simp only[Ty.size] at hf hcl
 simp only[kList,Ty.h,Ty.tp,Nat.add_zero] at hn ht
 simp only[kList,Ty.size,Ty.h,Ty.tp,Ty.arr,Ty.rslot,Nat.add_zero,Ty.T] at kn kr ⊢
 rw[← hrt] at ht ⊢
 have hn0:n+5<=L:=by
  simp only[Ty.rn] at hn
  cases htp:e.tp<;>simp only[htp] at hn<;>omega
 obtain ⟨ad0,len0,cap0,rfl,hown⟩:=hsup.rep.2
 have hcell:w.cell? ⟨pb,po+off,none⟩=some (.slice ad0 len0 cap0):=by have:=hc0 0 _ rfl;simpa using this
 refine vS (m_krHead HK hs (by omega) (by omega) hst ?_)
 intro a3 w3 rb' hf3 hst3 hr3 hE03 hrb1 hrb2
 have hz3a:=hf3.size
 have hz3:=hE03.size
 have hrlt:=hst.rd.rb_lt
 have hslt:=hst.rd.lt
 have hevw:E.vErr<w.heap.size:=qj hst.err
 have hs':RSl { x with rd:=n } L (n+1) (t+4) fx:=hs.inner (by omega)
 have hcell3:w3.cell? ⟨pb,po+off,none⟩=some (.slice ad0 len0 cap0):=hE03.cellSome hcell (by rintro ⟨e,_⟩;exact h1 e)
 have hp3:a3.eval (.tmp s)=.pointer (some ⟨pb,po,none⟩):=by rw[hf3.slot _ (.inl hsn)];exact hp
 generalize hx':({ x with rd:=n }:Cx)=x' at *
 have hxn:x'.rd=n:=by rw[← hx']
 generalize hst':(((xg st).1,false):RSt)=st' at *
 have hchk:∀ kr:KRd,KY.chk fx ver ⟨k,off,.list TS none e,kr⟩ (xg st).1 = !((Ty.list TS none e).rd fx ver st').2.2:=by
  intro kr
  rw[← hst']
  rfl
 have hval:∀ kr:KRd,KY.val fx ver ⟨k,off,.list TS none e,kr⟩ (xg st).1=((Ty.list TS none e).rd fx ver st').1:=by
  intro kr
  rw[← hst']
  rfl
 -- what may turn behind the head
 have hFne:∀ k,F k->k≠rb'/\k≠sb/\k≠E.vErr/\k≠rb/\k≠pb:=by
  intro k hF
  have:=hsup.1 k hF
  omega
 have hslF:∀ k,SlM ad0 cap0 k->F k:=by
  rintro k ⟨g1,g2⟩
  rcases hown with ⟨_,_,g3⟩ | ⟨q,g3,g4,_⟩
  ·exact absurd g3 g1
  ·rw[g2] at g3;cases g3;exact g4
 have hE0:∀ {M:Nat->Nat->Prop} {w4:World},Eff M w3 w4->(∀ k i,k<w3.heap.size->M k i->k=rb'\/F k)->Eff (FMF rb pb (po+off) 1 F) w w4:=by
  intro M w4 hE hM
  refine (hE03.mono (fun k i _ h=>.inl (.inl h))).trans' hE ?_
  intro k i hk hm
  rcases hM k i (by omega) hm with h | h
  ·omega
  ·exact .inr h
 simp only[Ty.okR,Bool.and_eq_true,Bool.not_eq_true'] at hokx
 obtain ⟨⟨⟨⟨hlen,hTS⟩,hnl⟩,hnp⟩,hoke⟩:=hokx
 have hnp:e.np=false:=by simpa using hnp
 simp only[Ty.txR] at htx
 obtain ⟨⟨te,hBt,hz⟩,htxe⟩:=htx
 obtain ⟨zv,hzt,hzc⟩:∃ z,qH P te=some z/\z.cells.toList=e.zc:=by
  cases h:qH P te with
  | none=>rw[h] at hz;cases hz
  | some z=>rw[h] at hz;exact ⟨z,rfl,by simpa using hz⟩
 have hn':n+1+4+(match e.tp with | some _=>2 | none=>1)+e.rn<=L:=by
  simp only[Ty.rn] at hn
  cases htp:e.tp<;>simp only[htp] at hn ⊢<;>omega
 have ht1:t+4+5+(match x'.fl with | none=>1 | some _=>3)+0+3+2+5+5+e.h+e.rt x'+1=t+4+(Ty.list TS none e).rt x':=by
  simp only[Ty.rt,Option.isSome_none,Bool.false_eq_true,if_false]
  cases hx:x'.fl<;>simp only[hx]<;>omega
 have hbadr:(xl fx st').2.2=true->((Ty.list TS none e).rd fx ver st').2.2=true:=fun h=>by simp only[Ty.rd,h,if_true]
 have hmk:∀ d:Nat,t+4<=d->¬ KR L (n+1) (t+4) d:=hs'.kt
 -- the end: the row is in its slot
 have fin:∀ (a5:Act) (w5:World) (v:Value) (d:D) (t5:Nat),t+4<=t5->t5+1=t+4+(Ty.list TS none e).rt x'->Fr (KR L (n+1) (t+4)) a3 a5->RSta E x' ver fx rb' sb ev a5 w5 ((Ty.list TS none e).rd fx ver st').2->a5.eval (.tmp (n+1+1))=v->v.oneCell'=true->Eff (fun k i=>k=rb'\/F k) w3 w5 →
   (∀ w',w5.heap.size<=w'.heap.size->(∀ k,k=sb\/F k\/(w.heap.size<=k/\k<w5.heap.size)->w'.heap[k]? = w5.heap[k]?)->(Ty.list TS none e).Rep w' ⟨sb,T⟩ B [v] d/\(Ty.list TS none e).Own (fun k=>F k\/(w.heap.size<=k/\k<w5.heap.size)) w' [v]) →
   (((Ty.list TS none e).rd fx ver st').2.2=false->d=((Ty.list TS none e).rd fx ver st').1) →
   vc P (sq (rg [qd t5 (.tmp (n+1+1)) TS,qc (n+1) (.tmp t5) TS]::yx TP TU TS false (n+1) s idx (t+4+(Ty.list TS none e).rt x')::krEnd E x' (n+2+(Ty.list TS none e).rn) (t+8+(Ty.list TS none e).rt x'))) Q a5 w5:=by
  intro a5 w5 v d t5 ht5 ht5e hf5 hst5 hv hv1 hE5 hsup5 hd
  have hz5:=hf5.size
  have hw5:=hE5.size
  refine vX (rM (rA (dn ?_)))
  have hf6:∀ u1 u2,Fr (KR L (n+1) (t+4)) a3 ((a5.put (some t5) u1).put (some (n+1)) u2):=fun u1 u2=>(hf5.put _ (hmk _ ht5)).put _ (hs'.kn _ (Nat.le_refl _) (by omega))
  have hv6:((a5.put (some t5) (a5.eval (.tmp (n+1+1)))).put (some (n+1)) ((a5.put (some t5) (a5.eval (.tmp (n+1+1)))).eval (.tmp t5))).eval (.tmp (n+1))=v:=by
   rw[← hv]
   simp (disch:=(try simp only[sP]);omega) only[eV]
  have hf6':=hf6 (a5.eval (.tmp (n+1+1))) ((a5.put (some t5) (a5.eval (.tmp (n+1+1)))).eval (.tmp t5))
  generalize (a5.put (some t5) (a5.eval (.tmp (n+1+1)))).put (some (n+1)) _=a6 at *
  have hz6:=hf6'.size
  have hp6:a6.eval (.tmp s)=.pointer (some ⟨pb,po,none⟩):=by rw[hf6'.slot _ (.inl (by omega))];exact hp3
  have hE05:Eff (FMF rb pb (po+off) 1 F) w w5:=hE0 hE5 (fun k i _ h=>h)
  have hfr5:qq w5 pb (po+off):=by
   have:=(hf 0 (by omega)).eff hE05
   simpa using this
  unfold yx
  refine vX (rM ?_)
  simp only[Bool.false_eq_true,if_false]
  refine rM ?_
  refine qV (ad:=⟨pb,po,none⟩) (by simp (disch:=(try simp only[sP]);omega) only[eV,hp6]) ?_
  refine rF (b:=pb) (o:=po) (by simp (disch:=(try simp only[sP]);omega) only[eV]) hfo ?_
  refine xq (b:=pb) (o:=po+off) (v:=v) (by simp (disch:=(try simp only[sP]);omega) only[eV]) (by simp (disch:=(try simp only[sP]);omega) only[eV,hv6]) hv1 hTS hfr5 ?_
  refine dn ?_
  generalize ha7:Act.put _ (some (t+4+(Ty.list TS none e).rt x'+3)) _=a7
  have hf7:Fr (KR L (n+1) (t+4)) a6 a7:=by
   subst ha7
   exact ((((Fr.refl _ a6).put _ (hmk _ (by omega))).put _ (hmk _ (by omega))).put _ (hmk _ (by omega))).put _ (hmk _ (by omega))
  have hz7:=hf7.size
  clear ha7
  have hE7:Eff (fun k i=>k=pb/\i=po+off) w5 (w5.setCell ⟨pb,po+off,none⟩ v):=(Eff.refl _ w5).setCell _ _ _ (fun _=>⟨rfl,rfl⟩)
  have hc7:(w5.setCell ⟨pb,po+off,none⟩ v).cell? ⟨pb,po+off,none⟩=some v:=qo _ hfr5.1
  generalize w5.setCell ⟨pb,po+off,none⟩ v=w7 at *
  have hw7:=hE7.size
  have hr7:RdS w7 rb' sb ((Ty.list TS none e).rd fx ver st').2:=hst5.rd.keep hE7 (by rintro i ⟨e,_⟩;omega) (by rintro i ⟨e,_⟩;exact h2 e.symm)
  have hr7o:RdS w7 rb sb (xg st).2:=(hr3.keep hE5 (by rintro i (h | h);omega;exact (hFne _ h).2.2.2.1 rfl) (by rintro i (h | h);omega;exact (hFne _ h).2.1 rfl)).keep hE7 (by rintro i ⟨e,_⟩;exact h1 e.symm) (by rintro i ⟨e,_⟩;exact h2 e.symm)
  have hev7:w7.cell? ⟨E.vErr,0,none⟩=some ev:=hE7.cellSome hst5.err (by rintro ⟨e,_⟩;exact h3 e.symm)
  have hE:Eff (FMF rb pb (po+off) 1 F) w w7:=hE05.trans (hE7.mono (by rintro k i _ ⟨e1,e2⟩;exact .inl (.inr ⟨e1,by omega,by omega⟩)))
  have hf7':Fr (KR L n t) a a7:=hf3.trans ((hf6'.trans hf7).mono (KR.mono (by omega) (by omega)))
  have h7n:a7.eval (.tmp x'.rd)=.pointer (some ⟨rb',0,none⟩):=by
   rw[hxn,hf7.slot _ (.inl (by omega)),hf6'.slot _ (.inl (by omega)),← hxn]
   exact hst3.p7
  refine m_krEnd H HK (x:=x') (K:=KR L (n+1) (t+4)) (sb:=sb) (st:=((Ty.list TS none e).rd fx ver st').2) hr7 hev7 hst.evi h7n (fun d hd=>hmk d (by omega)) (hs'.kn _ (by omega) (by omega)) (by omega) (by omega) (by omega) ?_ ?_
  ·intro hgood a8 hf8
   have hf8':Fr (KR L n t) a a8:=hf7'.trans (hf8.mono (KR.mono (by omega) (by omega)))
   have hfr:=hst.fr hs hf8'
   have hke:∀ k,k≠pb->w7.heap[k]? = w5.heap[k]? ∨ ¬ k<w5.heap.size:=fun k hk=>by
    rcases Nat.lt_or_ge k w5.heap.size with h | h
    ·exact .inl (hE7.blockEq h (fun i h=>hk h.1))
    ·exact .inr (by omega)
   refine kn a8 w7 [v] d (fun k=>F k\/(w.heap.size<=k/\k<w5.heap.size)) hf8' ⟨hr7o,hfr.p7,hfr.us,hfr.ver,hfr.fl,hev7,hst.evr,hst.evi⟩ rfl ?_ ⟨?_,?_⟩ (fun k h=>h.imp id (fun h=>h.1)) hE (fun _=>⟨?_,?_⟩)
   ·intro j u hu
    cases j with
    | zero=>simp only[List.getElem?_cons_zero,Option.some.injEq] at hu;subst hu;exact hc7
    | succ j=>simp at hu
   ·rintro k (h | h)
    ·have:=hsup.1 k h
     omega
    ·omega
   ·intro w' hw' hk'
    refine hsup5 w' (by omega) (fun k hk=>?_)
    rw[hk' k hk]
    have hkp:k≠pb:=by
     rcases hk with h | h | h
     ·omega
     ·exact (hFne _ h).2.2.2.2
     ·omega
    refine (hke k hkp).resolve_right (fun h=>h ?_)
    rcases hk with h | h | h
    ·omega
    ·have:=hsup.1 k h
     omega
    ·exact h.2
   ·rw[hchk,hgood]
    rfl
   ·rw[hval]
    exact hd hgood
  ·intro hbad a8 g1 g2 g3
   refine kr a8 w7 (by rw[g1,hf7'.defers]) (by rw[g2,hf7'.size]) g3 hE (.inr ?_)
   rw[hchk,hbad]
   rfl
 -- the head, the elements
 rw[rc_list]
 simp only[Option.isSome_none,Bool.false_eq_true,if_false,List.append_assoc,List.cons_append,List.nil_append]
 refine m_listHead H (b0:=ad0) (n0:=len0) (c0:=cap0) hlen hTS hBt hzt hs' (by omega) (by rw[hz3a];cases hx:x'.fl<;>simp only[hx,Option.isSome_none,Bool.false_eq_true,if_false] at ht1 ⊢<;>omega) hst3 hp3 (by omega) hfo hcell3 ?_ ?_ ?_
 ·intro hcap
  rcases hown with ⟨_,_,g3⟩ | ⟨q,g3,g4,g5⟩
  ·exact absurd g3 hcap
  ·exact ⟨by rw[hzc];exact Ty.zc_one e,q,g3,(hFne q g4).1,(hFne q g4).2.1,(hFne q g4).2.2.1,fun i hi=>(g5 i hi).eff hE03⟩
 ·intro a4 w4 v hf4 hst4 hnb hy hz4 hE4 hL
  have hz4a:=hf4.size
  have hw4:=hE4.size
  have hGM:∀ k i,GM rb' ad0 cap0 k i->k=rb'\/F k:=fun k i h=>h.imp (fun h=>h.1) (hslF k)
  have hlb:(xl fx st').1<=big:=by
   have g1:=rdCn_le hnb
   have g2:=hst4.rd.len
   omega
  generalize ht2:t+4+5+(match x'.fl with | none=>1 | some _=>3)+0+3+2+5=t2 at *
  have hs2:RSl x' L (n+1) t2 fx:=hs'.up (Nat.le_refl _) (by omega) (by omega)
  rcases hL with ⟨hl0,base,bc,rfl,hbase⟩ | ⟨hl0,q,cap,rfl,hq1,hq2,hlc,hcz,hfz⟩
  ·simp only[j4,Bool.false_eq_true,if_false] at hbase
   obtain ⟨rfl,rfl⟩:=hbase
   have hrdl:(Ty.list TS none e).rd fx ver st'=(.list none,(xl fx st').2):=by
    simp only[Ty.rd,hnb,Bool.false_eq_true,if_false]
    rw[if_pos hl0]
    simp[j4]
   refine vS (m_rloop (len:=0) (S:=fun _=>(xl fx st').2) (J:=fun _ w'=>w'=w4) (R:=fun _=>False) hs2 (by omega) (by omega) hz4 (by omega) hlb hst4 rfl (fun i _ _ hi=>absurd hi (Nat.not_lt_zero i)) ?_ (fun _ _ _ _ _ h=>h.elim))
   rintro a5 w5 hf5 hst5 rfl
   refine fin a5 w5 (.slice base 0 bc) (.list none) _ (by omega) (by omega) (hf4.trans (hf5.mono (KR.mono (by omega) (by omega)))) (by rw[hrdl];exact hst5) (by rw[hf5.slot _ (.inl (by omega))];exact hy) rfl (hE4.mono (fun k i _ h=>hGM k i h)) ?_ (fun _=>by rw[hrdl])
   intro w' hw' hk'
   rcases hown with ⟨rfl,rfl,rfl⟩ | ⟨q,rfl,g4,g5⟩
   ·exact ⟨.inl rfl,none,0,0,rfl,.inl ⟨rfl,rfl,rfl⟩⟩
   ·have hq:=hsup.1 q g4
    refine ⟨.inr ⟨rfl,q,_,rfl,hq.1,by omega⟩,_,_,_,rfl,.inr ⟨q,rfl,.inl g4,fun i hi=>?_⟩⟩
    exact zh (hk' q (.inr (.inl g4))) (((g5 i hi).eff hE03).eff hE4)
  ·have hrdl:(Ty.list TS none e).rd fx ver st'=(.list (some (qX (fun s=>e.rd fx ver s) (xl fx st').1.toNat (xl fx st').2).1),(qX (fun s=>e.rd fx ver s) (xl fx st').1.toNat (xl fx st').2).2):=by
    simp only[Ty.rd,hnb,Bool.false_eq_true,if_false]
    rw[if_neg (by omega)]
   generalize hlenN:(xl fx st').1.toNat=len at *
   rw[hzc] at hcz
   have hqF:F q\/w3.heap.size<=q:=hq1.elim .inr (fun h=>.inl (hslF q h))
   have hqne:q≠rb'/\q≠sb/\q≠E.vErr:=by
    rcases hqF with h | h
    ·exact ⟨(hFne q h).1,(hFne q h).2.1,(hFne q h).2.2.1⟩
    ·omega
   have hqB:B<=q:=by
    rcases hqF with h | h
    ·exact (hsup.1 q h).1
    ·omega
   have hrbw:rb'<w4.heap.size:=by omega
   refine vS (m_listLoop (fun h=>hlf h hnp) hfs (q:=q) (Bq:=w4.heap.size) (len:=len) (cap:=cap) hoke hnl htxe hBt hs2 (by omega) (by omega) hst4 hy hz4 hlenN.symm hlb hcz (fun i hi=>hfz i (by have:=Nat.mul_le_mul_right e.size hlc;omega)) hqne.1 hqne.2.1 hqne.2.2 hrbw hq2 (Nat.le_refl _) hst3.rd.ne ?_ ?_)
   ·intro a5 w5 ds hf5 hst5 hE5 hdl hds hdeq
    have hw5:=hE5.size
    have hE35:Eff (fun k i=>k=rb'\/F k) w3 w5:=by
     refine (hE4.mono (fun k i _ h=>hGM k i h)).trans' hE5 ?_
     rintro k i hk (h | h)
     ·exact .inl h.1
     ·subst h
      exact .inr (hqF.resolve_right (by omega))
    refine fin a5 w5 (.slice (some ⟨q,0,none⟩) len cap) (.list (some ds)) _ (by omega) (by omega) (hf4.trans (hf5.mono (KR.mono (by omega) (by omega)))) (by rw[hrdl];exact hst5) (by rw[hf5.slot _ (.inl (by omega))];exact hy) rfl hE35 ?_ ?_
    ·intro w' hw' hk'
     have hqk:F q\/(w.heap.size<=q/\q<w5.heap.size):=hqF.imp id (fun h=>by omega)
     refine ⟨⟨q,cap,by rw[hdl],hqB,by omega,by omega,fun j d hj=>?_⟩,_,_,_,rfl,.inr ⟨q,rfl,hqk,fun i hi=>?_⟩⟩
     ·obtain ⟨c,m1,m2,m3⟩:=hds j d hj
      refine ⟨c,m1,yd m2 (fun _=>hk' q (.inr hqk)),Ty.Rep.blk e w4.heap.size (q+1) c d ⟨hw',fun _=>hk' sb (.inl rfl),fun k g1 g2=>hk' k (.inr (.inr ⟨by omega,g2⟩))⟩ (by omega) m3⟩
     ·exact zh (hk' q (.inr hqk)) ((hfz i hi).eff hE5)
    ·intro h
     rw[hrdl] at h ⊢
     rw[hdeq h]
   ·intro a5 w5 g1 g2 g3 g4 g5
    have hE35:Eff (fun k i=>k=rb'\/F k) w3 w5:=by
     refine (hE4.mono (fun k i _ h=>hGM k i h)).trans' g4 ?_
     rintro k i hk (h | h)
     ·exact .inl h.1
     ·subst h
      exact .inr (hqF.resolve_right (by omega))
    refine kr a5 w5 (by rw[g1,hf4.defers,hf3.defers]) (by rw[g2,hz4a,hz3a]) g3 (hE0 hE35 (fun k i _ h=>h)) (.inr ?_)
    rw[hchk,hrdl,g5]
    rfl
 ·intro a4 w4 g1 g2 g3 g4 g5
  refine kr a4 w4 (by rw[g1,hf3.defers]) (by rw[g2,hz3a]) g3 (hE0 g4 (fun k i _ h=>.inl h.1)) (.inr ?_)
  rw[hchk,hbadr g5]
  rfl
end
end Go.Km
namespace Go.Km
open Go Go.RowKit
attribute [local irreducible] vc rO_ qz qI qF
theorem kT (ck:Nat->List UInt8->Bool):∀ (n:Nat) (acc:List (Nat × List UInt8)) (st:RSt),qD ck (n+1) acc st=(qx (xp (qD ck n acc st).2).1.1 (xp (qD ck n acc st).2).1.2 (qD ck n acc st).1,((xp (qD ck n acc st).2).2.1,(xp (qD ck n acc st).2).2.2 || !ck (xp (qD ck n acc st).2).1.1 (xp (qD ck n acc st).2).1.2))
 | 0,acc,st=>rfl
 | n+1,acc,st=>by
  rw[qD,kT ck n _ _]
  rfl
theorem yS {ck:Nat->List UInt8->Bool} {st:RSt} {j:Nat}:∀ {n:Nat},j<=n->(qD ck j [] st).2.2=true->(qD ck n [] st).2.2=true
 | 0,h,hb=>by
  have:j=0:=by omega
  subst this
  exact hb
 | n+1,h,hb=>by
  rcases Nat.eq_or_lt_of_le h with rfl | h
  ·exact hb
  ·have ih:=yS (n:=n) (by omega) hb
   rw[kT]
   cases hh:(xp (qD ck n [] st).2).2.2 with
   | true=>simp[hh]
   | false=>rw[yn hh] at ih;cases ih
theorem ya (k:Nat) (p:List UInt8):∀ l:List (Nat × List UInt8),(qx k p l).find? (fun x=>x.1==k)=some (k,p)
 | []=>by simp[qx]
 | x::l=>by
  unfold qx
  split
  ·simp
  ·split
   ·simp
   ·rename_i h1 h2
    rw[List.find?_cons_of_neg (by simp;omega)]
    exact ya k p l
theorem yZ {k j:Nat} (h:j≠k) (p:List UInt8):∀ l:List (Nat × List UInt8),(qx k p l).find? (fun x=>x.1==j)=l.find? (fun x=>x.1==j)
 | []=>by simp[qx];omega
 | x::l=>by
  unfold qx
  split
  ·rw[List.find?_cons_of_neg (by simp;omega)]
  ·split
   ·rename_i h1 h2
    rw[List.find?_cons_of_neg (by simp;omega),List.find?_cons_of_neg (by simp;omega)]
   ·by_cases hx:x.1=j
    ·rw[List.find?_cons_of_pos (by simpa using hx),List.find?_cons_of_pos (by simpa using hx)]
    ·rw[List.find?_cons_of_neg (by simpa using hx),List.find?_cons_of_neg (by simpa using hx)]
     exact yZ h p l
theorem yb {k m:Nat} (h:k<m) (p:List UInt8):∀ l:List (Nat × List UInt8),(qx k p l).filter (fun x=>decide (m<=x.1))=l.filter (fun x=>decide (m<=x.1))
 | []=>by simp[qx];omega
 | x::l=>by
  unfold qx
  split
  ·rw[List.filter_cons_of_neg (by simp;omega)]
  ·split
   ·rename_i h1 h2
    rw[List.filter_cons_of_neg (by simp;omega),List.filter_cons_of_neg (by simp;omega)]
   ·rw[List.filter_cons,List.filter_cons,yb h p l]
theorem jF {k m:Nat} (h:m<=k) (p:List UInt8):∀ l:List (Nat × List UInt8),(qx k p l).filter (fun x=>decide (m<=x.1))=qx k p (l.filter (fun x=>decide (m<=x.1)))
 | []=>by simp[qx];omega
 | x::l=>by
  conv=>lhs;unfold qx
  split
  ·rename_i h1
   rw[List.filter_cons_of_pos (by simpa using h),List.filter_cons_of_pos (by simp;omega)]
   rw[qx,if_pos h1]
  ·split
   ·rename_i h1 h2
    rw[List.filter_cons_of_pos (by simpa using h),List.filter_cons_of_pos (by simp;omega)]
    rw[qx,if_neg h1,if_pos h2]
   ·rename_i h1 h2
    by_cases hx:m<=x.1
    ·rw[List.filter_cons_of_pos (by simpa using hx),List.filter_cons_of_pos (by simpa using hx),qx,if_neg h1,if_neg h2,jF h p l]
    ·rw[List.filter_cons_of_neg (by simpa using hx),List.filter_cons_of_neg (by simpa using hx),jF h p l]
abbrev FK (rb pb po off n:Nat) (kts:List KY):Nat->Nat->Prop:=fun k i=>RM rb k i\/(k=pb/\((po+off<=i/\i<po+off+n)\/∃ y ∈ kts,po+y.off<=i/\i<po+y.off+y.ty.size))
structure KtOK (P:Program) (E:Env) (T:List (Nat × List UInt8)->Prop) (x:Cx) (ver:Nat) (fx:Bool) (L s:Nat) (kts:List KY) (ck:Nat->List UInt8->Bool) (off pb po:Nat) (w:World):Prop where
 ok:∀ y ∈ kts,y.OK P E T x ver fx L s
 ks:kts.map (·.k)=List.range kts.length
 ck1:∀ y ∈ kts,∀ p,ck y.k p=y.chk fx ver p
 ck0:∀ j,kts.length<=j->∀ p,ck j p=true
 pos:∀ y ∈ kts,y.off+y.ty.size<=off
 sep:kts.Pairwise fun y z=>y.off+y.ty.size<=z.off
 dz:∀ y ∈ kts,qb w pb (po+y.off) y.ty.dz
 free:∀ y ∈ kts,∀ i,i<y.ty.size->qq w pb (po+y.off+i)
section
variable {P : Program} {E : Env} {T : List (Nat × List UInt8) → Prop} {x : Cx} {ver : Nat} {fx : Bool} {L s : Nat} {kts : List KY} {ck : Nat → List UInt8 → Bool} {off pb po : Nat} {w : World}
theorem KtOK.at (h:KtOK P E T x ver fx L s kts ck off pb po w) (i:Nat) (hi:i<kts.length):(kts[i]).k=i:=by
 have:=congrArg (·[i]?) h.ks
 simp[hi] at this
 exact this
theorem KtOK.lt (h:KtOK P E T x ver fx L s kts ck off pb po w) {y:KY} (hy:y ∈ kts):y.k<kts.length:=by
 obtain ⟨i,hi,rfl⟩:=List.getElem_of_mem hy
 rw[h.at i hi];exact hi
theorem KtOK.has (h:KtOK P E T x ver fx L s kts ck off pb po w) {k:Nat} (hk:k<kts.length):∃ y ∈ kts,y.k=k:=⟨kts[k],List.getElem_mem hk,h.at k hk⟩
theorem KtOK.uniq (h:KtOK P E T x ver fx L s kts ck off pb po w) {y z:KY} (hy:y ∈ kts) (hz:z ∈ kts) (e:y.k=z.k):y=z:=by
 obtain ⟨i,hi,rfl⟩:=List.getElem_of_mem hy
 obtain ⟨j,hj,rfl⟩:=List.getElem_of_mem hz
 rw[h.at i hi,h.at j hj] at e
 subst e
 rfl
theorem KtOK.apart (h:KtOK P E T x ver fx L s kts ck off pb po w) {y z:KY} (hy:y ∈ kts) (hz:z ∈ kts) (e:y.k≠z.k):y.off+y.ty.size<=z.off\/z.off+z.ty.size<=y.off:=by
 obtain ⟨i,hi,rfl⟩:=List.getElem_of_mem hy
 obtain ⟨j,hj,rfl⟩:=List.getElem_of_mem hz
 rw[h.at i hi,h.at j hj] at e
 have hp:=List.pairwise_iff_getElem.1 h.sep
 rcases Nat.lt_or_gt_of_ne e with h | h
 ·exact .inl (hp i j hi hj h)
 ·exact .inr (hp j i hj hi h)
theorem KtOK.eff {rb n:Nat} {w':World} (h:KtOK P E T x ver fx L s kts ck off pb po w) (hE:Eff (FM rb pb (po+off) n) w w') (h1:pb≠rb):KtOK P E T x ver fx L s kts ck off pb po w' :=
 ⟨h.ok,h.ks,h.ck1,h.ck0,h.pos,h.sep,fun y hy=>(h.dz y hy).eff hE (by
  rintro i hi (⟨e,_⟩ | ⟨_,e,_⟩)
  ·exact h1 e
  ·have:=h.pos y hy
   rw[Ty.dz_len] at hi
   omega),fun y hy i hi=>(h.free y hy i hi).eff hE⟩
end
def KYs (fx:Bool) (ver:Nat) (w:World) (pb po B:Nat) (sb:Sb) (kts:List KY) (good:Prop) (tags:List (Nat × List UInt8)):Prop :=
 ∀ y ∈ kts,∃ (c:List Value) (d:D),c.length=y.ty.size/\qb w pb (po+y.off) c/\y.ty.Rep w sb B c d/\(good->d=y.get fx ver tags)
structure KYI (fx:Bool) (ver:Nat) (w:World) (pb po B:Nat) (sb:Sb) (kts:List KY) (Fs:Nat->Nat->Prop) (v:Value) (good:Prop) (tags:List (Nat × List UInt8)):Prop where
 at':∀ y ∈ kts,∃ (c:List Value) (d:D),c.length=y.ty.size/\qb w pb (po+y.off) c/\Sup sb B (Fs y.k) y.ty w c d/\(good->d=y.get fx ver tags)
 sep:∀ y ∈ kts,∀ z ∈ kts,y.k≠z.k->∀ k,Fs y.k k->¬ Fs z.k k
 map:∀ y ∈ kts,∀ k,Fs y.k k->v≠.map (some k)
theorem KYI.ys {fx:Bool} {ver pb po B B':Nat} {sb:Sb} {w:World} {kts:List KY} {Fs:Nat->Nat->Prop} {v:Value} {good:Prop} {tags:List (Nat × List UInt8)} (h:KYI fx ver w pb po B sb kts Fs v good tags) (hB:B'<=B):KYs fx ver w pb po B' sb kts good tags:=by
 intro y hy
 obtain ⟨c,d,k1,k2,k3,k4⟩:=h.at' y hy
 exact ⟨c,d,k1,k2,Ty.Rep.blk y.ty B B' c d ⟨Nat.le_refl _,fun _=>rfl,fun _ _ _=>rfl⟩ hB k3.rep.1,k4⟩
theorem KY.get_same (fx:Bool) (ver:Nat) (y:KY) (p:List UInt8) (tags:List (Nat × List UInt8)):y.get fx ver (qx y.k p tags)=y.val fx ver p:=by
 unfold KY.get Ver.getT
 simp only[ya]
theorem KY.get_ne (fx:Bool) (ver:Nat) (y:KY) {k:Nat} (h:y.k≠k) (p:List UInt8) (tags:List (Nat × List UInt8)):y.get fx ver (qx k p tags)=y.get fx ver tags:=by
 unfold KY.get Ver.getT
 simp only[yZ h]
theorem zx.repT {T:List (Nat × List UInt8)->Prop} {w:World} {sb B B':Nat} {v:Value} {tags:List (Nat × List UInt8)} (h:zx w sb B v tags) (hs:sb<w.heap.size) (hT:T tags) (hB:B'<=B):xG w ⟨sb,T⟩ B' v tags:=by
 obtain ⟨k1,_,k3⟩:=h.rep hs
 refine ⟨k1,hT,?_⟩
 rcases k3 with k3 | ⟨q,es,clock,k4,k5,k7,k6,k8,k9,l,k11,k12,k13⟩
 ·exact .inl k3
 ·refine .inr ⟨q,es,clock,k4,by omega,k7,k6,k8,k9,l,k11,k12,fun j x hx=>?_⟩
  obtain ⟨e,m1,m2,m3⟩:=k13 j x hx
  exact ⟨e,m1,m2,m3.imp id (fun ⟨c,o,cap,z1,z2,z3⟩=>⟨c,o,cap,z1,z2.imp id (fun h=>by omega),z3⟩)⟩
section
variable {P : Program} {E : Env} {T : List (Nat × List UInt8) → Prop}
theorem m_krChain {x:Cx} {ver:Nat} {fx:Bool} {L s key k rb sb pb po B:Nat} {ev:Value} {d:Code} {Fs:Nat->Nat->Prop}:∀ (kt:List KY) (n t b:Nat) (a:Act) (w:World) (st:RSt) (Q:Exit->Act->World->Prop),(∀ y ∈ kt,y.OK P E T x ver fx L s)->RSl x L n t fx->n+(kt.map (·.krd.casN)).sum<=L->t+(kt.map fun y=>2+y.krd.casT).sum<=a.tmps.size →
  key<t->L<=key->a.eval (.tmp key)=.int .u32 (k:Int)->RSta E x ver fx rb sb ev a w st->a.eval (.tmp s)=.pointer (some ⟨pb,po,none⟩)->s<n->(∀ y ∈ kt,∀ i,i<y.ty.size->qq w pb (po+y.off+i))->pb≠rb->pb≠sb->pb≠E.vErr->pb<B->rb<B->sb<B->E.vErr<B->B<=w.heap.size →
  (∀ y ∈ kt,∃ (c0:List Value) (d0:D),c0.length=y.ty.size/\qb w pb (po+y.off) c0/\Sup ⟨sb,T⟩ B (Fs y.k) y.ty w c0 d0) →
  (∀ y ∈ kt,y.k=k->∀ a' w' c d F',Fr (KR L n t) a a'->RSta E x ver fx rb sb ev a' w' (xg st).2->c.length=y.ty.size->qb w' pb (po+y.off) c->Sup ⟨sb,T⟩ B F' y.ty w' c d->(∀ k,F' k->Fs y.k k\/w.heap.size<=k)->Eff (FMF rb pb (po+y.off) y.ty.size (Fs y.k)) w w' →
   ((xg st).2.2=false->y.chk fx ver (xg st).1=true/\d=y.val fx ver (xg st).1)->Q .normal a' w') →
  (∀ y ∈ kt,y.k=k->∀ a' w',a'.defers=a.defers->a'.tmps.size=a.tmps.size->a'.eval (.tmp 6)=ev->Eff (FMF rb pb (po+y.off) y.ty.size (Fs y.k)) w w'->((xg st).2.2=true\/y.chk fx ver (xg st).1=false)->Q .ret a' w') →
  ((∀ y ∈ kt,y.k≠k)->∀ a',Fr (KR L n t) a a'->(∀ j:Nat,j<t->a'.eval (.tmp j)=a.eval (.tmp j))->vc P d Q a' w)->vc P (gl E key d (kt.map (·.krd)) n t b) Q a w
 | [],n,t,b,a,w,st,Q,hok,hs,hn,ht,hkt,hLk,hk,hst,hp,hsn,hf,h1,h2,h3,hB,hrB,hsB,hvB,hBw,hsup,kn,kr,kd=>kd (by simp) a (Fr.refl _ a) (fun _ _=>rfl)
 | y::kt,n,t,b,a,w,st,Q,hok,hs,hn,ht,hkt,hLk,hk,hst,hp,hsn,hf,h1,h2,h3,hB,hrB,hsB,hvB,hBw,hsup,kn,kr,kd=>by
  have hnL:=hs.nL;have hLt:=hs.Lt
  simp only[List.map_cons,List.sum_cons] at hn ht
  simp only[List.map_cons,gl]
  obtain ⟨o1,o2,o4,o5⟩:=hok y (by simp)
  obtain ⟨c0,d0,u1,u2,u3⟩:=hsup y (by simp)
  refine vX ?_
  refine xA (k:=.u32) (m:=(k:Int)) (n:=(y.krd.k:Int)) (by simp (disch:=(try simp only[sP]);omega) only[eV,hk]) rfl ?_
  refine rA (dn ?_)
  generalize hA:Act.put _ (some t) _=A
  have hf1:Fr (KR L n t) a A:=by subst hA;exact ((Fr.refl _ a).put _ (hs.kt _ (by omega))).put _ (hs.kt _ (by omega))
  have he:∀ j,j<t->A.eval (.tmp j)=a.eval (.tmp j):=by intro j hj;subst hA;simp (disch:=(try simp only[sP]);omega) only[eV]
  have hc:A.eval (.tmp t)=.bool ((k:Int)==(y.krd.k:Int)):=by subst hA;simp (disch:=(try simp only[sP]);omega) only[eV]
  have hz:=hf1.size
  clear hA
  have hst':=hst.fr hs hf1
  refine vS (vC (t:=((k:Int)==(y.krd.k:Int))) hc ?_ ?_)
  ·intro hkk
   have hkk:y.k=k:=by
    have:=eq_of_beq hkk
    omega
   refine o5 n (t+2) b rb sb pb po B ev A w st (Fs y.k) c0 d0 _ (hs.up (Nat.le_refl _) hs.nL (by omega)) (by omega) (by rw[hz];omega) hst' (by rw[he s (by omega)];exact hp) hsn (hf y (by simp)) h1 h2 h3 hB hrB hsB hvB hBw u1 u2 u3 ?_ ?_
   ·intro a' w' c d F' g1 g2 g3 g4 g5 g6 g7 g8
    exact vN (kn y (by simp) hkk a' w' c d F' (hf1.trans (g1.mono (KR.mono (Nat.le_refl _) (by omega)))) g2 g3 g4 g5 g6 g7 g8)
   ·intro a' w' g1 g2 g3 g4 g5
    exact kr y (by simp) hkk a' w' (by rw[g1,hf1.defers]) (by rw[g2,hz]) g3 g4 g5
  ·intro hkk
   have hkk:y.k≠k:=by
    rintro h
    rw[← o1] at h
    rw[h] at hkk
    simp at hkk
   refine qZ _ (m_krChain kt (n+y.krd.casN) (t+2+y.krd.casT) (b+y.krd.casB) A w st Q (fun z hz=>hok z (by simp[hz])) (hs.up (by omega) (by omega) (by omega)) (by omega) (by rw[hz];omega) (by omega) hLk (by rw[he key hkt];exact hk) hst' (by rw[he s (by omega)];exact hp) (by omega) (fun z hz=>hf z (by simp[hz])) h1 h2 h3 hB hrB hsB hvB hBw (fun z hz=>hsup z (by simp[hz])) ?_ ?_ ?_) (fun e a w h=>by cases e<;>first | exact vN h | exact h)
   ·intro z hz hzk a' w' c d F' g1
    exact kn z (by simp[hz]) hzk a' w' c d F' (hf1.trans (g1.mono (KR.mono (by omega) (by omega))))
   ·intro z hz' hzk a' w' g1 g2
    exact kr z (by simp[hz']) hzk a' w' (by rw[g1,hf1.defers]) (by rw[g2,hz])
   ·intro hno a' g1 g2
    refine kd ?_ a' (hf1.trans (g1.mono (KR.mono (by omega) (by omega)))) (fun j hj=>by rw[g2 j (by omega),he j hj])
    intro z hz
    rcases List.mem_cons.1 hz with rfl | hz
    ·exact hkk
    ·exact hno z hz
end
end Go.Km
namespace Go.Km
open Go Go.RowKit
attribute [local irreducible] vc rO_ qz qI qF
section
variable {P : Program} {E : Env} {T : List (Nat × List UInt8) → Prop}
theorem rdTag_pay (st:RSt):xp st=(((qp st).1,(xg (qp st).2).1),(xg (qp st).2).2):=rfl
structure KInv (P:Program) (E:Env) (T:List (Nat × List UInt8)->Prop) (x:Cx) (ver:Nat) (fx:Bool) (rb sb pb po off B:Nat) (ev:Value) (kts:List KY) (ck:Nat->List UInt8->Bool) (st1:RSt) (w0:World) (i:Nat) (v:Value) (tg:List (Nat × List UInt8)) (A:Act) (W:World):Prop where
 st:RSta E x ver fx rb sb ev A W (qD ck i [] st1).2
 cell:W.cell? ⟨pb,po+off,none⟩=some v
 free:qq W pb (po+off)
 tag:zx W sb w0.heap.size v tg
 low:∀ x ∈ tg,kts.length<=x.1
 eq:(qD ck i [] st1).2.2=false->tg=(qD ck i [] st1).1.filter (fun x=>decide (kts.length<=x.1))
 ys:∃ Fs,KYI fx ver W pb po w0.heap.size ⟨sb,T⟩ kts Fs v ((qD ck i [] st1).2.2=false) (qD ck i [] st1).1
 eff:Eff (FK rb pb po off 1 kts) w0 W
theorem KYI.eff {fx:Bool} {ver pb po B sb rb:Nat} {w w':World} {kts:List KY} {Fs:Nat->Nat->Prop} {v:Value} {good:Prop} {tags:List (Nat × List UInt8)} (h:KYI fx ver w pb po B ⟨sb,T⟩ kts Fs v good tags) (hE:Eff (RM rb) w w') (h1:pb≠rb) (hs:sb<w.heap.size) (hrs:rb≠sb) (hrB:rb<B):KYI fx ver w' pb po B ⟨sb,T⟩ kts Fs v good tags:=by
 refine ⟨fun y hy=>?_,h.sep,h.map⟩
 obtain ⟨c,d,k1,k2,k3,k4⟩:=h.at' y hy
 exact ⟨c,d,k1,k2.eff hE (by rintro i hi ⟨e,_⟩;exact h1 e),k3.eff hE hs (by rintro i ⟨e,_⟩;exact hrs e.symm) (by rintro k i hk ⟨e,_⟩;have:=(k3.1 k hk).1;omega),k4⟩
theorem zx.effG {M:Nat->Nat->Prop} {sb B:Nat} {w w':World} {v:Value} {tags:List (Nat × List UInt8)} (hm:zx w sb B v tags) (he:Eff M w w') (hs:sb<w.heap.size) (h1:∀ i,¬ M sb i) (h2:∀ q,v=.map (some q)->∀ i,¬ M q i):zx w' sb B v tags:=by
 refine hm.heap (he.blockEq hs h1) he.size ?_
 rintro q rfl
 obtain ⟨_,h3⟩:=hm
 rcases h3 with ⟨h3,_⟩ | ⟨q',l,hv,hq,hqs,_⟩
 ·cases h3
 ·cases hv
  exact he.blockEq hqs (h2 q rfl)
theorem zx.lt {sb B q:Nat} {w:World} {tags:List (Nat × List UInt8)} (hm:zx w sb B (.map (some q)) tags):B<=q/\q<w.heap.size:=by
 rcases hm.2 with ⟨h,_⟩ | ⟨q',l,hv,hq,hqs,_⟩
 ·cases h
 ·cases hv;exact ⟨hq,hqs⟩
set_option maxHeartbeats 1000000 in
theorem m_tagStep (H:EnvR P E T) (HK:EnvRK P E T) {x:Cx} {ver:Nat} {fx:Bool} {L TP TU s idx off n t b rb sb pb po B N i:Nat} {ev v:Value} {A:Act} {w0 W:World} {st1:RSt} {Q:Exit->Act->World->Prop} {kts:List KY} {ck:Nat->List UInt8->Bool} {tg:List (Nat × List UInt8)}
  (hKt:KtOK P E T x ver fx L s kts ck off pb po w0) (hfo:ql P TU idx=some off) (hs:RSl x L n t fx) (hn:n+(2+(kts.map (·.krd.casN)).sum)<=L) (ht:t+(16+(kts.map fun y=>2+y.krd.casT).sum)<=A.tmps.size)
  (hp:A.eval (.tmp s)=.pointer (some ⟨pb,po,none⟩)) (hsn:s<n) (h1:pb≠rb) (h2:pb≠sb) (h3:pb≠E.vErr) (hB:pb<B) (hrB:rb<B) (hBw:B<=w0.heap.size) (hslt:sb<w0.heap.size) (hve:E.vErr<w0.heap.size) (hI:KInv P E T x ver fx rb sb pb po off B ev kts ck st1 w0 i v tg A W) (hiN:i<N)
  (kn:∀ A' W' v' tg',Fr (KR L (n+1) t) A A'->KInv P E T x ver fx rb sb pb po off B ev kts ck st1 w0 (i+1) v' tg' A' W'->Q .normal A' W')
  (kr:∀ A' W',A'.defers=A.defers->A'.tmps.size=A.tmps.size->A'.eval (.tmp 6)=ev->Eff (FK rb pb po off 1 kts) w0 W'->(qD ck N [] st1).2.2=true->Q .ret A' W') :
  vc P (sq [rg [xf (some (t+6)) E.rUvar #[.tmp x.rd] #[E.tRd] E.tW,qc (n+1) (.tmp (t+6)) E.tW],rg [qd (t+7) (.tmp (n+1)) E.tW],
     .block (b+2) (gl E (t+7) (krSet E x TP TU s idx (n+1) (t+8)) (kts.map (·.krd)) (n+2) (t+16) (b+3))]) Q A W:=by
 have hnL:=hs.nL;have hLt:=hs.Lt;have h7:=hs.seven;have hrd:=hs.rd;have hvs:=hs.vs
 have hs1:RSl x L (n+1) t fx:=hs.up (by omega) (by omega) (Nat.le_refl _)
 have hkt:=hs1.kt
 have hst:=hI.st
 have hW:=hI.eff.size
 refine vX ?_
 refine q8 (args:=#[.pointer (some ⟨rb,0,none⟩)]) ?_ (HK.cU rb sb _ W hst.rd) ?_
 ·simp only[lM]
  simp (disch:=(try simp only[sP]);omega) only[eV,hst.p7]
 rintro v1 w1 ⟨rfl,hr1,hE1,_⟩
 refine rA (dn (vX (rM (dn ?_))))
 have hsnoc:=kT ck i [] st1
 rw[rdTag_pay] at hsnoc
 generalize hS:(qD ck i [] st1).2=S at *
 generalize hraw:(qD ck i [] st1).1=raw at *
 have hklt:=ze S
 generalize hkey:(qp S).1=key at *
 generalize hS1:(qp S).2=S1 at *
 have hbadS:(xg S1).2.2=false->S.2=false:=by
  intro h
  have h':S1.2=false:=zp (qO h)
  rw[← hS1] at h'
  exact zp h'
 generalize hA2:Act.put _ (some (t+7)) _=A2
 have hf2:Fr (KR L (n+1) t) A A2:=by
  subst hA2
  exact (((Fr.refl _ A).put _ (hkt _ (by omega))).put _ (hs1.kn (n+1) (Nat.le_refl _) (by omega))).put _ (hkt _ (by omega))
 have k2k:A2.eval (.tmp (t+7))=.int .u32 (key:Int):=by subst hA2;simp (disch:=(try simp only[sP]);omega) only[eV]
 have k2n:A2.eval (.tmp (n+1))=.int .u32 (key:Int):=by subst hA2;simp (disch:=(try simp only[sP]);omega) only[eV]
 have hz2:=hf2.size
 clear hA2
 have hst2:RSta E x ver fx rb sb ev A2 w1 S1:=hst.step hs1 hf2 hr1 hE1
 have hp2:A2.eval (.tmp s)=.pointer (some ⟨pb,po,none⟩):=by rw[hf2.slot _ (.inl (by omega))];exact hp
 have hz1:=hE1.size
 have hEw1:Eff (FK rb pb po off 1 kts) w0 w1:=hI.eff.trans (hE1.mono (fun k i _ h=>.inl h))
 obtain ⟨Fs,hys⟩:=hI.ys
 have hys1:KYI fx ver w1 pb po w0.heap.size ⟨sb,T⟩ kts Fs v (S.2=false) raw:=by
  have:=hys.eff hE1 h1 (by omega) hst.rd.ne (by omega)
  rwa [hS,hraw] at this
 have hFlt:∀ y ∈ kts,∀ k,Fs y.k k->w0.heap.size<=k/\k<w1.heap.size:=by
  intro y hy k hk
  obtain ⟨c,d,_,_,k3,_⟩:=hys1.at' y hy
  exact k3.1 k hk
 have htag1:zx w1 sb w0.heap.size v tg:=hI.tag.eff hE1 (by omega) hst.rd.ne (by omega)
 have hcell1:w1.cell? ⟨pb,po+off,none⟩=some v:=hE1.cellSome hI.cell (by rintro ⟨e,_⟩;exact h1 e)
 have hfree1:qq w1 pb (po+off):=hI.free.eff hE1
 have hfr0:∀ y ∈ kts,∀ j,j<y.ty.size->qq w1 pb (po+y.off+j):=fun y hy j hj=>(hKt.free y hy j hj).eff hEw1
 refine vS (qh ?_)
 refine m_krChain (k:=key) (L:=L) (s:=s) (rb:=rb) (sb:=sb) (pb:=pb) (po:=po) (B:=w0.heap.size) (ev:=ev) (Fs:=Fs) kts (n+2) (t+16) (b+3) A2 w1 S1 _ hKt.ok (hs.up (by omega) (by omega) (by omega)) (by omega) (by rw[hz2];omega) (by omega) (by omega) k2k hst2 hp2 (by omega) hfr0 h1 h2 h3 (by omega) (by omega) hslt hve (by omega) (fun y hy=>by obtain ⟨c,d,k1,k2,k3,_⟩:=hys1.at' y hy;exact ⟨c,d,k1,k2,k3⟩) ?_ ?_ ?_
 ·
  intro y hy hyk a' w' c d F' g1 g2 g3 g4 g5 g5' g6 g7
  have hyl:=hKt.lt hy
  have hpos:=hKt.pos y hy
  have hck:(xg S1).2.2=false->ck key (xg S1).1=true:=fun h=>by rw[← hyk,hKt.ck1 y hy];exact (g7 h).1
  have hnext:(qD ck (i+1) [] st1).2=(xg S1).2:=by
   rw[hsnoc]
   cases hb:(xg S1).2.2 with
   | true=>simp only[Bool.true_or];rw[← hb]
   | false=>simp only[hck hb,Bool.not_true,Bool.or_false];rw[← hb]
  have hraw':(qD ck (i+1) [] st1).1=qx key (xg S1).1 raw:=by rw[hsnoc]
  have hE6:Eff (FK rb pb po off 1 kts) w0 w':=hEw1.trans' g6 (by
   rintro k j hk ((h | ⟨e1,e2,e3⟩) | h)
   ·exact .inl h
   ·exact .inr ⟨e1,.inr ⟨y,hy,e2,e3⟩⟩
   ·have:=hFlt y hy k h
    omega)
  have hnF:∀ k,k<w0.heap.size->¬ Fs y.k k:=fun k hk h=>by
   have:=hFlt y hy k h
   omega
  refine vN (kn a' w' v tg (hf2.trans (g1.mono (KR.mono (by omega) (by omega)))) ⟨by rw[hnext];exact g2,?_,hfree1.eff g6,?_,hI.low,?_,?_,hE6⟩)
  ·refine g6.cellSome hcell1 ?_
   rintro ((⟨e,_⟩ | ⟨_,_,e⟩) | h)
   ·exact h1 e
   ·omega
   ·exact hnF pb (by omega) h
  ·refine htag1.effG g6 (by omega) ?_ ?_
   ·rintro j ((⟨e,_⟩ | ⟨e,_⟩) | h)
    ·exact hst.rd.ne e.symm
    ·exact h2 e.symm
    ·exact hnF sb hslt h
   ·rintro q rfl j hj
    have hq:=htag1.lt
    rcases hj with (⟨e,_⟩ | ⟨e,_⟩) | h
    ·omega
    ·omega
    ·exact hys1.map y hy q h rfl
  ·rw[hnext,hraw',yb (by omega)]
   intro h
   rw[← hraw]
   have:=hI.eq (by rw[hS];exact hbadS h)
   exact this
  ·rw[hnext,hraw']
   refine ⟨fun j=>if j=y.k then F' else Fs j,fun z hz=>?_,?_,?_⟩
   ·by_cases hzy:z.k=y.k
    ·obtain rfl:=hKt.uniq hz hy hzy
     refine ⟨c,d,g3,g4,by rw[if_pos rfl];exact g5,fun h=>?_⟩
     rw[← hyk,KY.get_same]
     exact (g7 h).2
    ·obtain ⟨c',d',k1,k2,k3,k4⟩:=hys1.at' z hz
     refine ⟨c',d',k1,k2.eff g6 ?_,?_,fun h=>?_⟩
     ·rintro j hj ((⟨e,_⟩ | ⟨_,e2,e3⟩) | h)
      ·exact h1 e
      ·rw[k1] at hj
       rcases hKt.apart hz hy hzy with h | h<;>omega
      ·exact hnF pb (by omega) h
     ·rw[if_neg hzy]
      refine k3.eff g6 (by show sb<_;omega) ?_ ?_
      ·rintro j ((⟨e,_⟩ | ⟨e,_⟩) | h)
       ·exact hst.rd.ne e.symm
       ·exact h2 e.symm
       ·exact hnF sb hslt h
      ·rintro k j hk ((⟨e,_⟩ | ⟨e,_⟩) | h)
       ·have:=k3.1 k hk;omega
       ·have:=k3.1 k hk;omega
       ·exact hys1.sep z hz y hy hzy k hk h
     ·rw[KY.get_ne _ _ _ (by omega)]
      exact k4 (hbadS h)
   ·intro z1 hz1 z2 hz2' hne k hk1 hk2
    by_cases e1:z1.k=y.k
    ·rw[if_pos e1] at hk1
     rw[if_neg (by omega)] at hk2
     rcases g5' k hk1 with h | h
     ·exact hys1.sep z2 hz2' y hy (by omega) k hk2 h
     ·have:=hFlt z2 hz2' k hk2;omega
    ·rw[if_neg e1] at hk1
     by_cases e2:z2.k=y.k
     ·rw[if_pos e2] at hk2
      rcases g5' k hk2 with h | h
      ·exact hys1.sep z1 hz1 y hy (by omega) k hk1 h
      ·have:=hFlt z1 hz1 k hk1;omega
     ·rw[if_neg e2] at hk2
      exact hys1.sep z1 hz1 z2 hz2' hne k hk1 hk2
   ·rintro z hz k hk rfl
    have hq:=htag1.lt
    by_cases e1:z.k=y.k
    ·rw[if_pos e1] at hk
     rcases g5' k hk with h | h
     ·exact hys1.map y hy k h rfl
     ·omega
    ·rw[if_neg e1] at hk
     exact hys1.map z hz k hk rfl
 ·
  intro y hy hyk a' w' g1 g2 g3 g4 g5
  have hpos:=hKt.pos y hy
  refine kr a' w' (by rw[g1,hf2.defers]) (by rw[g2,hz2]) g3 (hEw1.trans' g4 ?_) ?_
  ·rintro k j hk ((h | ⟨e1,e2,e3⟩) | h)
   ·exact .inl h
   ·exact .inr ⟨e1,.inr ⟨y,hy,e2,e3⟩⟩
   ·have:=hFlt y hy k h
    omega
  ·refine yS (j:=i+1) hiN ?_
   rw[hsnoc]
   rcases g5 with h | h
   ·simp only[h,Bool.true_or]
   ·rw[← hKt.ck1 y hy,hyk] at h
    simp only[h,Bool.not_false,Bool.or_true]
 ·
  intro hno A3 hf3 he3
  have hkey2:kts.length<=key:=by
   rcases Nat.lt_or_ge key kts.length with h | h
   ·obtain ⟨y,hy,e⟩:=hKt.has h
    exact absurd e (hno y hy)
   ·exact h
  have hz3:=hf3.size
  have hst3:RSta E x ver fx rb sb ev A3 w1 S1:=hst2.fr hs1 (hf3.mono (KR.mono (by omega) (by omega)))
  refine m_krSet HK (K:=KR L (n+1) t) hst3.rd hst3.p7 (by rw[he3 s (by omega)];exact hp2) (by rw[he3 (n+1) (by omega)];exact k2n) (by omega) hfo hcell1 hfree1 htag1 (by omega) hslt (by omega) h1 h2 (fun d hd=>hkt d (by omega)) (by omega) (by omega) (by omega) (by rw[hz3,hz2];omega) ?_
  intro a' w2 w' v' g1 g2 g3 g4 g5 g6 g7 g8 gvv g9 g10
  change RdS w' rb sb (xg S1).2 at g5
  change zx w' sb w0.heap.size v' (qx key (xg S1).1 tg) at g10
  have hnext:(qD ck (i+1) [] st1).2=(xg S1).2:=by
   rw[hsnoc]
   simp only[hKt.ck0 key hkey2,Bool.not_true,Bool.or_false]
  have hraw':(qD ck (i+1) [] st1).1=qx key (xg S1).1 raw:=by rw[hsnoc]
  have hf':Fr (KR L (n+1) t) A a':=(hf2.trans (hf3.mono (KR.mono (by omega) (by omega)))).trans g1
  have hEw2:Eff (FK rb pb po off 1 kts) w0 w2:=hEw1.trans (g2.mono (fun k i _ h=>.inl h))
  have hEw':Eff (FK rb pb po off 1 kts) w0 w':=g3.eff hEw2 (fun q e=>g9.low q e) (fun _=>.inr ⟨rfl,.inl ⟨by omega,by omega⟩⟩)
  have hfr:=hst.fr hs1 hf'
  refine vN (kn a' w' v' _ hf' ⟨?_,g6,g8,g10,?_,?_,?_,hEw'⟩)
  ·rw[hnext]
   have he2:w2.cell? ⟨E.vErr,0,none⟩=some ev:=g2.cellSome hst3.err (fun hh=>hst3.evr hh.1)
   exact ⟨g5,hfr.p7,hfr.us,hfr.ver,hfr.fl,g3.cell he2 (g9.ne he2) (by rintro ⟨e,_⟩;exact h3 e.symm),hst.evr,hst.evi⟩
  ·intro z hz
   rcases kN _ _ _ z hz with rfl | hz
   ·exact hkey2
   ·exact hI.low z hz
  ·rw[hnext,hraw',jF hkey2]
   intro h
   rw[← hraw]
   have:=hI.eq (by rw[hS];exact hbadS h)
   rw[← this]
  ·rw[hnext,hraw']
   have hz2w:=g2.size
   refine ⟨Fs,fun z hz=>?_,hys1.sep,fun z hz k hk=>?_⟩
   ·obtain ⟨c',d',k1,k2,k3,k4⟩:=hys1.at' z hz
    have hpos:=hKt.pos z hz
    have k2':qb w2 pb (po+z.off) c':=k2.eff g2 (by rintro j hj ⟨e,_⟩;exact h1 e)
    refine ⟨c',d',k1,g3.cells k2' (g9.ne (g2.cellSome hcell1 (by rintro ⟨e,_⟩;exact h1 e))) ?_,?_,fun h=>?_⟩
    ·rintro j hj ⟨_,e⟩
     omega
    ·refine (k3.eff g2 (by show sb<_;omega) (by rintro i ⟨e,_⟩;exact hst.rd.ne e.symm) (by rintro k i hk ⟨e,_⟩;have:=k3.1 k hk;omega)).keep g3.size ?_
     intro k hk
     rcases hk with hk | hk
     ·simp only at hk
      subst hk
      exact g3.at (by omega) (fun e=>by have:=g9.low _ e;omega) (Ne.symm h2)
     ·have:=k3.1 k hk
      exact g3.at (by omega) (hys1.map z hz k hk) (by omega)
    ·rw[KY.get_ne _ _ _ (by have:=hKt.lt hz;omega)]
     exact k4 (hbadS h)
   ·rcases gvv with rfl | rfl
    ·exact hys1.map z hz k hk
    ·have:=hFlt z hz k hk
     intro e
     cases e
     omega
end
end Go.Km
namespace Go.Km
open Go Go.RowKit
attribute [local irreducible] vc rO_ qz qI qF
section
variable {P : Program} {E : Env} {T : List (Nat × List UInt8) → Prop}
set_option maxHeartbeats 1000000 in
theorem m_tagsK (H:EnvR P E T) (HK:EnvRK P E T) {x:Cx} {ver fl:Nat} {fx:Bool} {L TP TU s idx off n t b rb sb pb po B:Nat} {ev:Value} {a:Act} {w:World} {st:RSt} {Q:Exit->Act->World->Prop} {kts:List KY} {ck:Nat->List UInt8->Bool}
  (hKt:KtOK P E T x ver fx L s kts ck off pb po w) (hx:x.fl=some fl) (hfo:ql P TU idx=some off) (hs:RSl x L n t fx) (hn:n+(2+(kts.map (·.krd.casN)).sum)<=L) (ht:t+(16+(kts.map fun y=>2+y.krd.casT).sum)<=a.tmps.size) (hst:RSta E x ver fx rb sb ev a w st)
  (hp:a.eval (.tmp s)=.pointer (some ⟨pb,po,none⟩)) (hsn:s<n) (hc:w.cell? ⟨pb,po+off,none⟩=some (.map none)) (hf:qq w pb (po+off)) (h1:pb≠rb) (h2:pb≠sb) (h3:pb≠E.vErr) (hB:pb<B) (hrB:rb<B) (hBw:B<=w.heap.size)
  (kn:∀ a' w' v tg,Fr (KR L n t) a a'->RSta E x ver fx rb sb ev a' w' (if fx then (zD ck st).2 else st)->w'.cell? ⟨pb,po+off,none⟩=some v->zx w' sb w.heap.size v tg->(∀ z ∈ tg,kts.length<=z.1) →
   ((if fx then (zD ck st).2 else st).2=false->tg=(if fx then (zD ck st).1 else []).filter (fun x=>decide (kts.length<=x.1))) →
   KYs fx ver w' pb po B ⟨sb,T⟩ kts ((if fx then (zD ck st).2 else st).2=false) (if fx then (zD ck st).1 else [])->Eff (FK rb pb po off 1 kts) w w'->Q .normal a' w')
  (kr:∀ a' w',a'.defers=a.defers->a'.tmps.size=a.tmps.size->a'.eval (.tmp 6)=ev->Eff (FK rb pb po off 1 kts) w w'->(if fx then (zD ck st).2 else st).2=true->Q .ret a' w') :
  vc P (sq (rTagsK E x TP TU s idx n t b (kts.map (·.krd)))) Q a w:=by
 have hnL:=hs.nL;have hLt:=hs.Lt;have h7:=hs.seven;have hrd:=hs.rd;have hvs:=hs.vs
 have hkt:=hs.kt
 have hrlt:=hst.rd.rb_lt
 have hslt:=hst.rd.lt
 have htag0:zx w sb w.heap.size (.map none) []:=⟨⟨List.Pairwise.nil,by simp⟩,.inl ⟨rfl,rfl⟩⟩
 have hys:∀ good,KYI fx ver w pb po w.heap.size ⟨sb,T⟩ kts (fun _ _=>False) (.map none) good []:=fun good =>
  ⟨fun y hy=>⟨y.ty.dz,y.ty.dflt,Ty.dz_len _,hKt.dz y hy,(hKt.ok y hy).2.2.1 w _ _,fun _=>rfl⟩,fun _ _ _ _ _ _ h=>h.elim,fun _ _ _ h=>h.elim⟩
 simp only[rTagsK,hx]
 refine vS (vX (rM (dn ?_)))
 have hf0:Fr (KR L n t) a (a.put (some t) (a.eval (.tmp fl))):=(Fr.refl _ a).put _ (hkt _ (Nat.le_refl _))
 refine vS (vC (t:=fx) (by rw[qB _ _ _ (by omega)];exact hst.fl fl hx) ?_ ?_)
 rotate_left
 ·intro h
  subst h
  refine vK (vN (vN (kn _ w (.map none) [] hf0 (hst.fr hs hf0) hc htag0 (by simp) (fun _=>rfl) ((hys _).ys hBw) (Eff.refl _ _))))
 intro h
 subst h
 simp only[if_true] at kn kr
 refine vX ?_
 refine q8 (args:=#[.pointer (some ⟨rb,0,none⟩)]) ?_ (HK.cU rb sb st w hst.rd) ?_
 ·simp only[lM]
  simp (disch:=(try simp only[sP]);omega) only[eV,hst.p7]
 rintro v1 w1 ⟨rfl,hr1,hE1,_⟩
 refine rA (dn ?_)
 have hNlt:=ze st
 have hres:zD ck st=qD ck (qp st).1 [] (qp st).2:=rfl
 rw[hres] at kn kr
 generalize hN:(qp st).1=N at *
 generalize hst1:(qp st).2=st1 at *
 generalize hA1:Act.put _ (some n) _=A1
 have hf1:Fr (KR L n t) a A1:=by
  subst hA1
  exact (((Fr.refl _ a).put _ (hkt _ (by omega))).put _ (hkt _ (by omega))).put _ (hs.kn n (Nat.le_refl _) (by omega))
 have k1n:A1.eval (.tmp n)=.int .u32 ((N-0:Nat):Int):=by subst hA1;simp (disch:=(try simp only[sP]);omega) only[eV];rfl
 clear hA1
 have hz1:=hE1.size
 refine vS (qh (zU (fun A W=>∃ i v tg,i<=N/\Fr (KR L n t) a A/\A.eval (.tmp n)=.int .u32 ((N-i:Nat):Int)/\KInv P E T x ver true rb sb pb po off B ev kts ck st1 w i v tg A W) (fun A _=>(intOf (A.eval (.tmp n))).toNat) ?_ ?_))
 ·refine ⟨0,.map none,[],Nat.zero_le _,hf1,k1n,⟨hst.step hs hf1 hr1 hE1,hE1.cellSome hc (by rintro ⟨e,_⟩;exact h1 e),hf.eff hE1,htag0.eff hE1 (by omega) hst.rd.ne (by omega),by simp,fun _=>rfl,⟨_,(hys _).eff hE1 h1 hslt hst.rd.ne (by omega)⟩,hE1.mono (fun k i _ h=>.inl h)⟩⟩
 ·rintro A W ⟨i,v,tg,hi,hfA,hcnt,hI⟩
  have hzA:=hfA.size
  refine vS (vX (rM ?_))
  refine je (k:=.u32) (m:=((N-i:Nat):Int)) (n:=0) (by simp (disch:=(try simp only[sP]);omega) only[eV,hcnt]) rfl ?_
  refine dn ?_
  generalize hA2:Act.put _ (some (t+3)) _=A2
  have hs1:RSl x L (n+1) t true:=hs.up (by omega) (by omega) (Nat.le_refl _)
  have hf2:Fr (KR L (n+1) t) A A2:=by
   subst hA2
   exact ((Fr.refl _ A).put _ (hs1.kt _ (by omega))).put _ (hs1.kt _ (by omega))
  have hc2:A2.eval (.tmp (t+3))=.bool (decide (((N-i:Nat):Int)>0)):=by subst hA2;simp (disch:=(try simp only[sP]);omega) only[eV]
  clear hA2
  have hz2:=hf2.size
  have hI2:KInv P E T x ver true rb sb pb po off B ev kts ck st1 w i v tg A2 W:=⟨hI.st.fr hs1 hf2,hI.cell,hI.free,hI.tag,hI.low,hI.eq,hI.ys,hI.eff⟩
  have hcnt2:A2.eval (.tmp n)=.int .u32 ((N-i:Nat):Int):=by rw[hf2.slot _ (.inl (by omega))];exact hcnt
  refine vS (vC hc2 ?_ ?_)
  ·intro hgt
   have hiN:i<N:=by
    have:((N-i:Nat):Int)>0:=by simpa using hgt
    omega
   refine vK (vN ?_)
   refine vS (qh ?_)
   refine m_tagStep H HK hKt hfo hs hn (by rw[hz2,hzA];exact ht) (by rw[hf2.slot _ (.inl (by omega)),hfA.slot _ (.inl hsn)];exact hp) hsn h1 h2 h3 hB hrB hBw hslt (qj hst.err) hI2 hiN ?_ ?_
   ·intro A3 W3 v3 tg3 hf3 hI3
    have hz3:=hf3.size
    have hcnt3:A3.eval (.tmp n)=.int .u32 ((N-i:Nat):Int):=by rw[hf3.slot _ (.inl (by omega))];exact hcnt2
    show vc P (sq [rg _]) _ A3 W3
    refine vX (rM ?_)
    refine yE (k:=.u32) (m:=((N-i:Nat):Int)) (n:=1) (by simp (disch:=(try simp only[sP]);omega) only[eV,hcnt3]) rfl ?_
    rw[wrapu32 (by omega) (by omega)]
    refine rA (dn (vN ?_))
    generalize hA4:Act.put _ (some n) _=A4
    have hf4:Fr (KR L n t) A3 A4:=by
     subst hA4
     exact (((Fr.refl _ A3).put _ (hkt _ (by omega))).put _ (hkt _ (by omega))).put _ (hs.kn n (Nat.le_refl _) (by omega))
    have e4:A4.eval (.tmp n)=.int .u32 (((N-i:Nat):Int)-1):=by subst hA4;simp (disch:=(try simp only[sP]);omega) only[eV]
    have e1:((N-i:Nat):Int)-1=((N-(i+1):Nat):Int):=by omega
    rw[e1] at e4
    refine ⟨⟨i+1,v3,tg3,hiN,((hfA.trans (hf2.mono (KR.mono (by omega) (Nat.le_refl _)))).trans (hf3.mono (KR.mono (by omega) (Nat.le_refl _)))).trans hf4,e4,⟨hI3.st.fr hs hf4,hI3.cell,hI3.free,hI3.tag,hI3.low,hI3.eq,hI3.ys,hI3.eff⟩⟩,?_⟩
    show (intOf _).toNat<(intOf _).toNat
    rw[e4,hcnt]
    simp only[intOf,Int.toNat_natCast]
    omega
   ·intro A3 W3 g1 g2 g3 g4 g5
    exact kr A3 W3 (by rw[g1,hf2.defers,hfA.defers]) (by rw[g2,hz2,hzA]) g3 g4 g5
  ·intro hle
   have hiN:i=N:=by
    have:¬ (((N-i:Nat):Int)>0):=by simpa using hle
    omega
   subst hiN
   refine xc ?_
   simp only[Exit.then,Exit.inBlock,if_true]
   obtain ⟨Fs,hysF⟩:=hI2.ys
   exact vN (vN (vN (kn A2 W v tg (hfA.trans (hf2.mono (KR.mono (by omega) (Nat.le_refl _)))) hI2.st hI2.cell hI2.tag hI2.low hI2.eq (hysF.ys hBw) hI2.eff)))
end
def Flds.RValK (P:Program) (E:Env) (T:List (Nat × List UInt8)->Prop) (fs:Flds):Prop :=
 ∀ (x:Cx) (ver:Nat) (fx:Bool) (L:Nat) (TP TU:TypeId) (s idx off n t b rb sb pb po B:Nat) (ev:Value) (a:Act) (w:World) (st:RSt) (Q:Exit->Act->World->Prop) (kts:List KY) (ck:Nat->List UInt8->Bool),
  Flds.okR P E x TU idx off kts.length fs=true->fs.txR P E->RSl x L n t fx->n+Flds.rn (kts.map (·.krd.casN)) fs<=L->t+Flds.rt x (kts.map fun y=>2+y.krd.casT) fs<=a.tmps.size->RSta E x ver fx rb sb ev a w st->KtOK P E T x ver fx L s kts ck off pb po w →
  a.eval (.tmp s)=.pointer (some ⟨pb,po,none⟩)->s<n->qb w pb (po+off) fs.dz->(∀ i,i<fs.size->qq w pb (po+off+i))->pb≠rb->pb≠sb->pb≠E.vErr->pb<B->rb<B->B<=w.heap.size →
  (∀ a' w' cs ds tg,Fr (KR L n t) a a'->RSta E x ver fx rb sb ev a' w' (fs.rd fx ver ck st).2.2->cs.length=fs.size->qb w' pb (po+off) cs->fs.Rep w' ⟨sb,T⟩ B cs ds tg->(∀ z ∈ tg,kts.length<=z.1) →
   KYs fx ver w' pb po B ⟨sb,T⟩ kts ((fs.rd fx ver ck st).2.2.2=false) (fs.rd fx ver ck st).2.1->Eff (FK rb pb po off fs.size kts) w w' →
   ((fs.rd fx ver ck st).2.2.2=false->ds=(fs.rd fx ver ck st).1/\tg=(fs.rd fx ver ck st).2.1.filter (fun x=>decide (kts.length<=x.1)))->Q .normal a' w') →
  (∀ a' w',a'.defers=a.defers->a'.tmps.size=a.tmps.size->a'.eval (.tmp 6)=ev->Eff (FK rb pb po off fs.size kts) w w'->(fs.rd fx ver ck st).2.2.2=true->Q .ret a' w') →
  vc P (sq (Flds.rc E x TP TU s idx (kts.map (·.krd)) n t b fs)) Q a w
section
variable {P : Program} {E : Env} {T : List (Nat × List UInt8) → Prop}
theorem FK_nil {rb pb po off n:Nat} (m:Nat) (k i:Nat) (_:k<m) (h:FK rb pb po off n [] k i):FM rb pb (po+off) n k i:=by
 rcases h with h | ⟨e,h | ⟨y,hy,_⟩⟩
 ·exact .inl h
 ·exact .inr ⟨e,h⟩
 ·simp at hy
theorem Flds.RValK.plain {fs:Flds} (h:fs.RValK P E T):fs.RVal P E T:=by
 intro x ver fx L TP TU s idx off n t b rb sb pb po B ev a w st Q hok htx hs hn ht hst hp hsn hc hf h1 h2 h3 hB hrB hBw kn kr
 refine h x ver fx L TP TU s idx off n t b rb sb pb po B ev a w st Q [] noK hok htx hs hn ht hst ⟨by simp,rfl,by simp,fun _ _ _=>rfl,by simp,List.Pairwise.nil,by simp,by simp⟩ hp hsn hc hf h1 h2 h3 hB hrB hBw ?_ ?_
 ·intro a' w' cs ds tg g1 g2 g3 g4 g5 g6 g7 g8 g9
  refine kn a' w' cs ds tg g1 g2 g3 g4 g5 (g8.mono (FK_nil _)) (fun hh=>⟨(g9 hh).1,?_⟩)
  rw[(g9 hh).2]
  exact List.filter_eq_self.2 (by simp)
 ·intro a' w' g1 g2 g3 g4 g5
  exact kr a' w' g1 g2 g3 (g4.mono (FK_nil _)) g5
theorem fv_nil (H:EnvR P E T) (HK:E.rTags≠0->EnvRK P E T) (hT:T []) (b0:Bool):(Flds.nil b0).RValK P E T:=by
 intro x ver fx L TP TU s idx off n t b rb sb pb po B ev a w st Q kts ck hok htx hs hn ht hst hKt hp hsn hc hf h1 h2 h3 hB hrB hBw kn kr
 have hnL:=hs.nL;have hLt:=hs.Lt;have h7:=hs.seven;have hrd:=hs.rd
 have hkt:=hs.kt
 have hdz:KYs fx ver w pb po B ⟨sb,T⟩ kts True []:=fun y hy=>⟨y.ty.dz,y.ty.dflt,Ty.dz_len _,hKt.dz y hy,((hKt.ok y hy).2.2.1 w _ B).rep.1,fun _=>rfl⟩
 -- no tags are read
 have same:fx=false->∀ a1,Fr (KR L n t) a a1->Q .normal a1 w:=by
  intro h a1 hfr
  subst h
  refine kn a1 w (Flds.dz (.nil b0)) [] [] hfr (hst.fr hs hfr) (Flds.dz_len _) hc (Flds.dz_rep hT (.nil b0) B rfl) (by simp) ?_ (Eff.refl _ _) (fun _=>⟨?_,?_⟩)
  ·intro y hy
   obtain ⟨c,d,k1,k2,k3,k4⟩:=hdz y hy
   exact ⟨c,d,k1,k2,k3,fun _=>k4 trivial⟩
  ·simp[Flds.rd]
  ·simp[Flds.rd]
 cases hx:x.fl with
 | none =>
  have:sq (Flds.rc E x TP TU s idx (kts.map (·.krd)) n t b (.nil b0))=sq []:=by
   simp only[Flds.rc,rTagsC,rTagsK,hx,ite_self]
  rw[this]
  exact vN (same (hs.no hx) a (Fr.refl _ _))
 | some fl =>
 simp only[Flds.okR,hx,Option.isNone_some,Bool.false_or,Bool.and_eq_true,beq_iff_eq,bne_iff_ne] at hok
 obtain ⟨⟨⟨htg,hfo⟩,hrt⟩,hagg⟩:=hok
 subst htg
 have HK:=HK hrt
 have hfl:=hs.fl fl hx
 cases kts with
 | cons y0 kts0 =>
  simp only[Flds.rc,List.map_cons,List.isEmpty_cons,Bool.false_eq_true,if_false]
  simp only[Flds.rn,List.map_cons,List.isEmpty_cons,Bool.false_eq_true,if_false] at hn
  simp only[Flds.rt,hx,List.map_cons,List.isEmpty_cons,Bool.false_eq_true,if_false] at ht
  have hc0:w.cell? ⟨pb,po+off,none⟩=some (.map none):=hc 0 _ (by simp[Flds.dz])
  have hf0:qq w pb (po+off):=by simpa using hf 0 (by simp[Flds.size])
  refine m_tagsK H HK (kts:=y0::kts0) hKt hx hfo hs hn ht hst hp hsn hc0 hf0 h1 h2 h3 hB hrB hBw ?_ ?_
  ·intro a' w' v tg g1 g2 g3 g4 g5 g6 g7 g8
   have hsz:=g8.size
   have hslt:=hst.rd.lt
   refine kn a' w' [v] [] tg g1 ?_ (by simp[Flds.size]) ?_ ?_ g5 ?_ g8 ?_
   ·cases fx<;>simpa [Flds.rd] using g2
   ·intro j u hu
    cases j with
    | zero=>simp only[List.getElem?_cons_zero,Option.some.injEq] at hu;subst hu;exact g3
    | succ j=>simp at hu
   ·simp only[Flds.Rep,if_true]
    exact ⟨v,rfl,g4.repT (by omega) (HK.all _) hBw⟩
   ·cases fx<;>simpa [Flds.rd] using g7
   ·intro h
    cases fx with
    | true =>
     simp only[Flds.rd,if_true] at h g6 ⊢
     exact ⟨trivial,g6 h⟩
    | false =>
     simp only[Flds.rd,Bool.false_eq_true,if_false] at h g6 ⊢
     exact ⟨trivial,g6 h⟩
  ·intro a' w' g1 g2 g3 g4 g5
   refine kr a' w' g1 g2 g3 g4 ?_
   cases fx<;>simpa [Flds.rd] using g5
 | nil =>
  have hck:ck=noK:=funext fun j=>funext fun p=>hKt.ck0 j (Nat.zero_le _) p
  subst hck
  simp only[Flds.rc,List.map_nil,List.isEmpty_nil,if_true,rTagsC,hx]
  simp only[Flds.rt,hx,List.map_nil,List.isEmpty_nil,if_true] at ht
  refine vS (vX (rM (dn ?_)))
  have hf0:Fr (KR L n t) a (a.put (some t) (a.eval (.tmp fl))):=(Fr.refl _ a).put _ (hkt _ (Nat.le_refl _))
  refine vS (vC (t:=fx) (by rw[qB _ _ _ (by omega)];exact hst.fl fl hx) ?_ ?_)
  ·intro h
   subst h
   simp only[Flds.rd,if_true,rdTagsK_no] at kn kr
   refine vR (by simp) ?_
   refine rM ?_
   refine q8 (args:=#[.pointer (some ⟨rb,0,none⟩)]) ?_ (H.tags hrt rb sb st w hst.rd) ?_
   ·simp only[lM]
    simp (disch:=(try simp only[sP]);omega) only[eV,hst.p7]
   rintro v w1 ⟨⟨u,tags,rfl,hu,htr,htd⟩,hr,hE⟩
   refine qV (ad:=⟨pb,po,none⟩) (by simp (disch:=(try simp only[sP]);omega) only[eV,hp]) ?_
   refine rF (b:=pb) (o:=po) (by simp (disch:=(try simp only[sP]);omega) only[eV]) hfo ?_
   have hfree:∀ i,i < [u].length->qq w1 pb (po+off+i):=fun i hi=>(hf i (by simpa [Flds.size] using hi)).eff hE
   refine qu (b:=pb) (o:=po+off) (cs:=[u]) (by simp (disch:=(try simp only[sP]);omega) only[eV]) (by simp (disch:=(try simp only[sP]);omega) only[eV]) (by simpa using hu) hagg hfree ?_
   refine dn (vN (vN ?_))
   have hE2:=qe pb [u] w1 (po+off)
   have hE2':Eff (FK rb pb po off (Flds.nil true).size []) w1 (setCells w1 pb (po+off) [u]):=hE2.mono (by
    rintro k i _ ⟨e1,e2,e3⟩
    simp only[List.length_cons,List.length_nil] at e3
    exact .inr ⟨e1,.inl ⟨e2,by simp only[Flds.size,if_true];omega⟩⟩)
   have hE1':Eff (FK rb pb po off (Flds.nil true).size []) w w1:=hE.mono (fun k i _ h=>.inl h)
   generalize ha2:Act.put (Act.put (Act.put (Act.put (Act.put a _ _) _ _) _ _) _ _) _ _=a2
   have hf2:Fr (KR L n t) a a2:=by
    subst ha2
    exact (((((Fr.refl _ a).put _ (hkt _ (by omega))).put _ (hkt _ (by omega))).put _ (hkt _ (by omega))).put _ (hkt _ (by omega))).put _ (hkt _ (by omega))
   refine kn a2 _ [u] [] tags hf2 ?_ (by simp[Flds.size]) ?_ ?_ (by simp) (by intro y hy;simp at hy) (hE1'.trans hE2') ?_
   ·exact (hst.step hs hf2 hr hE).keep hs (Fr.refl _ _) hE2 (by rintro j ⟨h,_⟩;exact h1 h.symm) (by rintro j ⟨h,_⟩;exact h2 h.symm) (by rintro j ⟨h,_⟩;exact h3 h.symm)
   ·intro j v hv
    exact qg _ _ _ _ (fun j hj=>(hfree j hj).1) j v hv
   ·simp only[Flds.Rep,if_true]
    refine ⟨u,rfl,htr.eff hE2 ?_ ?_ hBw⟩
    ·rintro j ⟨h,_⟩;exact h2 h.symm
    ·rintro k j hk _ ⟨h,_⟩;omega
   ·intro h
    refine ⟨rfl,?_⟩
    rw[htd h]
    exact (List.filter_eq_self.2 (by simp)).symm
  ·intro h
   exact vK (vN (vN (same h _ hf0)))
end
end Go.Km
namespace Go.Km
open Go Go.RowKit
attribute [local irreducible] vc rO_ qz qI qF
section
variable {P : Program} {E : Env} {T : List (Nat × List UInt8) → Prop}
theorem m_nstruct (H:EnvR P E T) {TP' TU' PP:TypeId} {FD:FuncId} {fs:Flds} (hF:fs.RVal P E T) {x:Cx} {ver:Nat} {fx:Bool} {L TP TU s idx off n t b rb sb pb po B:Nat} {ev:Value} {a:Act} {w:World} {st:RSt} {Q:Exit->Act->World->Prop}
  (hok:(Ty.nstruct TP' TU' FD fs PP).okR P E x=true) (htx:(Ty.nstruct TP' TU' FD fs PP).txR P E) (hs:RSl x L n t fx) (hn:n+3+fs.rn<=L) (ht:t+(17+fs.rt x)<=a.tmps.size) (hst:RSta E x ver fx rb sb ev a w st)
  (hp:a.eval (.tmp s)=.pointer (some ⟨pb,po,none⟩)) (hsn:s<n) (hfo:ql P TU idx=some off) (hc:qb w pb (po+off) [.pointer none]) (hf:qq w pb (po+off)) (h1:pb≠rb) (h2:pb≠sb) (h3:pb≠E.vErr) (hB:pb<B) (hrB:rb<B) (hBw:B<=w.heap.size)
  (kn:∀ a' w' c d,Fr (KR L n t) a a'->RSta E x ver fx rb sb ev a' w' ((Ty.nstruct TP' TU' FD fs PP).rd fx ver st).2->c.length=1->qb w' pb (po+off) c->(Ty.nstruct TP' TU' FD fs PP).Rep w' ⟨sb,T⟩ B c d->Eff (FM rb pb (po+off) 1) w w' →
   (((Ty.nstruct TP' TU' FD fs PP).rd fx ver st).2.2=false->d=((Ty.nstruct TP' TU' FD fs PP).rd fx ver st).1)->Q .normal a' w')
  (kr:∀ a' w',a'.defers=a.defers->a'.tmps.size=a.tmps.size->a'.eval (.tmp 6)=ev->Eff (FM rb pb (po+off) 1) w w'->((Ty.nstruct TP' TU' FD fs PP).rd fx ver st).2.2=true->Q .ret a' w') :
  vc P (sq (Ty.rc E x TP TU s idx n t b (.nstruct TP' TU' FD fs PP))) Q a w:=by
 have hnL:=hs.nL;have hLt:=hs.Lt;have h7:=hs.seven;have hrd:=hs.rd
 have hkt:=hs.kt
 simp only[Ty.okR,Bool.and_eq_true,bne_iff_ne] at hok
 obtain ⟨⟨⟨hI8,hTP⟩,hokF⟩,hokD⟩:=hok
 simp only[Ty.txR] at htx
 obtain ⟨⟨np,nt,htxt,hnt⟩,hz,htxF⟩:=htx
 obtain ⟨z,hz,hzc⟩:=Option.map_eq_some_iff.1 hz
 have hrd:(Ty.nstruct TP' TU' FD fs PP).rd fx ver st=if (Scal.i8.rd st).1 = -1\/(Scal.i8.rd st).2.2=true then (.list none,(Scal.i8.rd st).2)
  else (.list (some [.obj (fs.rd fx ver noK (Scal.i8.rd st).2).1 (fs.rd fx ver noK (Scal.i8.rd st).2).2.1]),(fs.rd fx ver noK (Scal.i8.rd st).2).2.2):=by simp only[Ty.rd]
 rw[hrd] at kn kr
 clear hrd
 simp only[Ty.rc]
 refine vS (ja (K:=KR L n t) hst.p7 (H.scal .i8 hI8 rb sb st w hst.rd) hkt (hs.kn n (Nat.le_refl _) (by omega)) (by omega) (by omega) ?_)
 rintro a1 v w1 hf1 he1 ⟨⟨hv,_⟩,hr1,hE1⟩
 have hst1:=hst.step hs hf1 hr1 hE1
 have hz1:=hf1.size
 have hEm1:Eff (FM rb pb (po+off) 1) w w1:=hE1.mono (fun k i _ h=>.inl h)
 have hc1:qb w1 pb (po+off) [.pointer none]:=hc.eff hE1 (by rintro i hi ⟨h,_⟩;exact h1 h)
 have hv':v=.int .i8 (Scal.i8.rd st).1:=hv
 have hp1:a1.eval (.tmp s)=.pointer (some ⟨pb,po,none⟩):=by rw[hf1.slot _ (.inl hsn)];exact hp
 have hws1:=hE1.size
 refine vS (vS (xF ?_))
 refine rD rfl (wN rfl) (rM (dn (rT ?_)))
 refine rD rfl (wN rfl) (r_neq (k:=.i8) (m:=(Scal.i8.rd st).1) (n:=-1) (by simp (disch:=(try simp only[sP]);omega) only[eV,he1,hv']) rfl (dn (rT ?_)))
 refine rD rfl (wN rfl) (rM (dn (rT ?_)))
 have null:∀ a2,Fr (KR L n t) a a2->((Scal.i8.rd st).1 = -1\/(Scal.i8.rd st).2.2=true)->Q .normal a2 w1:=by
  intro a2 hf2 hor
  rw[if_pos hor] at kn
  exact kn a2 w1 [.pointer none] (.list none) hf2 (hst.step hs hf2 hr1 hE1) rfl hc1 rfl hEm1 (fun _=>rfl)
 by_cases hm:(Scal.i8.rd st).1 = -1
 ·have hm':((Scal.i8.rd st).1 != -1)=false:=by simpa using hm
  rw[hm']
  refine x6 rfl (by rw[wS (b:=false) rfl rfl (by simp (disch:=(try simp only[sP]);omega) only[eV])];rfl) ?_
  refine rD rfl (wN rfl) (xz (by simp (disch:=(try simp only[sP]);omega) only[eV]) (dn (rT ?_)))
  refine qy ?_
  refine vS (vC (t:=false) (by simp (disch:=(try simp only[sP]);omega) only[eV]) (fun h=>by cases h) (fun _=>?_))
  refine vK (vN (vN (null _ ?_ (.inl hm))))
  exact ((((hf1.put _ (hkt _ (by omega))).put _ (hkt _ (by omega))).put _ (hkt _ (by omega))).put _ (hkt _ (by omega))).put _ (hkt _ (by omega))
 have hm':((Scal.i8.rd st).1 != -1)=true:=by simpa using hm
 rw[hm']
 refine rD rfl (by rw[wS (b:=true) rfl rfl (by simp (disch:=(try simp only[sP]);omega) only[eV])];rfl) (q8 (args:=#[.pointer (some ⟨rb,0,none⟩)]) ?_ (H.ok rb sb (Scal.i8.rd st).2 w1 hr1) ?_)
 ·have:=hst1.p7
  simp only[lM]
  simp (disch:=(try simp only[sP]);omega) only[eV,this]
 rintro v2 w2 ⟨rfl,hw2⟩
 rw[hw2]
 clear hw2
 refine dn (rT ?_)
 refine rD rfl (wN rfl) (x7 (by simp (disch:=(try simp only[sP]);omega) only[eV]) (dn (rT ?_)))
 refine qy ?_
 generalize ha2:Act.put _ (some (t+5)) _=a2
 have hf2:Fr (KR L n t) a a2:=by
  subst ha2
  exact ((((hf1.put _ (hkt _ (by omega))).put _ (hkt _ (by omega))).put _ (hkt _ (by omega))).put _ (hkt _ (by omega))).put _ (hkt _ (by omega))
 have hz2:=hf2.size
 have he2:a2.eval (.tmp (t+5))=.bool (!(Scal.i8.rd st).2.2):=by subst ha2;simp (disch:=(try simp only[sP]);omega) only[eV]
 have hp2:a2.eval (.tmp s)=.pointer (some ⟨pb,po,none⟩):=by subst ha2;simp (disch:=(try simp only[sP]);omega) only[eV,hp1]
 clear ha2
 refine vS (vC (t:=!(Scal.i8.rd st).2.2) he2 ?_ (fun hbad=>?_))
 rotate_left
 ·have hbad':(Scal.i8.rd st).2.2=true:=by simpa using hbad
  exact vK (vN (vN (null a2 hf2 (.inr hbad'))))
 ·intro hgood
  have hgood':(Scal.i8.rd st).2.2=false:=by simpa using hgood
  have hor:¬ ((Scal.i8.rd st).1 = -1\/(Scal.i8.rd st).2.2=true):=by
   rintro (h | h)
   ·exact hm h
   ·rw[hgood'] at h;cases h
  rw[if_neg hor] at kn kr
  have hfree1:qq w1 pb (po+off):=hf.eff hE1
  have hpb1:=hfree1.lt
  have hrb1:rb<w1.heap.size:=by omega
  have hsb1:=hr1.lt
  have hev1:E.vErr<w1.heap.size:=qj hst1.err
  have hf2':qq (w1.alloc (.cells z.cells TU')) pb (po+off):=hfree1.eff ((Eff.refl (fun _ _=>False) _).alloc _)
  refine vX (rM ?_)
  refine qK hz ?_
  refine qV (ad:=⟨pb,po,none⟩) (by simp (disch:=(try simp only[sP]);omega) only[eV,hp2]) ?_
  refine rF (b:=pb) (o:=po) (by simp (disch:=(try simp only[sP]);omega) only[eV]) hfo ?_
  refine xq (b:=pb) (o:=po+off) (v:=.pointer (some ⟨w1.heap.size,0,none⟩)) (by simp (disch:=(try simp only[sP]);omega) only[eV]) (by simp (disch:=(try simp only[sP]);omega) only[eV]) rfl hTP hf2' ?_
  refine dn ?_
  have hzl:z.cells.size=fs.size:=by
   have:=congrArg List.length hzc
   rw[Flds.zc_len] at this
   simpa using this
  have hEa:Eff (fun k i=>k=pb/\i=po+off) w1 ((w1.alloc (.cells z.cells TU')).setCell ⟨pb,po+off,none⟩ (.pointer (some ⟨w1.heap.size,0,none⟩))) :=
   ((Eff.refl _ w1).alloc _).setCell _ _ _ (fun _=>⟨rfl,rfl⟩)
  have hc3:qb ((w1.alloc (.cells z.cells TU')).setCell ⟨pb,po+off,none⟩ (.pointer (some ⟨w1.heap.size,0,none⟩))) pb (po+off) [.pointer (some ⟨w1.heap.size,0,none⟩)]:=by
   intro j u hu
   cases j with
   | zero =>
    simp only[List.getElem?_cons_zero,Option.some.injEq] at hu
    subst hu
    exact qo _ hf2'.1
   | succ j=>simp at hu
  have hq3:qb ((w1.alloc (.cells z.cells TU')).setCell ⟨pb,po+off,none⟩ (.pointer (some ⟨w1.heap.size,0,none⟩))) w1.heap.size 0 fs.zc:=by
   intro j u hu
   rw[xE _ (.inl (by omega)),Nat.zero_add]
   refine qt w1 _ TU' ?_
   rw[← Array.getElem?_toList,hzc]
   exact hu
  have hqf:∀ j,j<fs.size->qq ((w1.alloc (.cells z.cells TU')).setCell ⟨pb,po+off,none⟩ (.pointer (some ⟨w1.heap.size,0,none⟩))) w1.heap.size (0+j):=by
   intro j hj
   have:=qn w1 z.cells TU' (i:=j) (by omega)
   rw[Nat.zero_add]
   exact this.eff ((Eff.refl (fun k _=>k=pb) _).setCell _ _ _ (fun _=>rfl))
  have hqlt:w1.heap.size<((w1.alloc (.cells z.cells TU')).setCell ⟨pb,po+off,none⟩ (.pointer (some ⟨w1.heap.size,0,none⟩))).heap.size:=by simp
  generalize (w1.alloc (.cells z.cells TU')).setCell ⟨pb,po+off,none⟩ (.pointer (some ⟨w1.heap.size,0,none⟩))=w3 at *
  have hst2:RSta E x ver fx rb sb ev a2 w1 (Scal.i8.rd st).2:=hst.step hs hf2 hr1 hE1
  generalize ha3:Act.put _ (some (t+9)) _=a3
  have hf3:Fr (KR L n t) a2 a3:=by
   subst ha3
   exact ((((Fr.refl _ a2).put _ (hkt _ (by omega))).put _ (hkt _ (by omega))).put _ (hkt _ (by omega))).put _ (hkt _ (by omega))
  have hp3:a3.eval (.tmp s)=.pointer (some ⟨pb,po,none⟩):=by subst ha3;simp (disch:=(try simp only[sP]);omega) only[eV,hp2]
  have hz3:=hf3.size
  clear ha3
  have hst3:RSta E x ver fx rb sb ev a3 w3 (Scal.i8.rd st).2:=hst2.keep hs hf3 hEa (by rintro j ⟨h,_⟩;exact h1 h.symm) (by rintro j ⟨h,_⟩;exact h2 h.symm) (by rintro j ⟨h,_⟩;exact h3 h.symm)
  refine vX (rM ?_)
  refine qV (ad:=⟨pb,po,none⟩) (by simp (disch:=(try simp only[sP]);omega) only[eV,hp3]) ?_
  refine rF (b:=pb) (o:=po) (by simp (disch:=(try simp only[sP]);omega) only[eV]) hfo ?_
  refine rL (b:=pb) (o:=po+off) (v:=.pointer (some ⟨w1.heap.size,0,none⟩)) (by simp (disch:=(try simp only[sP]);omega) only[eV]) hTP (hc3 0 _ rfl) ?_
  refine rA (dn (vX (rM ?_)))
  refine q8 (args:=#[.pointer (some ⟨w1.heap.size,0,none⟩)]) ?_ (c_dflt (b:=w1.heap.size) (o:=0) (off:=0) (cs:=fs.zc) htxt hnt hokD (Flds.zc_len fs) hq3 (fun i hi=>hqf i hi)) ?_
  ·simp only[lM]
   simp (disch:=(try simp only[sP]);omega) only[eV]
  rintro v4 w4 ⟨hE4,hc4⟩
  rw[Flds.over_zc] at hc4
  refine dn (vX (rM (rA (dn ?_))))
  generalize ha5:Act.put _ (some (n+2)) _=a5
  have hf5:Fr (KR L n t) a3 a5:=by
   subst ha5
   exact (((((((((Fr.refl _ a3).put _ (hkt _ (by omega))).put _ (hkt _ (by omega))).put _ (hkt _ (by omega))).put _ (hkt _ (by omega))).put _ (hs.kn (n+1) (by omega) (by omega))).put _ (hkt _ (by omega))).put _ (hkt _ (by omega))).put _ (hkt _ (by omega))).put _ (hs.kn (n+2) (by omega) (by omega))
  have hp5:a5.eval (.tmp (n+2))=.pointer (some ⟨w1.heap.size,0,none⟩):=by subst ha5;simp (disch:=(try simp only[sP]);omega) only[eV]
  have hz5:=hf5.size
  clear ha5
  have hE4q:∀ k,k<w1.heap.size->∀ i,¬ (k=w1.heap.size/\0+0<=i/\i<0+0+fs.size):=by rintro k hk i ⟨h,_⟩;omega
  have hst5:RSta E x ver fx rb sb ev a5 w4 (Scal.i8.rd st).2:=hst3.keep hs hf5 hE4 (fun i=>hE4q _ hrb1 i) (fun i=>hE4q _ hsb1 i) (fun i=>hE4q _ hev1 i)
  have hc4':qb w4 pb (po+off) [.pointer (some ⟨w1.heap.size,0,none⟩)]:=hc3.eff hE4 (fun i _=>hE4q _ hpb1 _)
  have hw34:=hE4.size
  have hE13:Eff (FM rb pb (po+off) 1) w w4:=(hEm1.trans' hEa (by rintro k i _ ⟨g1,g2⟩;exact .inr ⟨g1,by omega,by omega⟩)).trans' hE4 (by rintro k i hk ⟨g1,_⟩;omega)
  have hfr5:Fr (KR L n t) a a5:=(hf2.trans hf3).trans hf5
  refine hF x ver fx L TP' TU' (n+2) 0 0 (n+3) (t+17) b rb sb w1.heap.size 0 (w1.heap.size+1) ev a5 w4 (Scal.i8.rd st).2 _ hokF htxF (hs.up (by omega) (by omega) (by omega)) (by omega) (by rw[hz5,hz3,hz2];omega) hst5 hp5 (by omega) hc4 (fun i hi=>(hqf i hi).eff hE4) (by omega) (by omega) (by omega) (by omega) (by omega) (by omega) ?_ ?_
  ·intro a6 w6 cs ds tags g1 g2 g3 g4 g5 g6 g7
   have hM6:∀ k,k<w1.heap.size->k≠rb->∀ i,¬ FM rb w1.heap.size (0+0) fs.size k i:=by
    rintro k hk hne i (⟨h,_⟩ | ⟨h,_⟩)
    ·exact hne h
    ·omega
   have hE6:Eff (FM rb pb (po+off) 1) w w6:=hE13.trans' g6 (by
    rintro k i hk (h | ⟨h,_⟩)
    ·exact .inl h
    ·omega)
   refine vN (vN (kn a6 w6 [.pointer (some ⟨w1.heap.size,0,none⟩)] (.list (some [.obj ds tags])) (hfr5.trans (g1.mono (KR.mono (by omega) (by omega)))) g2 rfl (hc4'.eff g6 (fun i _=>hM6 pb hpb1 h1 _)) ?_ hE6 ?_))
   ·simp only[Ty.Rep]
    exact ⟨w1.heap.size,cs,rfl,by omega,Nat.lt_of_lt_of_le (Nat.lt_of_lt_of_le hqlt hw34) g6.size,g3,g4,g5⟩
   ·intro h
    obtain ⟨rfl,rfl⟩:=g7 h
    rfl
  ·intro a6 w6 g1 g2 g3 g4 g5
   exact kr a6 w6 (by rw[g1,hfr5.defers]) (by rw[g2,hfr5.size]) g3 (hE13.trans' g4 (by
    rintro k i hk (h | ⟨h,_⟩)
    ·exact .inl h
    ·omega)) g5
theorem Flds.rn_no {v:Ver} (h:v.isTag=false) (kz:List Nat) (ty:Ty) (r:Flds):Flds.rn kz (.cons v ty r)=1+(match ty.tp with | some _=>1 | none=>0)+ty.rn+Flds.rn kz r:=by
 cases v<;>first | (cases h;done) | (cases ty<;>simp only[Flds.rn,Ty.tp])
theorem Flds.rt_no {v:Ver} (h:v.isTag=false) (x:Cx) (kz:List Nat) (ty:Ty) (r:Flds):Flds.rt x kz (.cons v ty r)=v.nt+ty.h+ty.rt x+Flds.rt x kz r:=by
 cases v<;>first | (cases h;done) | (simp only[Flds.rt])
theorem Flds.rc_no {v:Ver} (h:v.isTag=false) (E:Env) (x:Cx) (TP TU:TypeId) (s idx:Nat) (kt:List KRd) (n t b:Nat) (ty:Ty) (r:Flds):Flds.rc E x TP TU s idx kt n t b (.cons v ty r) =
  ifVer E x v t (match ty.tp with
   | some TP'=>sq (rg [qd (t+v.nt) (.tmp s) TP,jk (t+v.nt+1) (.tmp (t+v.nt)),xr (t+v.nt+2) TU (.tmp (t+v.nt+1)) idx,qc n (.tmp (t+v.nt+2)) TP']::Ty.rc E x 0 0 0 0 n (t+v.nt+3) b ty)
   | none=>sq (Ty.rc E x TP TU s idx n (t+v.nt) b ty++if ty.np then [] else [yx TP TU (ty.T E) ty.arr (n+ty.rslot) s idx (t+v.nt+ty.rt x)])) ::
  Flds.rc E x TP TU s (idx+1) kt (n+1+(match ty.tp with | some _=>1 | none=>0)+ty.rn) (t+v.nt+ty.h+ty.rt x) (b+ty.wb) r:=by
 cases v<;>first | (cases h;done) | (cases ty<;>simp only[Flds.rc,Ty.tp])
theorem KY.get_drop (fx:Bool) (ver:Nat) (y:KY) {k lb:Nat} (h:y.k≠k) (tags:List (Nat × List UInt8)):y.get fx ver ((Ver.tag k lb).dropT tags)=y.get fx ver tags:=by
 have:∀ l:List (Nat × List UInt8),(l.filter fun x=>x.1 != k).find? (fun x=>x.1==y.k)=l.find? (fun x=>x.1==y.k):=by
  intro l
  induction l with
  | nil=>rfl
  | cons z l ih =>
   by_cases hz:z.1=k
   ·rw[List.filter_cons_of_neg (by simpa using hz),List.find?_cons_of_neg (by simp;omega)]
    exact ih
   ·rw[List.filter_cons_of_pos (by simpa using hz)]
    by_cases hy:z.1=y.k
    ·rw[List.find?_cons_of_pos (by simpa using hy),List.find?_cons_of_pos (by simpa using hy)]
    ·rw[List.find?_cons_of_neg (by simpa using hy),List.find?_cons_of_neg (by simpa using hy)]
     exact ih
 unfold KY.get Ver.getT Ver.dropT
 simp only[this]
theorem dropT_filter (k lb:Nat) (tags:List (Nat × List UInt8)):((Ver.tag k lb).dropT tags).filter (fun x=>decide (k<=x.1))=tags.filter (fun x=>decide (k+1<=x.1)):=by
 unfold Ver.dropT
 rw[List.filter_filter]
 refine List.filter_congr (fun x _=>?_)
 by_cases h:x.1=k
 ·simp[h]
 ·have:(k<=x.1 ↔ k+1<=x.1):=by omega
  simp[h,this]
theorem fv_cons (H:EnvR P E T) (HK:E.rTags≠0->EnvRK P E T) (hT:T []) {v:Ver} {ty:Ty} {r:Flds} (hlf:ty.tp=none->ty.np=false->ty.RVal P E T) (hfn:∀ TP TU FD fs PP,ty=.nstruct TP TU FD fs PP->fs.RVal P E T) (hfs:∀ TP TU FD fs,ty=.struct TP TU FD fs->fs.RVal P E T) (hle:∀ TS null e,ty=.list TS null e->(e.tp=none->e.np=false->e.RVal P E T)/\∀ TP TU FD fs,e=.struct TP TU FD fs->fs.RVal P E T) (hr:r.RValK P E T):(Flds.cons v ty r).RValK P E T:=by
 intro x ver fx L TP TU s idx off n t b rb sb pb po B ev a w st Q kts ck hok htx hs hn ht hst hKt hp hsn hc hf h1 h2 h3 hB hrB hBw kn kr
 have hnL:=hs.nL;have hLt:=hs.Lt;have h7:=hs.seven;have hrd:=hs.rd
 have hkt:=hs.kt
 simp only[Flds.okR,Bool.and_eq_true,beq_iff_eq] at hok
 obtain ⟨⟨⟨⟨hokv,hfo⟩,hokt⟩,hokz⟩,hokr⟩:=hok
 simp only[Flds.txR] at htx
 obtain ⟨htxt,htxr⟩:=htx
 simp only[Flds.size] at hf kn kr
 simp only[Flds.dz] at hc
 have hcd:qb w pb (po+off) ty.dz:=by
  have:=hc.tk (n:=ty.size)
  rwa [← Ty.dz_len ty,List.take_left] at this
 have hcr:qb w pb (po+(off+ty.size)) r.dz:=by
  have:=hc.dp (n:=ty.size)
  rwa [← Ty.dz_len ty,List.drop_left,Ty.dz_len ty,Nat.add_assoc] at this
 cases htag:v.isTag with
 | true =>
  cases v with
  | tag k lb =>
   simp only[Ver.okT,Bool.and_eq_true,beq_iff_eq,decide_eq_true_eq,bne_iff_ne,ne_eq] at hokv
   obtain ⟨⟨⟨rfl,hk⟩,hty⟩,hrt⟩:=hokv
   have HK:=HK hrt
   obtain ⟨krd,hy,hcode,hcN,hcT⟩:∃ krd:KRd,KY.OK P E T x ver fx L s ⟨kts.length,off,ty,krd⟩/\Flds.rc E x TP TU s idx (kts.map (·.krd)) n t b (.cons (.tag kts.length lb) ty r)=Flds.rc E x TP TU s (idx+1) (kts.map (·.krd)++[krd]) n t b r ∧
     krd.casN=3+(match ty.tp with | some _=>1 | none=>0)+ty.rn/\krd.casT=4+ty.h+ty.rt x+4:=by
    cases ty with
    | scal sc df =>
     simp only[Ty.okR,Bool.and_eq_true,bne_iff_ne,ne_eq] at hokt
     exact ⟨_,kScal_ok H HK hk hokt.1 hokt.2 hfo (sc.okB_ok hokz),by simp only[Flds.rc];rfl,rfl,rfl⟩
    | list TS null e =>
     cases null with
     | none=>exact ⟨_,kList_ok H HK (hle _ _ _ rfl).1 (hle _ _ _ rfl).2 hk hokt htxt hfo,by simp only[Flds.rc];rfl,rfl,rfl⟩
     | some N=>cases hty
    | _=>cases hty
   ·generalize hym:(⟨kts.length,off,ty,krd⟩:KY)=y at *
    have yk:y.k=kts.length:=by rw[← hym]
    have yo:y.off=off:=by rw[← hym]
    have yt:y.ty=ty:=by rw[← hym]
    have yr:y.krd=krd:=by rw[← hym]
    have hlen:(kts++[y]).length=kts.length+1:=by simp
    have hkn:(kts++[y]).map (·.krd.casN)=kts.map (·.krd.casN)++[3+(match ty.tp with | some _=>1 | none=>0)+ty.rn]:=by
     rw[List.map_append,← hcN,← yr]
     rfl
    have hkt2:((kts++[y]).map fun y=>2+y.krd.casT)=(kts.map fun y=>2+y.krd.casT)++[2+(4+ty.h+ty.rt x+4)]:=by
     rw[List.map_append,← hcT,← yr]
     rfl
    have hrd:(Flds.cons (.tag kts.length lb) ty r).rd fx ver ck st=(y.get fx ver (r.rd fx ver ((Ver.tag kts.length lb).ckT (y.chk fx ver) ck) st).2.1::(r.rd fx ver ((Ver.tag kts.length lb).ckT (y.chk fx ver) ck) st).1,
      (Ver.tag kts.length lb).dropT (r.rd fx ver ((Ver.tag kts.length lb).ckT (y.chk fx ver) ck) st).2.1,(r.rd fx ver ((Ver.tag kts.length lb).ckT (y.chk fx ver) ck) st).2.2):=by
     rw[← hym]
     simp only[Flds.rd,Ver.has,Bool.false_eq_true,if_false]
     rfl
    rw[hrd] at kn kr
    rw[hcode,show kts.map (·.krd)++[krd]=(kts++[y]).map (·.krd) by rw[List.map_append,← yr];rfl]
    have hFK:∀ k i,k<w.heap.size->FK rb pb po (off+ty.size) r.size (kts++[y]) k i->FK rb pb po off (ty.size+r.size) kts k i:=by
     rintro k i _ (h | ⟨e,⟨m1,m2⟩ | ⟨z,hz,m1,m2⟩⟩)
     ·exact .inl h
     ·exact .inr ⟨e,.inl ⟨by omega,by omega⟩⟩
     ·rcases List.mem_append.1 hz with hz | hz
      ·exact .inr ⟨e,.inr ⟨z,hz,m1,m2⟩⟩
      ·have:z=y:=by simpa using hz
       subst this
       rw[yo] at m1 m2
       rw[yt] at m2
       exact .inr ⟨e,.inl ⟨by omega,by omega⟩⟩
    simp only[Ver.nextT] at hokr
    refine hr x ver fx L TP TU s (idx+1) (off+ty.size) n t b rb sb pb po B ev a w st Q (kts++[y]) ((Ver.tag kts.length lb).ckT (y.chk fx ver) ck) (by rw[hlen];exact hokr) htxr hs (by rw[hkn];exact hn) (by rw[hkt2];exact ht) hst ?_ hp hsn hcr
     (fun i hi=>by have:=hf (ty.size+i) (by omega);rwa [show po+off+(ty.size+i)=po+(off+ty.size)+i by omega] at this) h1 h2 h3 hB hrB hBw ?_ ?_
    ·have hmem:∀ z ∈ kts++[y],z ∈ kts\/z=y:=fun z hz=>by simpa using hz
     refine ⟨?_,?_,?_,?_,?_,?_,?_,?_⟩
     ·intro z hz
      rcases hmem z hz with hz | rfl
      ·exact hKt.ok z hz
      ·exact hy
     ·rw[List.map_append,hKt.ks,hlen,List.range_succ,List.map_cons,List.map_nil,yk]
     ·intro z hz p
      rcases hmem z hz with hz | rfl
      ·have:=hKt.lt hz
       simp only[Ver.ckT,if_neg (show ¬ z.k=kts.length by omega)]
       exact hKt.ck1 z hz p
      ·simp only[Ver.ckT,yk,if_true]
     ·intro j hj p
      rw[hlen] at hj
      simp only[Ver.ckT,if_neg (show ¬ j=kts.length by omega)]
      exact hKt.ck0 j (by omega) p
     ·intro z hz
      rcases hmem z hz with hz | rfl
      ·have:=hKt.pos z hz
       omega
      ·rw[yo,yt]
       exact Nat.le_refl _
     ·refine List.pairwise_append.2 ⟨hKt.sep,by simp,fun z hz u hu=>?_⟩
      have:u=y:=by simpa using hu
      subst this
      rw[yo]
      exact hKt.pos z hz
     ·intro z hz
      rcases hmem z hz with hz | rfl
      ·exact hKt.dz z hz
      ·rw[yo,yt];exact hcd
     ·intro z hz i hi
      rcases hmem z hz with hz | rfl
      ·exact hKt.free z hz i hi
      ·rw[yo]
       rw[yt] at hi
       exact hf i (by omega)
    ·intro a' w' cs ds tg g1 g2 g3 g4 g5 g6 g7 g8 g9
     obtain ⟨c,d,k1,k2,k3,k4⟩:=g7 y (by simp)
     rw[yt] at k1 k3
     rw[yo] at k2
     refine kn a' w' (c++cs) (d::ds) tg g1 g2 (by rw[List.length_append,k1,g3]) ?_ ?_ (fun z hz=>by have:=g6 z hz;rw[hlen] at this;omega) ?_ ?_ ?_
     ·refine k2.append ?_
      rw[k1,Nat.add_assoc]
      exact g4
     ·simp only[Flds.Rep]
      have e1:(c++cs).take ty.size=c:=by rw[← k1,List.take_left]
      have e2:(c++cs).drop ty.size=cs:=by rw[← k1,List.drop_left]
      rw[e1,e2]
      exact ⟨k3,g5,fun z hz=>by have:=g6 z hz;rw[hlen] at this;omega⟩
     ·intro z hz
      obtain ⟨c',d',m1,m2,m3,m4⟩:=g7 z (by simp[hz])
      refine ⟨c',d',m1,m2,m3,fun h=>?_⟩
      have:=hKt.lt hz
      rw[KY.get_drop _ _ _ (by omega)]
      exact m4 h
     ·exact g8.mono hFK
     ·intro h
      obtain ⟨rfl,rfl⟩:=g9 h
      refine ⟨by rw[k4 h],?_⟩
      rw[hlen]
      exact (dropT_filter _ lb _).symm
    ·intro a' w' g1 g2 g3 g4 g5
     exact kr a' w' g1 g2 g3 (g4.mono hFK) g5
  | _=>cases htag
 | false =>
 rw[Flds.rn_no htag] at hn
 rw[Flds.rt_no htag] at ht
 rw[Ver.nextT_no htag] at hokr
 have hn1:n+1+(match ty.tp with | some _=>1 | none=>0)+ty.rn+Flds.rn (kts.map (·.krd.casN)) r<=L:=by
  cases htp:ty.tp<;>simp only[htp] at hn ⊢<;>omega
 rw[Flds.rc_no htag]
 -- what comes behind
 have next:∀ (a1:Act) (w1:World) (c:List Value) (d d1:D) (st1:RSt),Fr (KR L n t) a a1->RSta E x ver fx rb sb ev a1 w1 st1->c.length=ty.size->qb w1 pb (po+off) c->ty.Rep w1 ⟨sb,T⟩ B c d->Eff (FM rb pb (po+off) ty.size) w w1->(st1.2=false->d=d1) →
   ((Flds.cons v ty r).rd fx ver ck st=(d1::(r.rd fx ver ck st1).1,(r.rd fx ver ck st1).2)) →
   vc P (sq (Flds.rc E x TP TU s (idx+1) (kts.map (·.krd)) (n+1+(match ty.tp with | some _=>1 | none=>0)+ty.rn) (t+v.nt+ty.h+ty.rt x) (b+ty.wb) r)) Q a1 w1:=by
  intro a1 w1 c d d1 st1 hfr hst1 hcl hcc hrep hE hd hrd
  have hsz:=hfr.size
  have hw1:=hE.size
  have hMs:∀ i,¬ FK rb pb po (off+ty.size) r.size kts sb i:=by
   rintro i (⟨h,_⟩ | ⟨h,_⟩)
   ·exact hst.rd.ne h.symm
   ·exact h2 h.symm
  have hMB:∀ k i,B<=k->¬ FK rb pb po (off+ty.size) r.size kts k i:=by
   rintro k i hk (⟨h,_⟩ | ⟨h,_⟩)<;>omega
  have hEE:∀ w2,Eff (FK rb pb po (off+ty.size) r.size kts) w1 w2->Eff (FK rb pb po off (ty.size+r.size) kts) w w2:=by
   intro w2 h
   refine (hE.mono ?_).trans (h.mono ?_)
   ·rintro k i _ (h | ⟨g1,g2,g3⟩)
    ·exact .inl h
    ·exact .inr ⟨g1,.inl ⟨by omega,by omega⟩⟩
   ·rintro k i _ (h | ⟨g1,⟨g2,g3⟩ | g2⟩)
    ·exact .inl h
    ·exact .inr ⟨g1,.inl ⟨by omega,by omega⟩⟩
    ·exact .inr ⟨g1,.inr g2⟩
  have hK1:KtOK P E T x ver fx L s kts ck (off+ty.size) pb po w1:=by
   have hK0:KtOK P E T x ver fx L s kts ck off pb po w1:=hKt.eff hE h1
   exact ⟨hK0.ok,hK0.ks,hK0.ck1,hK0.ck0,fun y hy=>by have:=hK0.pos y hy;omega,hK0.sep,hK0.dz,hK0.free⟩
  refine hr x ver fx L TP TU s (idx+1) (off+ty.size) _ _ _ rb sb pb po B ev a1 w1 st1 Q kts ck hokr htxr (hs.up (by omega) (by omega) (by omega)) hn1 (by rw[hsz];omega) hst1 hK1 (by rw[hfr.slot _ (.inl hsn)];exact hp) (by omega)
   (hcr.eff hE ?_) (fun i hi=>?_) h1 h2 h3 hB hrB (by omega) ?_ ?_
  ·rintro i hi (⟨h,_⟩ | ⟨_,_,h⟩)
   ·exact h1 h
   ·omega
  ·have:=(hf (ty.size+i) (by omega)).eff hE
   rwa [show po+off+(ty.size+i)=po+(off+ty.size)+i by omega] at this
  ·intro a2 w2 cs ds tg g1 g2 g3 g4 g5 g6 g7 g8 g9
   have hne:w1.heap.size<=w2.heap.size:=g8.size
   -- the cells of this field are left alone
   have hkeep:qb w2 pb (po+off) c:=by
    refine hcc.eff g8 ?_
    rintro i hi (⟨h,_⟩ | ⟨_,⟨h,_⟩ | ⟨y,hy,m1,m2⟩⟩)
    ·exact h1 h
    ·omega
    ·have:=hKt.pos y hy
     omega
   refine kn a2 w2 (c++cs) (d::ds) tg (hfr.trans (g1.mono (KR.mono (by omega) (by omega)))) (by rw[hrd];exact g2) (by rw[List.length_append,hcl,g3]) ?_ ?_ g6 (by rw[hrd];exact g7) (hEE w2 g8) ?_
   ·refine hkeep.append ?_
    rw[hcl,show po+off+ty.size=po+(off+ty.size) by omega]
    exact g4
   ·simp only[Flds.Rep]
    rw[← hcl,List.take_left,List.drop_left]
    exact ⟨Ty.Rep.eff g8 hMs ty B B c d (fun k i hk _=>hMB k i hk) (Nat.le_refl _) hrep,g5,Ver.tagOk_no htag _⟩
   ·intro h
    rw[hrd] at h ⊢
    obtain ⟨rfl,rfl⟩:=g9 h
    rw[hd (Flds.rd_mono fx ver r _ h)]
    exact ⟨rfl,rfl⟩
  ·intro a2 w2 g1 g2 g3 g4 g5
   exact kr a2 w2 (by rw[g1,hfr.defers]) (by rw[g2,hsz]) g3 (hEE w2 g4) (by rw[hrd];exact g5)
 refine vS (m_ver (K:=KR L n t) htag hst.ver (by have:=hs.vs;omega) hkt (by omega) ?_ ?_)
 ·intro hv a1 hf1 he1
  have hrd:(Flds.cons v ty r).rd fx ver ck st=((ty.rd fx ver st).1::(r.rd fx ver ck (ty.rd fx ver st).2).1,(r.rd fx ver ck (ty.rd fx ver st).2).2):=by simp only[Flds.rd,hv,if_true]
  have hbad:(ty.rd fx ver st).2.2=true->((Flds.cons v ty r).rd fx ver ck st).2.2.2=true:=by
   intro h
   rw[hrd]
   cases hh:(r.rd fx ver ck (ty.rd fx ver st).2).2.2.2 with
   | true=>rfl
   | false=>rw[Flds.rd_mono fx ver r _ hh] at h;cases h
  have hst1:=hst.fr hs hf1
  have hsz1:=hf1.size
  have hp1:a1.eval (.tmp s)=.pointer (some ⟨pb,po,none⟩):=by rw[hf1.slot _ (.inl hsn)];exact hp
  cases htp:ty.tp with
  | some TP' =>
   cases ty with
   | struct TP2 TU2 FD fs =>
    simp only[Ty.tp,Option.some.injEq] at htp
    subst htp
    simp only[Ty.tp,Ty.h,Ty.rn,Ty.rt,Ty.size,Ty.dz] at hn1 ht hf hcd next kn kr ⊢
    refine vX (rM ?_)
    refine qV (ad:=⟨pb,po,none⟩) (by simp (disch:=(try simp only[sP]);omega) only[eV,hp1]) ?_
    refine rF (b:=pb) (o:=po) (by simp (disch:=(try simp only[sP]);omega) only[eV]) hfo ?_
    refine rA (dn ?_)
    generalize ha2:Act.put (Act.put (Act.put (Act.put a1 _ _) _ _) _ _) _ _=a2
    have hf2:Fr (KR L n t) a1 a2:=by
     subst ha2
     exact ((((Fr.refl _ a1).put _ (hkt _ (by omega))).put _ (hkt _ (by omega))).put _ (hkt _ (by omega))).put _ (hs.kn n (Nat.le_refl _) (by omega))
    have hp2:a2.eval (.tmp n)=.pointer (some ⟨pb,po+off,none⟩):=by subst ha2;simp (disch:=(try simp only[sP]);omega) only[eV]
    have hsz2:=hf2.size
    refine m_struct (hfs _ _ _ _ rfl) (ver:=ver) (B:=B) hokt htxt (hs.up (n':=n) (t':=t+v.nt+3) (Nat.le_refl _) (by omega) (by omega)) (by omega) (by rw[hsz2,hsz1];omega) (hst1.fr hs hf2) hp2 (Flds.dz_len fs) (Flds.over_dz fs) hcd (fun i hi=>hf i (by omega)) h1 h2 h3 hB hrB hBw ?_ ?_
    ·intro a3 w3 cs ds tags g1 g2 g3 g4 g5 g6 g7
     exact next a3 w3 cs (.obj ds tags) _ _ ((hf1.trans hf2).trans (g1.mono (KR.mono (Nat.le_refl _) (by omega)))) g2 g3 g4 g5 g6 (fun h=>by obtain ⟨rfl,rfl⟩:=g7 h;rfl) hrd
    ·intro a3 w3 g1 g2 g3 g4 g5
     refine kr a3 w3 (by rw[g1,hf2.defers,hf1.defers]) (by rw[g2,hsz2,hsz1]) g3 (g4.mono ?_) (hbad g5)
     rintro k i _ (h | ⟨m1,m2,m3⟩)
     ·exact .inl h
     ·exact .inr ⟨m1,.inl ⟨m2,by omega⟩⟩
   | _=>cases htp
  | none =>
   simp only[htp] at hn1 next ⊢
   have hh4:ty.h=4:=by simp only[Ty.h,htp]
   cases hnp:ty.np with
   | true =>
    cases ty with
    | nstruct TP2 TU2 FD fs PP2 =>
     simp only[if_true,List.append_nil]
     simp only[Ty.rn,Ty.rt,Ty.size,Ty.dz] at hn1 ht hf hcd hh4 next kn kr
     rw[hh4] at ht
     refine m_nstruct H (hfn _ _ _ _ _ rfl) (B:=B) hokt htxt (hs.up (n':=n) (t':=t+v.nt) (Nat.le_refl _) (by omega) (by omega)) (by omega) (by rw[hsz1];omega) hst1 hp1 hsn hfo hcd (by simpa using hf 0 (by omega)) h1 h2 h3 hB hrB hBw ?_ ?_
     ·intro a3 w3 c d g1 g2 g3 g4 g5 g6 g7
      exact next a3 w3 c d _ _ (hf1.trans (g1.mono (KR.mono (Nat.le_refl _) (by omega)))) g2 g3 g4 g5 g6 g7 hrd
     ·intro a3 w3 g1 g2 g3 g4 g5
      refine kr a3 w3 (by rw[g1,hf1.defers]) (by rw[g2,hsz1]) g3 (g4.mono ?_) (hbad g5)
      rintro k i _ (h | ⟨m1,m2,m3⟩)
      ·exact .inl h
      ·exact .inr ⟨m1,.inl ⟨m2,by omega⟩⟩
    | _=>cases hnp
   | false =>
   simp only[Bool.false_eq_true,if_false]
   have hrn:ty.rslot<=ty.rn:=by cases ty<;>simp[Ty.rslot,Ty.rn]
   refine zB ?_
   refine hlf htp hnp x ver fx L TP TU s idx n (t+v.nt) b rb sb ev a1 w st _ hokt htxt (hs.up (Nat.le_refl _) (by omega) (by omega)) (by omega) (by omega) hst1 ?_ ?_ ?_
   ·intro hli
    refine ⟨pb,po,off,hp1,hsn,hfo,?_⟩
    cases ty<;>simp only[Ty.isList] at hli<;>try cases hli
    exact hcd 0 (.slice none 0 0) (by simp[Ty.dz])
   ·intro a2 w2 cs d hf2' hst2 hval hrep hE hd
    obtain ⟨hcl,hc1⟩:=Ty.Rep.leaf ty htp hrep
    have hS:=Ty.okR_okS ty hokt htp
    have hf2:Fr (KR L n t) a1 a2:=hf2'.mono (KR.mono (Nat.le_refl _) (by omega))
    have hsz2:=hf2.size
    have hp2:a2.eval (.tmp s)=.pointer (some ⟨pb,po,none⟩):=by rw[hf2.slot _ (.inl hsn)];exact hp1
    refine vS (vR (by cases ty.arr<;>simp) ?_)
    refine rM ?_
    refine r_leafLoad (cs:=cs) hS hcl ?_ ?_
    ·unfold Ty.Val at hval ⊢
     cases ha:ty.arr with
     | true =>
      simp only[ha,if_true] at hval ⊢
      obtain ⟨q1,g1,g2⟩:=hval
      exact ⟨q1,(by simp (disch:=(try simp only[sP]);omega) only[eV,g1]),g2⟩
     | false =>
      simp only[ha,Bool.false_eq_true,if_false] at hval ⊢
      rw[hval]
      simp (disch:=(try simp only[sP]);omega) only[eV]
    refine qV (ad:=⟨pb,po,none⟩) (by simp (disch:=(try simp only[sP]);omega) only[eV,hp2]) ?_
    refine rF (b:=pb) (o:=po) (by simp (disch:=(try simp only[sP]);omega) only[eV]) hfo ?_
    have hfree:∀ j,j<ty.size->qq w2 pb (po+off+j):=fun j hj=>(hf j (by omega)).eff hE
    refine r_leafStore (b:=pb) (o:=po+off) (cs:=cs) hS hcl hc1 (by simp (disch:=(try simp only[sP]);omega) only[eV]) (by simp (disch:=(try simp only[sP]);omega) only[eV]) hfree ?_
    refine dn (vN ?_)
    have hE2:=qe pb cs w2 (po+off)
    rw[hcl] at hE2
    have hE2':Eff (FM rb pb (po+off) ty.size) w2 (setCells w2 pb (po+off) cs):=hE2.mono (fun k i _ h=>.inr h)
    have hE1':Eff (FM rb pb (po+off) ty.size) w w2:=hE.mono (fun k i _ h=>.inl h)
    generalize ha3:Act.put (Act.put (Act.put (Act.put a2 _ _) _ _) _ _) _ _=a3
    have hf3:Fr (KR L n t) a2 a3:=by
     subst ha3
     exact ((((Fr.refl _ a2).put _ (hkt _ (by omega))).put _ (hkt _ (by omega))).put _ (hkt _ (by omega))).put _ (hkt _ (by omega))
    refine next a3 _ cs d _ _ ((hf1.trans hf2).trans hf3) (hst2.keep hs hf3 hE2 (by rintro j ⟨h,_⟩;exact h1 h.symm) (by rintro j ⟨h,_⟩;exact h2 h.symm) (by rintro j ⟨h,_⟩;exact h3 h.symm)) hcl ?_ ?_ (hE1'.trans hE2') hd hrd
    ·intro j u hu
     exact qg _ _ _ _ (fun j hj=>(hfree j (by omega)).1) j u hu
    ·have hws:=hE.size
     refine Ty.Rep.eff hE2 ?_ ty w.heap.size B cs d ?_ hBw hrep
     ·rintro j ⟨h,_⟩;exact h2 h.symm
     ·rintro k j hk _ ⟨h,_⟩;omega
   ·intro a2 w2 g1 g2 g3 g4 g5
    exact kr a2 w2 (by rw[g1,hf1.defers]) (by rw[g2,hsz1]) g3 (g4.mono (fun k i _ h=>.inl h)) (hbad g5)
 ·intro hv a1 hf1 he1
  refine next a1 w ty.dz ty.dflt ty.dflt st hf1 (hst.fr hs hf1) (Ty.dz_len ty) hcd (Ty.dz_rep hT ty B hokz) (Eff.refl _ _) (fun _=>rfl) ?_
  simp only[Flds.rd,hv,Bool.false_eq_true,if_false,Ver.getT_no htag,Ver.dropT_no htag,Ver.ckT_no htag]
mutual
theorem Ty.rval (H:EnvR P E T) (HK:E.rTags≠0->EnvRK P E T) (hT:T []):∀ ty:Ty,ty.tp=none->ty.np=false->ty.RVal P E T
 | .scal k df,_,_=>rv_scal H k df
 | .named k N df,_,_=>rv_named H k N df
 | .uuid,_,_=>rv_uuid H
 | .text,_,_=>rv_text H
 | .ntext,_,_=>rv_ntext H
 | .ntextFrom N,_,_=>rv_ntextFrom H N
 | .bytes,_,_=>rv_bytes H
 | .nbytes,_,_=>rv_nbytes H
 | .list TS null e,_,_=>rv_list H (fun h h'=>Ty.rval H HK hT e h h') (fun TP TU FD fs h=>Ty.rvals H HK hT e TP TU FD fs h)
 | .struct _ _ _ _,h,_=>by cases h
 | .nstruct _ _ _ _ _,_,h=>by cases h
theorem Ty.rvaln (H:EnvR P E T) (HK:E.rTags≠0->EnvRK P E T) (hT:T []):∀ (ty:Ty) (TP TU:TypeId) (FD:FuncId) (fs:Flds) (PP:TypeId),ty=.nstruct TP TU FD fs PP->fs.RVal P E T
 | .nstruct TP TU FD fs PP,TP',TU',FD',fs',PP',h=>by
  cases h
  exact (Flds.rvalK H HK hT fs).plain
 | .struct _ _ _ _,_,_,_,_,_,h | .scal _ _,_,_,_,_,_,h | .named _ _ _,_,_,_,_,_,h | .uuid,_,_,_,_,_,h | .text,_,_,_,_,_,h | .ntext,_,_,_,_,_,h | .ntextFrom _,_,_,_,_,_,h | .bytes,_,_,_,_,_,h | .nbytes,_,_,_,_,_,h | .list _ _ _,_,_,_,_,_,h=>by cases h
theorem Ty.rvals (H:EnvR P E T) (HK:E.rTags≠0->EnvRK P E T) (hT:T []):∀ (ty:Ty) (TP TU:TypeId) (FD:FuncId) (fs:Flds),ty=.struct TP TU FD fs->fs.RVal P E T
 | .struct TP TU FD fs,TP',TU',FD',fs',h=>by
  cases h
  exact (Flds.rvalK H HK hT fs).plain
 | .scal _ _,_,_,_,_,h | .named _ _ _,_,_,_,_,h | .uuid,_,_,_,_,h | .text,_,_,_,_,h | .ntext,_,_,_,_,h | .ntextFrom _,_,_,_,_,h | .bytes,_,_,_,_,h | .nbytes,_,_,_,_,h | .list _ _ _,_,_,_,_,h | .nstruct _ _ _ _ _,_,_,_,_,h=>by cases h
theorem Ty.rvall (H:EnvR P E T) (HK:E.rTags≠0->EnvRK P E T) (hT:T []):∀ (ty:Ty) (TS:TypeId) (null:Option Nat) (e:Ty),ty=.list TS null e->(e.tp=none->e.np=false->e.RVal P E T)/\∀ TP TU FD fs,e=.struct TP TU FD fs->fs.RVal P E T
 | .list _ _ e,TS,null,e',h=>by
  cases h
  exact ⟨fun h h'=>Ty.rval H HK hT e h h',fun TP TU FD fs h=>Ty.rvals H HK hT e TP TU FD fs h⟩
 | .struct _ _ _ _,_,_,_,h | .scal _ _,_,_,_,h | .named _ _ _,_,_,_,h | .uuid,_,_,_,h | .text,_,_,_,h | .ntext,_,_,_,h | .ntextFrom _,_,_,_,h | .bytes,_,_,_,h | .nbytes,_,_,_,h | .nstruct _ _ _ _ _,_,_,_,h=>by cases h
theorem Flds.rvalK (H:EnvR P E T) (HK:E.rTags≠0->EnvRK P E T) (hT:T []):∀ fs:Flds,fs.RValK P E T
 | .nil b=>fv_nil H HK hT b
 | .cons v ty r=>fv_cons H HK hT (fun h h'=>Ty.rval H HK hT ty h h') (fun TP TU FD fs PP h=>Ty.rvaln H HK hT ty TP TU FD fs PP h) (fun TP TU FD fs h=>Ty.rvals H HK hT ty TP TU FD fs h) (fun TS null e h=>Ty.rvall H HK hT ty TS null e h) (Flds.rvalK H HK hT r)
end
theorem Flds.rval (H:EnvR P E T) (HK:E.rTags≠0->EnvRK P E T) (hT:T []) (fs:Flds):fs.RVal P E T:=(Flds.rvalK H HK hT fs).plain
end
end Go.Km
namespace Go.Km
open Go Go.RowKit
attribute [local irreducible] vc rO_ qz qI qF
structure EnvRX (P:Program) (E:Env):Prop where
 i16:qQ P E.tI16=true
 rd:vH P E.tRd=some ([(0,1),(1,1)],#[.slice none 0 0,.bool false])
 rdA:zb P E.tRd=some 2
def Msg.rdv (m:Msg) (ver:Nat) (st:RSt):List D × List (Nat × List UInt8) × RSt:=m.fs.rd (m.isFlex ver) ver noK st
def RFC (m:Msg) (T:List (Nat × List UInt8)->Prop) (ev:Value) (ver mb rb sb B:Nat) (st:RSt) (w w':World) (v:Value):Prop :=
 v=(if (m.rdv ver st).2.2.2 then ev else .nilIface)/\Eff (FM rb mb 1 m.fs.size) w w' ∧
 ((m.rdv ver st).2.2.2=false->∃ cs,cs.length=m.fs.size/\qb w' mb 1 cs/\m.fs.Rep w' ⟨sb,T⟩ B cs (m.rdv ver st).1 (m.rdv ver st).2.1)
def Msg.rtail (E:Env) (m:Msg) (t1:Nat):List Code :=
 [yC m.TP m.TU E.tI16 8 0 0 t1,rg [qd (t1+4) (.tmp 8) E.tI16]] ++
  (match m.flex with
   | none=>[]
   | some f=>[rg [qd (t1+5) (.tmp 8) E.tI16,zT (t1+6) .geq E.tI16 (.tmp (t1+5)) (i16 f) E.tI16 E.tO,qc 9 (.tmp (t1+6)) E.tO],rg [qd (t1+7) (.tmp 9) E.tO]]) ++
  ([rg [qd (t1+5+(match m.flex with | none=>0 | some _=>3)) (.tmp 0) m.TP,qc m.rs (.tmp (t1+5+(match m.flex with | none=>0 | some _=>3))) m.TP]]++Flds.rc E m.rx m.TP m.TU m.rs 1 [] (m.rs+1) (t1+5+(match m.flex with | none=>0 | some _=>3)+1) 0 m.fs++[qU E m.rx E.rComplete E.tErr 6 (t1+5+(match m.flex with | none=>0 | some _=>3)+1+m.fs.rt m.rx),.ret])
theorem rcode_eq (E:Env) (m:Msg):m.rcode E=sq ([rg [qc 6 (.const .nilIface) E.tErr],
  rg [qd m.rlocals (.tmp 0) m.TP,xf (some (m.rlocals+1)) m.FD #[.tmp m.rlocals] #[m.TP] 0],
  rg [qd (m.rlocals+2) (.tmp 1) E.tB,wu (m.rlocals+3) E.tRd #[(0,.tmp (m.rlocals+2))],kV 7 E.tRd,za E.tRd (.tmp 7) (.tmp (m.rlocals+3))]] ++
  ((if m.kept then [rg [qd (m.rlocals+4) (.tmp 0) m.TP,xf (some (m.rlocals+5)) E.rI16 #[.tmp 7] #[E.tRd] E.tI16,jk (m.rlocals+6) (.tmp (m.rlocals+4)),xr (m.rlocals+7) m.TU (.tmp (m.rlocals+6)) 0,za E.tI16 (.tmp (m.rlocals+7)) (.tmp (m.rlocals+5))]] else []) ++
  m.rtail E (m.rlocals+4+(if m.kept then 4 else 0)))):=by
 unfold Msg.rcode Msg.rtail
 simp only[List.append_assoc,List.cons_append,List.nil_append]
 rfl
section
variable {P : Program} {E : Env} {T : List (Nat × List UInt8) → Prop}
theorem rf_flds (H:EnvR P E T) (HK:E.rTags≠0->EnvRK P E T) (hT:T []) {m:Msg} {ver mb rb sb B t2:Nat} {ev:Value} {a:Act} {w:World} {st:RSt}
  (hok:m.fs.okR P E m.rx m.TU 1 1=true) (htx:m.fs.txR P E) (ht2:m.rlocals<=t2) (hsz:t2+1+m.fs.rt m.rx+1<=a.tmps.size) (hdf:a.defers=[])
  (h0:a.eval (.tmp 0)=.pointer (some ⟨mb,0,none⟩)) (h2:a.eval (.tmp 2)=.bool false) (h7:a.eval (.tmp 7)=.pointer (some ⟨rb,0,none⟩)) (h8:a.eval (.tmp 8)=.int .i16 (ver:Int)) (h9:∀ f,m.rx.fl=some f->a.eval (.tmp f)=.bool (m.isFlex ver))
  (hr:RdS w rb sb st) (he:w.cell? ⟨E.vErr,0,none⟩=some ev) (her:E.vErr≠rb) (hev:∃ u z,ev=.iface u z)
  (hc:qb w mb 1 m.fs.dz) (hf:∀ i,i<m.fs.size->qq w mb (1+i)) (hm1:mb≠rb) (hm2:mb≠sb) (hm3:mb≠E.vErr) (hmB:mb<B) (hrB:rb<B) (hB:B<=w.heap.size) :
  vc P (sq ([rg [qd t2 (.tmp 0) m.TP,qc m.rs (.tmp t2) m.TP]]++Flds.rc E m.rx m.TP m.TU m.rs 1 [] (m.rs+1) (t2+1) 0 m.fs++[qU E m.rx E.rComplete E.tErr 6 (t2+1+m.fs.rt m.rx),.ret])) (Out P #[.tmp 6] fun v w'=>RFC m T ev ver mb rb sb B st w w' v) a w:=by
 have hrs:m.rs=(match m.flex with | none=>9 | some _=>10):=rfl
 have hrl:m.rlocals=m.rs+1+m.fs.rn:=rfl
 have hrs9:9<=m.rs:=by rw[hrs];cases m.flex<;>simp
 have hfl9:∀ f,m.rx.fl=some f->f=9/\m.rs=10:=by
  intro f hf
  cases hfx:m.flex<;>simp[Msg.rx,Msg.rs,hfx] at hf ⊢
  omega
 have hno:m.rx.fl=none->m.isFlex ver=false:=by
  intro hf
  cases hfx:m.flex<;>simp[Msg.rx,Msg.isFlex,hfx] at hf ⊢
 have hs:RSl m.rx m.rlocals (m.rs+1) (t2+1) (m.isFlex ver) :=
  ⟨by omega,by show 7<m.rs+1;omega,by show 8<m.rs+1;omega,fun f hf=>by have:=hfl9 f hf;omega,hno,by omega,by omega⟩
 simp only[List.cons_append,List.nil_append]
 refine vX (rM (rA (dn ?_)))
 generalize ha1:Act.put (Act.put a _ _) _ _=a1
 have hf1:Fr (fun k=>k<m.rs) a a1:=by
  subst ha1
  exact ((Fr.refl _ a).put _ (by omega)).put _ (by omega)
 have hp1:a1.eval (.tmp m.rs)=.pointer (some ⟨mb,0,none⟩):=by subst ha1;simp (disch:=(try simp only[sP]);omega) only[eV,h0]
 have hs1:=hf1.size
 clear ha1
 have hst:RSta E m.rx ver (m.isFlex ver) rb sb ev a1 w st :=
  ⟨hr,by show a1.eval (.tmp 7)=_;rw[hf1.slot 7 (by omega)];exact h7,by rw[hf1.slot 2 (by omega)];exact h2,by show a1.eval (.tmp 8)=_;rw[hf1.slot 8 (by omega)];exact h8,fun f hf=>by have:=hfl9 f hf;rw[hf1.slot f (by omega)];exact h9 f hf,he,her,hev⟩
 refine zB ?_
 refine Flds.rval H HK hT m.fs m.rx ver (m.isFlex ver) m.rlocals m.TP m.TU m.rs 1 1 (m.rs+1) (t2+1) 0 rb sb mb 0 B ev a1 w st _ hok htx hs (by omega) (by omega) hst hp1 (by omega) (by simpa using hc) (fun i hi=>by simpa using hf i hi) hm1 hm2 hm3 hmB hrB hB ?_ ?_
 ·intro a2 w2 cs ds tags g1 g2 g3 g4 g5 g6 g7
  have hs2:=g1.size
  refine vX ?_
  refine q8 (args:=#[.pointer (some ⟨rb,0,none⟩)]) ?_ (H.complete rb sb _ w2 ev g2.rd g2.err) ?_
  ·simp only[lM]
   simp (disch:=(try simp only[sP]);omega) only[eV,g2.p7]
  rintro v w3 ⟨rfl,rfl⟩
  refine rA (dn (vS (vT ?_)))
  refine ⟨by simp only[dF];rw[g1.defers,hf1.defers];exact hdf,_,rO ?_,rfl,by simpa using g6,?_⟩
  ·simp (disch:=(try simp only[sP]);omega) only[eV]
   rfl
  ·intro h
   obtain ⟨rfl,rfl⟩:=g7 h
   exact ⟨cs,g3,by simpa using g4,g5⟩
 ·intro a2 w2 g1 g2 g3 g4 g5
  refine ⟨by rw[g1,hf1.defers];exact hdf,ev,rO g3,?_,by simpa using g4,?_⟩
  ·rw[if_pos (show (m.rdv ver st).2.2.2=true from g5)]
  ·intro h
   rw[show (m.rdv ver st).2.2.2=true from g5] at h
   cases h
theorem rf_tail (H:EnvR P E T) (HX:EnvRX P E) (HK:E.rTags≠0->EnvRK P E T) (hT:T []) {m:Msg} {ver mb rb sb B t1:Nat} {ev:Value} {a:Act} {w:World} {st:RSt}
  (hok:m.fs.okR P E m.rx m.TU 1 1=true) (htx:m.fs.txR P E) (h00:ql P m.TU 0=some 0) (ht1:m.rlocals<=t1) (hsz:t1+5+(match m.flex with | none=>0 | some _=>3)+1+m.fs.rt m.rx+1<=a.tmps.size) (hdf:a.defers=[])
  (h0:a.eval (.tmp 0)=.pointer (some ⟨mb,0,none⟩)) (h2:a.eval (.tmp 2)=.bool false) (h7:a.eval (.tmp 7)=.pointer (some ⟨rb,0,none⟩)) (hv:w.cell? ⟨mb,0,none⟩=some (.int .i16 (ver:Int)))
  (hr:RdS w rb sb st) (he:w.cell? ⟨E.vErr,0,none⟩=some ev) (her:E.vErr≠rb) (hev:∃ u z,ev=.iface u z)
  (hc:qb w mb 1 m.fs.dz) (hf:∀ i,i<m.fs.size->qq w mb (1+i)) (hm1:mb≠rb) (hm2:mb≠sb) (hm3:mb≠E.vErr) (hmB:mb<B) (hrB:rb<B) (hB:B<=w.heap.size) :
  vc P (sq (m.rtail E t1))
  (Out P #[.tmp 6] fun v w'=>RFC m T ev ver mb rb sb B st w w' v) a w:=by
 have hrl:m.rlocals=m.rs+1+m.fs.rn:=rfl
 have hrs9:9<=m.rs:=by show 9<=(match m.flex with | none=>9 | some _=>10);cases m.flex<;>simp
 simp only[Msg.rtail,List.append_assoc,List.cons_append,List.nil_append]
 refine vS (m_load (K:=fun k=>k<8) h0 h00 HX.i16 (by simpa using hv) (by omega) (fun d hd=>by omega) (by omega) (by omega) ?_)
 intro a1 hf1 hv1
 have hs1:=hf1.size
 refine vX (rM (dn ?_))
 cases hfx:m.flex with
 | none =>
  simp only[hfx,List.nil_append,Nat.add_zero] at hsz ⊢
  have:=rf_flds H HK hT (m:=m) (ver:=ver) (mb:=mb) (rb:=rb) (sb:=sb) (B:=B) (t2:=t1+5) (ev:=ev) (a:=a1.put (some (t1+4)) (a1.eval (.tmp 8))) (w:=w) (st:=st) hok htx (by omega) (by rw[zP,hs1];omega) (by rw[dF,hf1.defers];exact hdf)
   (by simp (disch:=(try simp only[sP]);omega) only[eV,hf1.slot 0 (by omega),h0]) (by simp (disch:=(try simp only[sP]);omega) only[eV,hf1.slot 2 (by omega),h2]) (by simp (disch:=(try simp only[sP]);omega) only[eV,hf1.slot 7 (by omega),h7]) (by simp (disch:=(try simp only[sP]);omega) only[eV,hv1]) (fun f hf=>by simp[Msg.rx,hfx] at hf) hr he her hev hc hf hm1 hm2 hm3 hmB hrB hB
  simp only[List.append_assoc,List.cons_append,List.nil_append] at this
  exact this
 | some f =>
  simp only[hfx,List.cons_append,List.nil_append] at hsz ⊢
  refine vX (rM ?_)
  refine y6 (k:=.i16) (m:=(ver:Int)) (n:=(f:Int)) (by simp (disch:=(try simp only[sP]);omega) only[eV,hv1]) rfl ?_
  refine rA (dn (vX (rM (dn ?_))))
  generalize ha2:Act.put (Act.put (Act.put (Act.put (Act.put a1 _ _) _ _) _ _) _ _) _ _=a2
  have hf2:Fr (fun k=>k<9) a1 a2:=by
   subst ha2
   exact (((((Fr.refl _ a1).put _ (by omega)).put _ (by omega)).put _ (by omega)).put _ (by omega)).put _ (by omega)
  have h92:a2.eval (.tmp 9)=.bool (decide ((ver:Int) ≥ (f:Int))):=by subst ha2;simp (disch:=(try simp only[sP]);omega) only[eV]
  have hs2:=hf2.size
  clear ha2
  have:=rf_flds H HK hT (m:=m) (ver:=ver) (mb:=mb) (rb:=rb) (sb:=sb) (B:=B) (t2:=t1+5+3) (ev:=ev) (a:=a2) (w:=w) (st:=st) hok htx (by omega) (by rw[hs2,hs1];omega) (by rw[hf2.defers,hf1.defers];exact hdf)
   (by rw[hf2.slot 0 (by omega),hf1.slot 0 (by omega)];exact h0) (by rw[hf2.slot 2 (by omega),hf1.slot 2 (by omega)];exact h2) (by rw[hf2.slot 7 (by omega),hf1.slot 7 (by omega)];exact h7) (by rw[hf2.slot 8 (by omega)];exact hv1)
   (fun g hg=>by
    simp only[Msg.rx,hfx,Option.map_some,Option.some.injEq] at hg
    subst hg
    rw[h92]
    simp only[Msg.isFlex,hfx]
    congr 1
    simp) hr he her hev hc hf hm1 hm2 hm3 hmB hrB hB
  simp only[List.append_assoc,List.cons_append,List.nil_append] at this
  exact this
def Msg.rtop (m:Msg):Nat:=m.rlocals+4+(if m.kept then 4 else 0)+5+(match m.flex with | none=>0 | some _=>3)+1+m.fs.rt m.rx+1
def Msg.rver (m:Msg) (ver:Nat) (l:List UInt8):Int:=if m.kept then sgn 2 (rdN 2 (l,false)).1 else ver
def Msg.rst (m:Msg) (l:List UInt8):RSt:=if m.kept then (rdN 2 (l,false)).2 else (l,false)
def RFD (m:Msg) (T:List (Nat × List UInt8)->Prop) (ev:Value) (ver mb sb:Nat) (l:List UInt8) (w w':World) (v:Value):Prop :=
 v=(if (m.rdv ver (m.rst l)).2.2.2 then ev else .nilIface)/\Eff (fun k _=>k=mb) w w' ∧
 ((m.rdv ver (m.rst l)).2.2.2=false->∃ cs,cs.length=m.fs.size/\qb w' mb 0 (.int .i16 (ver:Int)::cs)/\m.fs.Rep w' ⟨sb,T⟩ 0 cs (m.rdv ver (m.rst l)).1 (m.rdv ver (m.rst l)).2.1)
set_option maxHeartbeats 1000000 in
theorem c_readFrom (H:EnvR P E T) (HX:EnvRX P E) (HK:E.rTags≠0->EnvRK P E T) (hT:T []) {m:Msg} {RF:FuncId} {np nt npd ntd:Nat} (ht:Text P RF np nt #[.tmp 6] (m.rcode E)) (hn:m.rtop<=nt) (hd:Text P m.FD npd ntd #[] (dcode E m.TP m.TU 1 m.fs)) (hnd:2+m.fs.dn+m.fs.dt<=ntd) (hokd:m.fs.okD P E m.TU 1 1=true)
  (hok:m.fs.okR P E m.rx m.TU 1 1=true) (htx:m.fs.txR P E) (h00:ql P m.TU 0=some 0) (hk16:m.kept=true->E.rI16≠0)
  {ver ver0 mb sb:Nat} {ev sv:Value} {l:List UInt8} {w:World} (hver:m.rver ver0 l=(ver:Int))
  (hc:qb w mb 0 (.int .i16 (ver0:Int)::m.fs.dz)) (hf:∀ i,i<m.fs.size+1->qq w mb i) (hs:j5 w sb sv l) (hsb:sb<w.heap.size) (hl:l.length<=big) (he:w.cell? ⟨E.vErr,0,none⟩=some ev) (hev:∃ u z,ev=.iface u z) (hm2:mb≠sb) (hm3:mb≠E.vErr) :
  qa P RF #[.pointer (some ⟨mb,0,none⟩),sv,.bool false] w fun v w'=>RFD m T ev ver mb sb l w w' v:=by
 have hrl:m.rlocals=m.rs+1+m.fs.rn:=rfl
 have hrs9:9<=m.rs:=by show 9<=(match m.flex with | none=>9 | some _=>10);cases m.flex<;>simp
 have hnt:m.rlocals+4+(if m.kept then 4 else 0)+5+(match m.flex with | none=>0 | some _=>3)+1+m.fs.rt m.rx+1<=nt:=hn
 have hmb:mb<w.heap.size:=(hf 0 (by omega)).lt
 refine qa.enter ht (by simp;omega) ?_
 intro a hsz hdf harg
 have e0:=harg 0 (.pointer (some ⟨mb,0,none⟩)) (by simp)
 have e1:=harg 1 sv (by simp)
 have e2:=harg 2 (.bool false) (by simp)
 obtain ⟨zr,hzr,hzrc⟩:=xD HX.rd
 rw[rcode_eq]
 simp only[List.cons_append,List.nil_append]
 refine vX (rA (dn (vX (rM ?_))))
 have hcz:qb w mb (0+1) m.fs.dz:=hc.dp (n:=1)
 refine q8 (args:=#[.pointer (some ⟨mb,0,none⟩)]) ?_ (c_dflt (b:=mb) (o:=0) (off:=1) (cs:=m.fs.dz) hd hnd hokd (Flds.dz_len _) hcz (fun i hi=>by have:=hf (i+1) (by omega);rwa [show 0+1+i=i+1 by omega])) ?_
 ·simp only[lM]
  simp (disch:=(try simp only[sP]);omega) only[eV,e0]
 rintro v1 w1 ⟨hE1,hc1⟩
 rw[Flds.over_dz] at hc1
 refine dn ?_
 have hz1:=hE1.size
 refine vX (rM ?_)
 have hs1:j5 w1 sb sv l:=hs.heap (hE1.blockEq hsb (by rintro i ⟨h,_⟩;exact hm2 h.symm))
 have hsv1:=hs.one
 have hsvc:sv.cells=#[sv]:=by
  obtain ⟨ad,cap,rfl,_⟩:=hs.form
  rfl
 generalize hA:Act.put _ (some (m.rlocals+2)) _=A
 have hfA:Fr (fun k=>k=0\/k=1\/k=2) a A:=by
  subst hA
  exact ((((Fr.refl _ a).put _ (by omega)).put _ (by omega)).put _ (by omega)).put _ (by omega)
 have hAv:A.eval (.tmp (m.rlocals+2))=sv:=by subst hA;simp (disch:=(try simp only[sP]);omega) only[eV,e1]
 have hsA:=hfA.size
 clear hA
 refine z9 (cells:=#[sv,.bool false]) HX.rd ?_ ?_
 ·simp[Instr.fill,hAv,hsvc]
 refine qK hzr ?_
 have hfree:∀ i,i < [sv,Value.bool false].length->qq (w1.alloc (.cells zr.cells E.tRd)) w1.heap.size (0+i):=by
  intro i hi
  rw[Nat.zero_add]
  exact qn w1 _ _ (by rw[hzrc];simpa using hi)
 refine qu (b:=w1.heap.size) (o:=0) (cs:=[sv,.bool false]) (by simp (disch:=(try simp only[sP]);omega) only[eV]) (by simp (disch:=(try simp only[sP]);omega) only[eV]) (by intro v hv;simp only[List.mem_cons,List.not_mem_nil,or_false] at hv;rcases hv with rfl | rfl;exact hsv1;rfl) HX.rdA hfree ?_
 refine dn ?_
 have hcb:qb (setCells (w1.alloc (.cells zr.cells E.tRd)) w1.heap.size 0 [sv,.bool false]) w1.heap.size 0 [sv,.bool false] :=
  fun i v hv=>qg _ _ _ _ (fun j hj=>(hfree j hj).1) i v hv
 have hE2:=qe w1.heap.size [sv,.bool false] (w1.alloc (.cells zr.cells E.tRd)) 0
 have hb2:Below w1.heap.size w1 (setCells (w1.alloc (.cells zr.cells E.tRd)) w1.heap.size 0 [sv,.bool false]) :=
  ((Below.refl w1.heap.size w1).alloc (o:=.cells _ _) (Nat.le_refl _)).trans (hE2.below (by simp) (by rintro k i hk ⟨rfl,_,_⟩;omega))
 have hz2:w1.heap.size<(setCells (w1.alloc (.cells zr.cells E.tRd)) w1.heap.size 0 [sv,.bool false]).heap.size:=by
  have:=hE2.size
  simp at this
  omega
 have hfr2:∀ i,i<2->qq (setCells (w1.alloc (.cells zr.cells E.tRd)) w1.heap.size 0 [sv,.bool false]) w1.heap.size i:=fun i hi=>by
  have:=(hfree i (by simpa using hi)).eff hE2
  rwa [Nat.zero_add] at this
 generalize setCells (w1.alloc (.cells zr.cells E.tRd)) w1.heap.size 0 [sv,.bool false]=w2 at *
 generalize hrb:w1.heap.size=rb at *
 generalize ha2:Act.put _ (some 7) _=a2
 have hf2:Fr (fun k=>k=0\/k=1\/k=2) a a2:=by
  subst ha2
  exact (hfA.put _ (by omega)).put _ (by omega)
 have h27:a2.eval (.tmp 7)=.pointer (some ⟨rb,0,none⟩):=by subst ha2;simp (disch:=(try simp only[sP]);omega) only[eV]
 have hs2z:=hf2.size
 clear ha2
 have hrd:RdS w2 rb sb (l,false):=⟨by omega,by omega,⟨sv,hcb,hs1.heap (hb2.block sb (by omega))⟩,hfr2 0 (by omega),hfr2 1 (by omega),hl⟩
 have hbw:Below w1.heap.size w1 w2:=by rw[hrb];exact hb2
 have hE02:Eff (fun k _=>k=mb) w w2:=(hE1.mono (fun k i _ h=>h.1)).trans (Eff.of_below hbw)
 have hev2:w2.cell? ⟨E.vErr,0,none⟩=some ev:=hE02.cellSome he (by rintro h;exact hm3 h.symm)
 have hevlt:E.vErr<w.heap.size:=qj he
 have hc2:qb w2 mb 1 m.fs.dz:=hc1.below hb2 (by omega)
 have hv2:w2.cell? ⟨mb,0,none⟩=some (.int .i16 (ver0:Int)):=by
  have:=hc 0 (.int .i16 (ver0:Int)) (by simp)
  have:=hE1.cellSome this (by rintro ⟨_,h,_⟩;omega)
  rw[hb2.cell (p:=⟨mb,0,none⟩) (show mb<rb by omega)]
  exact this
 have hfm2:∀ i,i<m.fs.size+1->qq w2 mb i:=fun i hi=>(hf i hi).eff hE02
 have fin:∀ (t1:Nat) (a3:Act) (w3:World),m.rlocals<=t1->t1+5+(match m.flex with | none=>0 | some _=>3)+1+m.fs.rt m.rx+1<=nt->Fr (fun k=>k=0\/k=1\/k=2\/k=7) a2 a3->RdS w3 rb sb (m.rst l)->w3.cell? ⟨mb,0,none⟩=some (.int .i16 (ver:Int)) →
   Eff (fun k i=>RM rb k i\/(k=mb/\i<1)) w2 w3->vc P (sq (m.rtail E t1)) (Out P #[.tmp 6] fun v w'=>RFD m T ev ver mb sb l w w' v) a3 w3:=by
  intro t1 a3 w3 h1 h2 h3 h4 h5 h6
  have hz3:=h6.size
  refine qZ _ (rf_tail H HX HK hT (m:=m) (ver:=ver) (mb:=mb) (rb:=rb) (sb:=sb) (B:=rb+1) (t1:=t1) (ev:=ev) (a:=a3) (w:=w3) (st:=m.rst l) hok htx h00 h1 (by rw[h3.size,hs2z,hsz];exact h2) (by rw[h3.defers,hf2.defers];exact hdf)
   (by rw[h3.slot 0 (by omega),hf2.slot 0 (by omega)];exact e0) (by rw[h3.slot 2 (by omega),hf2.slot 2 (by omega)];exact e2) (by rw[h3.slot 7 (by omega)];exact h27) h5 h4 (h6.cellSome hev2 (by rintro (⟨h,_⟩ | ⟨h,_⟩);omega;exact hm3 h.symm)) (by omega) hev
   (hc2.eff h6 (by rintro i hi (⟨h,_⟩ | ⟨_,h⟩)<;>omega)) (fun i hi=>(hfm2 (1+i) (by omega)).eff h6) (by omega) hm2 hm3 (by omega) (by omega) (by omega)) ?_
  have key:∀ v w',RFC m T ev ver mb rb sb (rb+1) (m.rst l) w3 w' v->RFD m T ev ver mb sb l w w' v:=by
   rintro v w' ⟨g1,g2,g3⟩
   refine ⟨g1,?_,fun h=>?_⟩
   ·refine (hE02.trans' h6 ?_).trans' g2 ?_
    ·rintro k i hk (⟨h,_⟩ | ⟨h,_⟩)
     ·omega
     ·exact h
    ·rintro k i hk (⟨h,_⟩ | ⟨h,_⟩)
     ·omega
     ·exact h
   ·obtain ⟨cs,k1,k2,k3⟩:=g3 h
    refine ⟨cs,k1,?_,Flds.Rep.eff (Eff.refl (fun _ _=>False) w') (fun _ h=>h) m.fs (rb+1) 0 cs _ _ (fun _ _ _ _ h=>h) (Nat.zero_le _) k3⟩
    have h0:=g2.cellSome h5 (by rintro (⟨h,_⟩ | ⟨_,h,_⟩)<;>omega)
    intro i u hu
    cases i with
    | zero=>simp only[List.getElem?_cons_zero,Option.some.injEq] at hu;subst hu;exact h0
    | succ i =>
     simp only[List.getElem?_cons_succ] at hu
     have:=k2 i u hu
     rwa [show 1+i=0+(i+1) by omega] at this
  intro e a w' h
  cases e<;>first | exact ⟨h.1,let ⟨v,hv,hs⟩:=h.2;⟨v,hv,key v w' hs⟩⟩ | exact h
 cases hk:m.kept with
 | false =>
  simp only[hk,Bool.false_eq_true,if_false,List.nil_append] at hnt ⊢
  have hv:ver0=ver:=by
   have:(ver0:Int)=(ver:Int):=by simpa [Msg.rver,hk] using hver
   omega
  subst hv
  exact fin _ a2 w2 (by omega) (by omega) (Fr.refl _ _) (by simp only[Msg.rst,hk,Bool.false_eq_true,if_false];exact hrd) hv2 (Eff.refl _ _)
 | true =>
  simp only[hk,if_true,List.cons_append,List.nil_append] at hnt ⊢
  have hv:sgn 2 (rdN 2 (l,false)).1=(ver:Int):=by simpa [Msg.rver,hk] using hver
  have hst:m.rst l=(rdN 2 (l,false)).2:=by simp[Msg.rst,hk]
  refine vX (rM ?_)
  refine q8 (args:=#[.pointer (some ⟨rb,0,none⟩)]) ?_ (H.scal .i16 (hk16 hk) rb sb (l,false) w2 hrd) ?_
  ·simp only[lM]
   simp (disch:=(try simp only[sP]);omega) only[eV,h27]
  rintro v w3 ⟨⟨hv3,hvo⟩,hr3,hE3⟩
  have hv3':v=.int .i16 (ver:Int):=by rw[hv3,← hv];rfl
  subst hv3'
  refine qV (ad:=⟨mb,0,none⟩) (by simp (disch:=(try simp only[sP]);omega) only[eV,hf2.slot 0 (by omega),e0]) ?_
  refine rF (b:=mb) (o:=0) (by simp (disch:=(try simp only[sP]);omega) only[eV]) h00 ?_
  have hf3:qq w3 mb (0+0):=(hfm2 0 (by omega)).eff hE3
  refine xq (b:=mb) (o:=0+0) (v:=.int .i16 (ver:Int)) (by simp (disch:=(try simp only[sP]);omega) only[eV]) (by simp (disch:=(try simp only[sP]);omega) only[eV]) rfl HX.i16 hf3 ?_
  refine dn ?_
  have hE4:Eff (fun k i=>k=mb/\i<1) w3 (w3.setCell ⟨mb,0+0,none⟩ (.int .i16 (ver:Int))):=(Eff.refl _ w3).setCell _ _ _ (fun _=>⟨rfl,by omega⟩)
  refine fin _ _ _ (by omega) (by omega) ((((Fr.refl _ a2).put _ (by omega)).put _ (by omega) |>.put _ (by omega)).put _ (by omega)) ?_ (qo _ hf3.1) ((hE3.mono (fun k i _ h=>.inl h)).trans (hE4.mono (fun k i _ h=>.inr h)))
  rw[hst]
  exact (show RdS w3 rb sb (rdN 2 (l,false)).2 from hr3).keep hE4 (by rintro i ⟨h,_⟩;omega) (by rintro i ⟨h,_⟩;exact hm2 h.symm)
end
end Go.Km
namespace Go.Km
open Go Go.RowKit
attribute [local irreducible] vc rO_ qz qI qF
def ReadC (P:Program) (E:Env) (T:List (Nat × List UInt8)->Prop) (m:Msg) (f:FuncId):Prop :=
 ∀ (ver ver0 mb sb:Nat) (ev sv:Value) (l:List UInt8) (w:World),m.rver ver0 l=(ver:Int)->qb w mb 0 (.int .i16 (ver0:Int)::m.fs.dz)->(∀ i,i<m.fs.size+1->qq w mb i)->j5 w sb sv l->sb<w.heap.size->l.length<=big →
  w.cell? ⟨E.vErr,0,none⟩=some ev->(∃ u z,ev=.iface u z)->mb≠sb->mb≠E.vErr->qa P f #[.pointer (some ⟨mb,0,none⟩),sv] w fun v w'=>RFD m T ev ver mb sb l w w' v
def c_rfw (E:Env) (m:Msg) (RF:FuncId):Code :=
 sq [rg [qc 4 (.const .nilIface) E.tErr],rg [qd 5 (.tmp 0) m.TP,qd 6 (.tmp 1) E.tB,xf (some 7) RF #[.tmp 5,.tmp 6,.const (.bool false)] #[m.TP,E.tB,E.tO] E.tErr,qc 4 (.tmp 7) E.tErr],.ret]
def Msg.wdat (m:Msg) (ver:Nat) (ds:List D):List D:=if m.kept then .int ver::ds else ds
def Msg.out (m:Msg) (ver:Nat) (ds:List D) (tags:List (Nat × List UInt8)):List UInt8:=m.wfs.wr (m.isFlex ver) ver (m.wdat ver ds) tags
def Msg.back (m:Msg) (ver:Nat) (l:List UInt8):Option (List UInt8) :=
 if (m.rdv ver (m.rst l)).2.2.2 then none else some (m.out ver (m.rdv ver (m.rst l)).1 (m.rdv ver (m.rst l)).2.1)
def BackV (E:Env) (o:Option (List UInt8)) (W w':World) (r:Value):Prop :=
 Below W.heap.size W w'/\match o with
 | none=>r=.tuple #[.slice none 0 0,.bool false]
 | some l=>∃ x,r=.tuple #[x,.bool true]/\w'.ownsRow W.heap.size E.tU8 1 x l.length (l.map bv)
structure MR where
 newPtr:FuncId
 setV:FuncId
 app:FuncId
 rd:FuncId
 rdi:FuncId
 again:FuncId
def c_again (E : Env) (m : Msg) (N : MR) : Code :=
  sq [rg [qc 4 (.const (.slice none 0 0)) E.tB, qc 5 (.const (.bool false)) E.tO],
    rg [xf (some 7) N.newPtr #[] #[] m.TP, qc 6 (.tmp 7) m.TP],
    rg [qd 8 (.tmp 6) m.TP, qd 9 (.tmp 0) E.tI, vP 10 E.tI E.tI16 (.tmp 9), xf (some 11) N.setV #[.tmp 8, .tmp 10] #[m.TP, E.tI16] 0],
    sq [rg [qd 12 (.tmp 6) m.TP, qd 13 (.tmp 1) E.tB, xI 14 .append #[.const (.slice none 0 0), .tmp 13] #[E.tB, E.tB] E.tB, xf (some 15) N.rd #[.tmp 12, .tmp 14] #[m.TP, E.tB] E.tErr,
        zT 16 .neq E.tErr (.tmp 15) (.const .nilIface) E.tErr E.tO],
      .cond (.tmp 16) (sq [rg [qc 4 (.const (.slice none 0 0)) E.tB, qc 5 (.const (.bool false)) E.tO], .ret]) .skip],
    rg [qd 17 (.tmp 6) m.TP, xf (some 18) N.app #[.tmp 17, .const (.slice none 0 0)] #[m.TP, E.tB] E.tB, qc 4 (.tmp 18) E.tB, qc 5 (.const (.bool true)) E.tO],
    .ret]
section
variable {P : Program} {E : Env} {T : List (Nat × List UInt8) → Prop}
theorem c_rfw_ok (H:EnvR P E T) (HX:EnvRX P E) (HK:E.rTags≠0->EnvRK P E T) (hT:T []) {m:Msg} {RF f:FuncId} {np nt npr ntr npd ntd:Nat} (ht:Text P f np nt #[.tmp 4] (c_rfw E m RF)) (hn:8<=nt) (htr:Text P RF npr ntr #[.tmp 6] (m.rcode E)) (hnr:m.rtop<=ntr) (hd:Text P m.FD npd ntd #[] (dcode E m.TP m.TU 1 m.fs)) (hnd:2+m.fs.dn+m.fs.dt<=ntd) (hokd:m.fs.okD P E m.TU 1 1=true)
  (hok:m.fs.okR P E m.rx m.TU 1 1=true) (htx:m.fs.txR P E) (h00:ql P m.TU 0=some 0) (hk16:m.kept=true->E.rI16≠0):ReadC P E T m f:=by
 intro ver ver0 mb sb ev sv l w h1 h2 h3 h4 h5 h6 h7 hev h8 h9
 refine qa.enter ht (by simp;omega) ?_
 intro a hsz hdf harg
 have e0:=harg 0 (.pointer (some ⟨mb,0,none⟩)) (by simp)
 have e1:=harg 1 sv (by simp)
 unfold c_rfw
 refine vX (rA (dn (vX (rM (rM ?_)))))
 refine q8 (args:=#[.pointer (some ⟨mb,0,none⟩),sv,.bool false]) ?_ (c_readFrom H HX HK hT htr hnr hd hnd hokd hok htx h00 hk16 h1 h2 h3 h4 h5 h6 h7 hev h8 h9) ?_
 ·simp only[lM]
  simp (disch:=(try simp only[sP]);omega) only[eV,e0,e1]
 intro v w' hS
 refine rA (dn (vS (vT ?_)))
 exact ⟨by simp only[dF];exact hdf,v,rO (by simp (disch:=(try simp only[sP]);omega) only[eV]),hS⟩
theorem kb {W:World} {B B':Nat} {e:TypeId} {s:Nat} {v:Value} {n:Nat} {xs:List Value} (h:W.ownsRow B e s v n xs) (hB:B'<=B):W.ownsRow B' e s v n xs:=by
 refine ⟨h.1,?_⟩
 rcases h.2 with h | ⟨g,cap,cur,h1,h2,h3⟩
 ·exact .inl h
 ·exact .inr ⟨g,cap,cur,h1,Nat.le_trans hB h2,h3⟩
theorem zj {w w':World} {B C:Nat} {e:TypeId} {s:Nat} {v:Value} {n:Nat} {xs:List Value} (h:w.ownsRow B e s v n xs) (hb:Below C w w') (hC:C=w.heap.size:=by rfl):w'.ownsRow B e s v n xs:=by
 subst hC
 refine ⟨h.1,?_⟩
 rcases h.2 with h | ⟨g,cap,cur,h1,h2,h3,h4⟩
 ·exact .inl h
 ·have hg:g<w.heap.size:=(Array.getElem?_eq_some_iff.1 h3).1
  exact .inr ⟨g,cap,cur,h1,h2,by rw[hb.block g hg];exact h3,h4⟩
theorem xn.below {w w':World} {B:Nat} {v:Value} {l:List UInt8} (h:xn w v l) (hb:Below B w w') (hB:B=w.heap.size:=by rfl):xn w' v l:=by
 rcases h with h | ⟨q,o,cap,hv,hc⟩
 ·exact .inl h
 ·refine .inr ⟨q,o,cap,hv,fun i u hu=>?_⟩
  have h1:=hc i u hu
  rw[hb.cell (p:=⟨q,o+i,none⟩) (show q<B by rw[hB];exact qj h1)]
  exact h1
theorem xn.src {w:World} {t e:TypeId} {v:Value} {l:List UInt8} (h:xn w v l) (ht:xw P t=some (e,1)):Src P 1 t v l.length (l.map bv) w:=by
 rcases h with ⟨rfl,rfl⟩ | ⟨q,o,cap,rfl,hc⟩
 ·exact wV ht
 ·exact xW ht hc (by simp) (xo l)
theorem own_src {w:World} {U d:Nat} {e:TypeId} {v:Value} {l:List UInt8} (h:w.ownsRow U e 1 v l.length (l.map bv)) (hd:d<w.heap.size) (hdU:d<U):∃ sb,j5 w sb v l/\sb<w.heap.size/\(sb=d\/U<=sb):=by
 have hr:=xn.of_own h
 rcases h.2 with ⟨rfl,h0⟩ | ⟨g,cap,cur,rfl,hbg,hg,hnc,hcm,hcs,htake⟩
 ·exact ⟨d,.inl ⟨rfl,List.eq_nil_of_length_eq_zero h0⟩,hd,.inl rfl⟩
 ·have hlt:g<w.heap.size:=(Array.getElem?_eq_some_iff.1 hg).1
  refine ⟨g,.inr ⟨0,cap,rfl,hnc,?_⟩,hlt,.inr hbg⟩
  rcases hr with ⟨h,_⟩ | ⟨q,o,cap',h,hc⟩
  ·cases h
  ·cases h
   exact hc
theorem wrap_i16n {n:Nat} (h:n<32768):IntKind.i16.wrap (n:Int)=(n:Int):=by
 have h2:(2:Int) ^ 16=65536:=by decide
 have h3:(2:Int) ^ (16-1)=32768:=by decide
 simp only[IntKind.wrap,IntKind.bits,IntKind.signed,Bool.true_and,decide_eq_true_eq,h2,h3]
 split<;>omega
theorem rf_out (HW:EnvW P E T) (HI:EnvI P E) {m:Msg} {f:FuncId} {np nt:Nat} (ha:Text P f np nt #[.tmp 4] (m.wcode E)) (hna:m.wtop<=nt) (hokw:m.okW P E=true) {ver mb sb:Nat} {ev:Value} {l:List UInt8} {w w':World} {v:Value} (hv:ver<32768)
  (h:RFD m T ev ver mb sb l w w' v) (hnb:(m.rdv ver (m.rst l)).2.2.2=false) (hb:(m.out ver (m.rdv ver (m.rst l)).1 (m.rdv ver (m.rst l)).2.1).length<=big) :
  qa P f #[.pointer (some ⟨mb,0,none⟩),.slice none 0 0] w' fun x w2=>w2.ownsRow w'.heap.size E.tU8 1 x (m.out ver (m.rdv ver (m.rst l)).1 (m.rdv ver (m.rst l)).2.1).length ((m.out ver (m.rdv ver (m.rst l)).1 (m.rdv ver (m.rst l)).2.1).map bv)/\Below w'.heap.size w' w2:=by
 obtain ⟨_,_,h3⟩:=h
 obtain ⟨cs,k1,k2,k3⟩:=h3 hnb
 have hver:w'.cell? ⟨mb,0,none⟩=some (.int .i16 (ver:Int)):=by simpa using k2 0 (.int .i16 (ver:Int)) (by simp)
 unfold Msg.out at hb ⊢
 cases hk:m.kept with
 | false =>
  have hwfs:m.wfs=m.fs:=by simp[Msg.wfs,hk]
  have hwi:m.wi=1:=by simp[Msg.wi,hk]
  refine appendTo (sb:=⟨sb,T⟩) (cs:=cs) (B:=0) HW HI ha hna hokw hver ?_ ?_ hb
  ·rw[hwi]
   exact k2.dp (n:=1)
  ·rw[hwfs]
   simpa [Msg.wdat,hk] using k3
 | true =>
  have hwfs:m.wfs=.cons .all (.scal .i16 0) m.fs:=by simp[Msg.wfs,hk]
  have hwi:m.wi=0:=by simp[Msg.wi,hk]
  refine appendTo (sb:=⟨sb,T⟩) (cs:=.int .i16 (ver:Int)::cs) (B:=0) HW HI ha hna hokw hver ?_ ?_ hb
  ·rw[hwi]
   exact k2
  ·rw[hwfs]
   simp only[Msg.wdat,hk,if_true,Flds.Rep,Ty.size,List.take_succ_cons,List.take_zero,List.drop_succ_cons,List.drop_zero]
   exact ⟨⟨rfl,by show (-32768:Int)<=_/\_;omega⟩,k3,trivial⟩
theorem c_again_ok (HW:EnvW P E T) (HI:EnvI P E) (HB:xd P E.tB E.tU8 1=true) (i16:qs P E.tI16=some .i16) (ii:qs P E.tI=some .i64) (o16:qQ P E.tI16=true) (oE:ju P E.tErr=true) {m:Msg} {N:MR} {np nt nps nts npa nta:Nat}
  (ht:Text P N.again np nt #[.tmp 4,.tmp 5] (c_again E m N)) (hn:19<=nt) (hN:NewC P N.newPtr m) (hs:Text P N.setV nps nts #[] (c_setV E m)) (hns:8<=nts) (ho:ql P m.TU 0=some 0) (hR:ReadC P E T m N.rd)
  (ha:Text P N.app npa nta #[.tmp 4] (m.wcode E)) (hna:m.wtop<=nta) (hokw:m.okW P E=true) (hk:m.kept=false)
  {ver:Nat} {l:List UInt8} {sv ev:Value} {W:World} (hv:ver<32768) (hsrc:∀ w',Below W.heap.size W w'->Src P 1 E.tB sv l.length (l.map bv) w') (hl:l.length<=big) (he:W.cell? ⟨E.vErr,0,none⟩=some ev) (hev:∃ u z,ev=.iface u z)
  (hb:∀ x,m.back ver l=some x->x.length<=big):qa P N.again #[.int .i64 ver,sv] W fun r w'=>BackV E (m.back ver l) W w' r:=by
 refine qa.enter ht (by simp;omega) ?_
 intro a hsz hdf harg
 have e0:=harg 0 (.int .i64 ver) (by simp)
 have e1:=harg 1 sv (by simp)
 have hevlt:E.vErr<W.heap.size:=qj he
 unfold c_again
 refine vX (rA (rA (dn (vX ?_))))
 refine q8 (args:=#[]) (by simp) (hN W) ?_
 rintro v w1 ⟨rfl,hb1,hz1,hc1,hf1⟩
 refine rA (dn (vX (rM (rM ?_))))
 refine qM (k:=.i64) (k':=.i16) (m:=(ver:Int)) ii i16 (by simp (disch:=(try simp only[sP]);omega) only[eV,e0]) ?_
 rw[wrap_i16n hv]
 refine q8 (args:=#[.pointer (some ⟨W.heap.size,0,none⟩),.int .i16 ver]) ?_ (c_setV_ok hs hns ho o16 (hf1 0 (by omega))) ?_
 ·simp only[lM]
  simp (disch:=(try simp only[sP]);omega) only[eV]
 rintro v w2 rfl
 refine dn ?_
 have hb2:Below W.heap.size W (w1.setCell ⟨W.heap.size,0,none⟩ (.int .i16 ver)):=hb1.setCell (p:=⟨W.heap.size,0,none⟩) (Nat.le_refl _) _
 have hc2:qb (w1.setCell ⟨W.heap.size,0,none⟩ (.int .i16 ver)) W.heap.size 0 (.int .i16 (ver:Int)::m.fs.dz):=by
  intro i v hv
  cases i with
  | zero =>
   simp only[List.getElem?_cons_zero,Option.some.injEq] at hv
   subst hv
   exact qo _ (hf1 0 (by omega)).1
  | succ i =>
   rw[xE _ (.inr (by omega))]
   exact hc1 (i+1) v (by simpa using hv)
 have hf2:∀ i,i<m.fs.size+1->qq (w1.setCell ⟨W.heap.size,0,none⟩ (.int .i16 ver)) W.heap.size i:=fun i hi=>(hf1 i hi).eff ((Eff.refl (fun k _=>k=W.heap.size) w1).setCell _ _ _ (fun _=>rfl))
 have hz2:W.heap.size<(w1.setCell ⟨W.heap.size,0,none⟩ (.int .i16 ver)).heap.size:=by simpa using hz1
 generalize w1.setCell ⟨W.heap.size,0,none⟩ (.int .i16 ver)=w2 at *
 generalize ha1:Act.put _ (some 11) _=a1
 have hf3:Fr (fun k=>k=0\/k=1) a a1:=by
  subst ha1
  exact ((((((((Fr.refl _ a).put _ (by omega)).put _ (by omega)).put _ (by omega)).put _ (by omega)).put _ (by omega)).put _ (by omega)).put _ (by omega)).put _ (by omega)
 have h6:a1.eval (.tmp 6)=.pointer (some ⟨W.heap.size,0,none⟩):=by subst ha1;simp (disch:=(try simp only[sP]);omega) only[eV]
 have h11:a1.eval (.tmp 1)=sv:=by rw[hf3.slot 1 (.inr rfl)];exact e1
 have hsz1:=hf3.size
 have hdf1:=hf3.defers
 clear ha1
 refine vS (vX (rM (rM ?_)))
 refine xe (U:=w2.heap.size) (v:=.slice none 0 0) (n:=0) (xs:=[]) (u:=sv) (m:=l.length) (news:=l.map bv) HB rfl (by simp (disch:=(try simp only[sP]);omega) only[eV,h11]) (World.ownsRow_nil _ _ _ _) (Nat.le_refl _) (hsrc _ hb2) (by omega) ?_
 intro v3 w3 hown3 hb3
 rw[Nat.zero_add,List.nil_append] at hown3
 have hb03:Below W.heap.size W w3:=hb2.trans (hb3.mono (Nat.le_of_lt hz2))
 have hev3:w3.cell? ⟨E.vErr,0,none⟩=some ev:=by rw[hb03.cell (p:=⟨E.vErr,0,none⟩) hevlt];exact he
 have hz3:=hb3.size
 obtain ⟨sb,hsv,hsb,hsbc⟩:=own_src (d:=E.vErr) hown3 (by omega) (by omega)
 have hc3:qb w3 W.heap.size 0 (.int .i16 (ver:Int)::m.fs.dz):=hc2.below hb3 hz2
 have hf3':∀ i,i<m.fs.size+1->qq w3 W.heap.size i:=fun i hi=>(hf2 i hi).eff (Eff.of_below (M:=fun _ _=>False) hb3)
 have hrst:m.rst l=(l,false):=by simp[Msg.rst,hk]
 refine q8 (args:=#[.pointer (some ⟨W.heap.size,0,none⟩),v3]) ?_ (hR ver ver W.heap.size sb ev v3 l w3 (by simp[Msg.rver,hk]) hc3 hf3' hsv hsb hl hev3 hev (by omega) (by omega)) ?_
 ·simp only[lM]
  simp (disch:=(try simp only[sP]);omega) only[eV,h6]
 intro x w4 hx
 have hbw4:Below W.heap.size W w4:=hb03.trans (hx.2.1.below (by omega) (by rintro k i hk rfl;omega))
 have hz4:=hx.2.1.size
 have hxv:=hx.1
 refine ky (v:=x) oE (by simp (disch:=(try simp only[sP]);omega) only[eV]) (by rw[hxv];split;exact .inr hev;exact .inl rfl) ?_
 refine dn ?_
 have hcv:isErr x=(m.rdv ver (m.rst l)).2.2.2:=by
  rw[hxv]
  obtain ⟨u,z,rfl⟩:=hev
  cases (m.rdv ver (m.rst l)).2.2.2<;>rfl
 rw[hcv]
 refine vS (vC (t:=(m.rdv ver (m.rst l)).2.2.2) (by simp (disch:=(try simp only[sP]);omega) only[eV]) ?_ ?_)
 ·intro h
  refine vX (rA (rA (dn (vS (vT ?_)))))
  refine ⟨by simp only[dF];rw[hdf1];exact hdf,.tuple #[.slice none 0 0,.bool false],qJ (by simp (disch:=(try simp only[sP]);omega) only[eV]) (by simp (disch:=(try simp only[sP]);omega) only[eV]),hbw4,?_⟩
  simp only[Msg.back,h,if_true]
 ·intro h
  refine vK (vN ?_)
  have hbk:m.back ver l=some (m.out ver (m.rdv ver (m.rst l)).1 (m.rdv ver (m.rst l)).2.1):=by simp[Msg.back,h]
  refine vX (rM ?_)
  refine q8 (args:=#[.pointer (some ⟨W.heap.size,0,none⟩),.slice none 0 0]) ?_ (rf_out HW HI ha hna hokw hv hx h (hb _ hbk)) ?_
  ·simp only[lM]
   simp (disch:=(try simp only[sP]);omega) only[eV,h6]
  rintro y w5 ⟨hy,hb5⟩
  refine rA (rA (dn (vS (vT ?_))))
  refine ⟨by simp only[dF];rw[hdf1];exact hdf,.tuple #[y,.bool true],qJ (by simp (disch:=(try simp only[sP]);omega) only[eV]) (by simp (disch:=(try simp only[sP]);omega) only[eV]),hbw4.trans (hb5.mono (by omega)),?_⟩
  rw[hbk]
  exact ⟨y,rfl,kb hy (by omega)⟩
end
end Go.Km
namespace Go.Km
open Go Go.RowKit
theorem o8_toNat (n:Int):(UInt8.ofNat (n % 256).toNat).toNat=(n % 256).toNat:=by
 have h1:0<=n % 256:=Int.emod_nonneg _ (by decide)
 have h2:n % 256<256:=Int.emod_lt_of_pos _ (by decide)
 simp only[UInt8.toNat_ofNat']
 omega
theorem emod_mul' (n m:Int) (hm:0<m):n % (m*256)=n % m+m*(n / m % 256):=by
 have h1:=Int.mul_ediv_add_emod n m
 have h2:=Int.mul_ediv_add_emod (n / m) 256
 have h3:0<=n % m:=Int.emod_nonneg _ (by omega)
 have h4:n % m<m:=Int.emod_lt_of_pos _ hm
 have h5:0<=n / m % 256:=Int.emod_nonneg _ (by decide)
 have h6:n / m % 256<256:=Int.emod_lt_of_pos _ (by decide)
 generalize n % m=s at *
 generalize n / m % 256=r at *
 generalize n / m / 256=q at *
 generalize n / m=p at *
 subst h2
 have e:n=(s+m*r)+(m*256)*q:=by
  rw[← h1,Int.mul_add,Int.mul_assoc]
  omega
 rw[e,Int.add_mul_emod_self_left]
 have h7:0<=m*r:=Int.mul_nonneg (by omega) h5
 have h8:m*r<=m*255:=Int.mul_le_mul_of_nonneg_left (by omega) (by omega)
 exact Int.emod_eq_of_lt (by omega) (by omega)
theorem be_foldl:∀ (k:Nat) (n:Int) (acc:Nat),(be k n).foldl (fun n b=>n*256+b.toNat) acc=acc*256 ^ k+(n % (256 ^ k:Nat)).toNat
 | 0,n,acc=>by
  simp[be]
 | k+1,n,acc=>by
  simp only[be,List.foldl_cons]
  rw[be_foldl k n,o8_toNat]
  have hp:(0:Int)<((256 ^ k:Nat):Int):=by exact_mod_cast Nat.pow_pos (by decide)
  have e1:(256:Int) ^ k=((256 ^ k:Nat):Int):=by simp
  have e2:((256 ^ (k+1):Nat):Int)=((256 ^ k:Nat):Int)*256:=by rw[Nat.pow_succ];simp
  rw[e1,e2,Int.fdiv_eq_ediv_of_nonneg _ (Int.le_of_lt hp),emod_mul' _ _ hp]
  have h1:0<=n % ((256 ^ k:Nat):Int):=Int.emod_nonneg _ (by omega)
  have h2:0<=n / ((256 ^ k:Nat):Int) % 256:=Int.emod_nonneg _ (by decide)
  generalize n % ((256 ^ k:Nat):Int)=x at *
  generalize n / ((256 ^ k:Nat):Int) % 256=y at *
  obtain ⟨x,rfl⟩:∃ m:Nat,x=m:=⟨x.toNat,by omega⟩
  obtain ⟨y,rfl⟩:∃ m:Nat,y=m:=⟨y.toNat,by omega⟩
  have e3:(x:Int)+((256 ^ k:Nat):Int)*(y:Int)=((x+256 ^ k*y:Nat):Int):=by simp
  rw[e3]
  simp only[Int.toNat_natCast]
  rw[Nat.add_mul,Nat.pow_succ,Nat.mul_comm (256 ^ k) y,Nat.mul_comm (256 ^ k) 256,Nat.mul_assoc]
  omega
theorem jB (k:Nat) (n:Int) (r:List UInt8):rdN k (be k n++r,false)=((n % (256 ^ k:Nat)).toNat,r,false):=by
 have hl:(be k n).length=k:=qG k n
 unfold rdN
 rw[if_neg (by show ¬ (be k n++r).length<k;rw[List.length_append,hl];omega)]
 have h1:(be k n++r).take k=be k n:=by
  have:=List.take_left (l₁:=be k n) (l₂:=r)
  rwa [hl] at this
 have h2:(be k n++r).drop k=r:=by
  have:=List.drop_left (l₁:=be k n) (l₂:=r)
  rwa [hl] at this
 show (beN ((be k n++r).take k),(be k n++r).drop k,false)=_
 rw[h1,h2]
 unfold beN
 rw[be_foldl k n 0]
 simp
theorem jd {k:Nat} {n:Int} (hk:0<k) (h1:-(2 ^ (8*k-1):Nat)<=n) (h2:n<(2 ^ (8*k-1):Nat)):sgn k (n % (256 ^ k:Nat)).toNat=n:=by
 have e:(256:Nat) ^ k=2 ^ (8*k-1)+2 ^ (8*k-1):=by
  rw[show 256=2 ^ 8 from rfl,← Nat.pow_mul,← Nat.mul_two,← Nat.pow_succ]
  congr 1
  omega
 have e2:(2:Int) ^ (8*k)=((256 ^ k:Nat):Int):=by
  rw[show 256=2 ^ 8 from rfl,← Nat.pow_mul]
  simp
 unfold sgn
 rw[e2,e]
 have hp:0<2 ^ (8*k-1):=Nat.pow_pos (by decide)
 generalize 2 ^ (8*k-1)=m at *
 rcases Int.lt_or_le n 0 with hn | hn
 ·have:n % ((m+m:Nat):Int)=n+((m+m:Nat):Int):=by
   rw[← Int.add_emod_right,Int.emod_eq_of_lt (by omega) (by omega)]
  rw[this,if_neg (by omega)]
  omega
 ·rw[Int.emod_eq_of_lt hn (by omega),if_pos (by omega)]
  omega
theorem Scal.rd_wr {k:Scal} {n:Int} (h:k.ok n) (r:List UInt8):k.rd (k.wr n++r,false)=(n,r,false):=by
 cases k with
 | bool =>
  have:n=0\/n=1:=h
  rcases this with rfl | rfl
  ·rfl
  ·rfl
 | i8 =>
  have h:-128<=n/\n<=127:=h
  simp only[Scal.rd,Scal.wr,jB]
  rw[jd (k:=1) (by decide) (by simp;omega) (by simp;omega)]
 | i16 =>
  have h:-32768<=n/\n<=32767:=h
  simp only[Scal.rd,Scal.wr,jB]
  rw[jd (k:=2) (by decide) (by simp;omega) (by simp;omega)]
 | u16 =>
  have h:0<=n/\n<=65535:=h
  simp only[Scal.rd,Scal.wr,jB]
  rw[Int.emod_eq_of_lt (by omega) (by simp;omega),Int.toNat_of_nonneg (by omega)]
 | i32 =>
  have h:-2147483648<=n/\n<=2147483647:=h
  simp only[Scal.rd,Scal.wr,jB]
  rw[jd (k:=4) (by decide) (by simp;omega) (by simp;omega)]
 | i64 =>
  have h:-9223372036854775808<=n/\n<=9223372036854775807:=h
  simp only[Scal.rd,Scal.wr,jB]
  rw[jd (k:=8) (by decide) (by simp;omega) (by simp;omega)]
 | f64 =>
  have h:0<=n/\n<18446744073709551616:=h
  simp only[Scal.rd,Scal.wr,jB]
  rw[Int.toNat_of_nonneg h.1,Int.emod_eq_of_lt (by omega) (by simp;omega),Int.toNat_of_nonneg h.1]
theorem uvF_one {f n:Nat} (h:n<128):uvF (f+1) n=[UInt8.ofNat n]:=by simp[uvF,h]
theorem wK {f n:Nat} (h:128<=n):uvF (f+1) n=UInt8.ofNat (n % 128+128)::uvF f (n / 128):=by
 have:¬ n<128:=by omega
 simp[uvF,this]
theorem u8n {n:Nat} (h:n<256):(UInt8.ofNat n).toNat=n:=by
 simp only[UInt8.toNat_ofNat']
 omega
theorem uvDec_uvF:∀ (j f n acc:Nat) (r:List UInt8),j<=4->j<=f->n*2 ^ (7*(4-j))<4294967296->xU (4-j) acc (uvF (f+1) n++r)=some (acc+n*2 ^ (7*(4-j)),4-j+(uvF (f+1) n).length)
 | 0,f,n,acc,r,_,_,h=>by
  simp only[Nat.sub_zero] at h ⊢
  have e:(2:Nat) ^ (7*4)=268435456:=by decide
  have e2:(2:Nat) ^ 28=268435456:=by decide
  rw[e] at h
  have hn:n<128:=by omega
  rw[uvF_one hn]
  simp only[List.cons_append,List.nil_append,xU,if_true,u8n (show n<256 by omega),e,e2]
  rw[if_pos (by omega)]
  rfl
 | j+1,f,n,acc,r,hj,hf,h=>by
  have hi:¬ (4-(j+1)=4):=by omega
  rcases Nat.lt_or_ge n 128 with hn | hn
  ·rw[uvF_one hn]
   simp only[List.cons_append,List.nil_append,xU,if_neg hi,u8n (show n<256 by omega),if_pos hn]
   rfl
  ·obtain ⟨f',rfl⟩:∃ f',f=f'+1:=⟨f-1,by omega⟩
   rw[wK hn]
   simp only[List.cons_append,xU,if_neg hi,u8n (show n % 128+128<256 by omega)]
   rw[if_neg (by omega)]
   have e1:4-(j+1)+1=4-j:=by omega
   have e3:(n % 128+128) % 128=n % 128:=by omega
   have e4:(2:Nat) ^ (7*(4-j))=2 ^ (7*(4-(j+1)))*128:=by
    rw[show 7*(4-j)=7*(4-(j+1))+7 by omega,Nat.pow_add]
   have hd:n % 128+n / 128*128=n:=by omega
   have key:n % 128*2 ^ (7*(4-(j+1)))+n / 128*2 ^ (7*(4-j))=n*2 ^ (7*(4-(j+1))):=by
    rw[e4,Nat.mul_comm (2 ^ (7*(4-(j+1)))) 128,← Nat.mul_assoc,← Nat.add_mul,hd]
   rw[e1,e3,uvDec_uvF j f' (n / 128) _ r (by omega) (by omega) (by omega)]
   simp only[Option.some.injEq,Prod.mk.injEq,List.length_cons]
   constructor
   ·omega
   ·omega
theorem zJ {n:Nat} (h:n<4294967296) (r:List UInt8):qp (Go.Km.uvar n++r,false)=(n,r,false):=by
 have:=uvDec_uvF 4 8 n 0 r (by decide) (by decide) (by simpa using h)
 simp only[Nat.sub_self,Nat.mul_zero,Nat.pow_zero,Nat.mul_one,Nat.zero_add] at this
 unfold qp
 show (match xU 0 0 (uvF 9 n++r) with | none=>_ | some (v,k)=>_)=_
 rw[this]
 show (n,List.drop (uvF 9 n).length (uvF 9 n++r),false)=_
 rw[List.drop_left]
theorem uvF_le:∀ (f n k:Nat),n<2 ^ (7*(k+1))->(uvF f n).length<=k+1
 | 0,n,k,h=>by simp[uvF]
 | f+1,n,k,h=>by
  rcases Nat.lt_or_ge n 128 with hn | hn
  ·rw[uvF_one hn];simp
  ·rw[wK hn]
   cases k with
   | zero=>simp at h;omega
   | succ k =>
    have e:(2:Nat) ^ (7*(k+1+1))=2 ^ (7*(k+1))*128:=by rw[show 7*(k+1+1)=7*(k+1)+7 by omega,Nat.pow_add]
    have:=uvF_le f (n / 128) k (by rw[Nat.div_lt_iff_lt_mul (by decide)];omega)
    simp only[List.length_cons]
    omega
theorem wd:∀ (l:List UInt8) (i acc v n:Nat),acc<2 ^ (7*i)->i<=4->xU i acc l=some (v,n)->v<2 ^ (7*n)/\n<=i+l.length/\i<n
 | [],i,acc,v,n,_,_,h=>by cases h
 | b::r,i,acc,v,n,ha,hi,h=>by
  have hp:2 ^ (7*(i+1))=2 ^ (7*i)*128:=by rw[show 7*(i+1)=7*i+7 by omega,Nat.pow_add]
  have hmul:∀ x:Nat,x<128->acc+x*2 ^ (7*i)<2 ^ (7*(i+1)):=fun x hx=>by
   have:x*2 ^ (7*i)<=127*2 ^ (7*i):=Nat.mul_le_mul_right _ (by omega)
   rw[hp]
   omega
  unfold xU at h
  split at h
  ·rename_i h4
   subst h4
   split at h
   ·rename_i hb
    simp only[Option.some.injEq,Prod.mk.injEq] at h
    obtain ⟨rfl,rfl⟩:=h
    simp only[List.length_cons]
    have:=hmul b.toNat (by omega)
    exact ⟨by simpa using this,by omega,by omega⟩
   ·cases h
  ·split at h
   ·rename_i h1
    simp only[Option.some.injEq,Prod.mk.injEq] at h
    obtain ⟨rfl,rfl⟩:=h
    have:=hmul b.toNat h1
    simp only[List.length_cons]
    exact ⟨this,by omega,by omega⟩
   ·have:=wd r (i+1) _ v n (hmul (b.toNat % 128) (Nat.mod_lt _ (by decide))) (by omega) h
    simp only[List.length_cons]
    exact ⟨this.1,by omega,by omega⟩
theorem js {st:RSt} (h:(qp st).2.2=false):(Go.Km.uvar (qp st).1).length+(qp st).2.1.length<=st.1.length:=by
 unfold qp at h ⊢
 cases hu:xU 0 0 st.1 with
 | none=>simp[hu] at h
 | some x =>
  obtain ⟨v,n⟩:=x
  obtain ⟨h1,h2,h3⟩:=wd st.1 0 0 v n (by decide) (by decide) hu
  obtain ⟨k,rfl⟩:∃ k,n=k+1:=⟨n-1,by omega⟩
  have:=uvF_le 9 v k h1
  simp only[List.length_drop]
  show (uvF 9 v).length+_<=_
  omega
def Ext {α:Type} (g:RSt->α × RSt):Prop:=∀ l m:List UInt8,(g (l,false)).2.2=false->g (l++m,false)=((g (l,false)).1,(g (l,false)).2.1++m,false)
theorem Ext.bind {α β:Type} {g:RSt->α × RSt} {f:α->RSt->β × RSt} (hg:Ext g) (hf:∀ x,Ext (f x)) (hm:∀ x st,(f x st).2.2=false->st.2=false):Ext fun st=>f (g st).1 (g st).2:=by
 intro l m h
 have h:(f (g (l,false)).1 (g (l,false)).2).2.2=false:=h
 have h1:=hm _ _ h
 have e:=hg l m h1
 show f (g (l++m,false)).1 (g (l++m,false)).2=((f (g (l,false)).1 (g (l,false)).2).1,(f (g (l,false)).1 (g (l,false)).2).2.1++m,false)
 rw[e]
 have e2:(g (l,false)).2=((g (l,false)).2.1,false):=Prod.ext rfl h1
 rw[e2] at h ⊢
 exact hf _ _ _ h
theorem Ext.map {α β:Type} {g:RSt->α × RSt} (hg:Ext g) (f:α->β):Ext fun st=>(f (g st).1,(g st).2):=by
 intro l m h
 show (f (g (l++m,false)).1,(g (l++m,false)).2)=_
 rw[hg l m h]
theorem Ext.pure {α:Type} (x:α):Ext fun st=>(x,st):=fun l m h=>rfl
end Go.Km
namespace Go.Km
open Go Go.RowKit
def wR (fx:Bool) (l:List UInt8):Prop:=if fx then l.length+1<4294967296 else l.length<=32767
def yX (fx:Bool) (l:List UInt8):Prop:=if fx then l.length+1<4294967296 else l.length<2147483648
def kY (tags:List (Nat × List UInt8)):Prop:=TagsOk tags/\tags.length<4294967296/\∀ x ∈ tags,x.2.length<4294967296
def Ver.okD (v:Ver) (fx:Bool) (dd g:Prop) (isD:Bool) (tags:List (Nat × List UInt8)):Prop :=
 match v with
 | .tag k _=>(if fx then g/\(isD=true->dd) else dd)/\∀ x ∈ tags,x.1≠k
 | _=>dd
theorem Ver.okD_no {v:Ver} (h:v.isTag=false) {fx:Bool} {dd g:Prop} {isD:Bool} {tags:List (Nat × List UInt8)}:v.okD fx dd g isD tags ↔ dd:=by cases v<;>first | exact Iff.rfl | cases h
theorem Ver.has_noTag {v:Ver} {ver:Nat} (h:v.has ver=true):v.isTag=false:=by cases v<;>first | rfl | cases h
mutual
def Ty.good (fx:Bool) (ver:Nat):Ty->D->Prop
 | .scal s _,.int n | .named s _ _,.int n=>s.ok n
 | .uuid,.bytes (some l)=>l.length=16
 | .text,.bytes (some l)=>wR fx l
 | .ntext,.bytes none=>True
 | .ntext,.bytes (some l)=>wR fx l
 | .ntextFrom N,.bytes none=>N<=ver
 | .ntextFrom _,.bytes (some l)=>wR fx l
 | .bytes,.bytes (some l)=>yX fx l
 | .nbytes,.bytes none=>True
 | .nbytes,.bytes (some l)=>yX fx l
 | .list _ null _,.list none=>null=none\/∃ N,null=some N/\N<=ver
 | .list _ null e,.list (some l)=>(null=none->l≠[])/\l.length<2147483648/\∀ d ∈ l,e.good fx ver d
 | .struct _ _ _ fs,.obj l tags=>fs.good fx ver l tags
 | .nstruct _ _ _ _ _,.list none=>True
 | .nstruct _ _ _ fs _,.list (some [.obj l tags])=>fs.good fx ver l tags
 | _,_=>False
def Flds.good (fx:Bool) (ver:Nat):Flds->List D->List (Nat × List UInt8)->Prop
 | .nil _,[],tags=>if fx then kY tags else tags=[]
 | .cons v t r,d::l,tags=>(if v.has ver then t.good fx ver d else v.okD fx (d=t.dflt) (t.good fx ver d) (t.isD d) tags)/\r.good fx ver l (v.addTag fx (t.isD d) (t.wr fx ver d) tags)
 | _,_,_=>False
end
mutual
def Ty.pos (fx:Bool) (ver:Nat):Ty->Bool
 | .struct _ _ _ fs=>fs.pos fx ver
 | _=>true
def Flds.pos (fx:Bool) (ver:Nat):Flds->Bool
 | .nil _=>fx
 | .cons v t r=>(v.has ver&&t.pos fx ver)||r.pos fx ver
end
def Ty.dfG:Ty->Bool
 | .scal c df=>(c.rd (c.wr df,false)).1==df
 | .list _ none _=>true
 | _=>false
mutual
def Ty.lp (fx:Bool) (ver:Nat):Ty->Bool
 | .list _ _ e=>e.pos fx ver&&e.lp fx ver
 | .struct _ _ _ fs | .nstruct _ _ _ fs _=>fs.lp fx ver
 | _=>true
def Flds.lp (fx:Bool) (ver:Nat):Flds->Bool
 | .nil _=>true
 | .cons v t r=>((!v.has ver && !v.isTag)||t.lp fx ver)&&(!v.isTag||t.dfG)&&r.lp fx ver
end
theorem Scal.wr_pos (k:Scal) (n:Int):1<=(k.wr n).length:=by
 cases k<;>simp[Scal.wr,qG]
theorem jw (n:Nat):1<=(Go.Km.uvar n).length:=vr 9 n
theorem vo (fx:Bool) (l:List UInt8):1<=(xS fx l).length:=by
 unfold xS
 cases fx
 ·simp[qG];omega
 ·have:=jw (l.length+1)
  simp;omega
theorem wrBytes_pos (fx:Bool) (l:List UInt8):1<=(xb fx l).length:=by
 unfold xb
 cases fx
 ·simp[qG];omega
 ·have:=jw (l.length+1)
  simp;omega
theorem wrLen_pos (fx:Bool) (n:Nat):1<=(zk fx n).length:=by
 unfold zk
 cases fx
 ·simp[qG]
 ·exact jw _
theorem wrNull_pos (fx:Bool):1<=(jb fx).length:=by
 cases fx<;>simp[jb,qG]
mutual
theorem Ty.wr_pos (fx:Bool) (ver:Nat):∀ (t:Ty) (d:D),t.pos fx ver=true->t.good fx ver d->1<=(t.wr fx ver d).length
 | .scal s _,d,hp,h | .named s _ _,d,hp,h=>by
  cases d<;>simp only[Ty.good] at h
  simp only[Ty.wr]
  exact s.wr_pos _
 | .uuid,d,hp,h=>by
  cases d with
  | bytes o =>
   cases o<;>simp only[Ty.good] at h
   simp only[Ty.wr];omega
  | _=>simp only[Ty.good] at h
 | .text,d,hp,h=>by
  cases d with
  | bytes o =>
   cases o<;>simp only[Ty.good] at h
   simp only[Ty.wr];exact vo _ _
  | _=>simp only[Ty.good] at h
 | .ntext,d,hp,h=>by
  cases d with
  | bytes o =>
   simp only[Ty.wr]
   cases o with
   | none=>cases fx<;>simp[xL,qG]
   | some l=>exact vo _ _
  | _=>simp only[Ty.good] at h
 | .ntextFrom N,d,hp,h=>by
  cases d with
  | bytes o =>
   simp only[Ty.wr]
   split
   ·exact vo _ _
   ·cases o with
    | none=>cases fx<;>simp[xL,qG]
    | some l=>exact vo _ _
  | _=>simp only[Ty.good] at h
 | .bytes,d,hp,h=>by
  cases d with
  | bytes o=>simp only[Ty.wr];exact wrBytes_pos _ _
  | _=>simp only[Ty.good] at h
 | .nbytes,d,hp,h=>by
  cases d with
  | bytes o =>
   simp only[Ty.wr]
   cases o with
   | none=>cases fx<;>simp[xm,qG]
   | some l=>exact wrBytes_pos _ _
  | _=>simp only[Ty.good] at h
 | .list _ null e,d,hp,h=>by
  cases d with
  | list o =>
   cases o with
   | none =>
    simp only[Ty.wr]
    split
    ·exact wrNull_pos _
    ·exact wrLen_pos _ _
   | some l =>
    simp only[Ty.wr,List.length_append]
    have:=wrLen_pos fx l.length
    omega
  | _=>simp only[Ty.good] at h
 | .struct _ _ _ fs,d,hp,h=>by
  cases d with
  | obj l tags =>
   simp only[Ty.good] at h
   simp only[Ty.pos] at hp
   simp only[Ty.wr]
   exact Flds.wr_pos fx ver fs l tags hp h
  | _=>simp only[Ty.good] at h
 | .nstruct _ _ _ fs _,d,hp,h=>by
  cases d with
  | list o =>
   rcases o with _ | ⟨_ | ⟨d0,_ | ⟨d1,r⟩⟩⟩
   ·simp[Ty.wr]
   ·simp only[Ty.good] at h
   ·cases d0<;>simp only[Ty.good] at h
    simp[Ty.wr]
   ·cases d0<;>simp only[Ty.good] at h
  | _=>simp only[Ty.good] at h
theorem Flds.wr_pos (fx:Bool) (ver:Nat):∀ (fs:Flds) (l:List D) (tags:List (Nat × List UInt8)),fs.pos fx ver=true->fs.good fx ver l tags->1<=(fs.wr fx ver l tags).length
 | .nil _,l,tags,hp,h=>by
  simp only[Flds.pos] at hp
  subst hp
  simp only[Flds.wr,if_true,zX,List.length_append]
  have:=jw tags.length
  omega
 | .cons v t r,[],tags,hp,h=>by simp[Flds.good] at h
 | .cons v t r,d::l,tags,hp,h=>by
  simp only[Flds.good] at h
  simp only[Flds.pos,Bool.or_eq_true,Bool.and_eq_true] at hp
  simp only[Flds.wr,List.length_append]
  rcases hp with ⟨hv,hp⟩ | hp
  ·simp only[hv,if_true] at h ⊢
   have:=Ty.wr_pos fx ver t d hp h.1
   omega
  ·have:=Flds.wr_pos fx ver r l _ hp h.2
   omega
end
theorem jA (l r:List UInt8):qr (l.length:Int) (l++r,false)=(l,r,false):=by
 unfold qr
 rw[if_neg (by simp;omega)]
 simp
theorem rdL_wr {fx:Bool} {n:Nat} (h:if fx then n+1<4294967296 else n<=32767) (r:List UInt8):rdL fx ((if fx then Go.Km.uvar (n+1) else be 2 n)++r,false)=((n:Int),r,false):=by
 cases fx with
 | true =>
  simp only[if_true] at h ⊢
  simp only[rdL,if_true,zR,zJ h]
  congr 1
  omega
 | false =>
  simp only[Bool.false_eq_true,if_false] at h ⊢
  simp only[rdL,Bool.false_eq_true,if_false,wm,jB]
  rw[jd (k:=2) (by decide) (by simp) (by simp;omega)]
theorem rdLB_wr {fx:Bool} {n:Nat} (h:if fx then n+1<4294967296 else n<2147483648) (r:List UInt8):xX fx ((if fx then Go.Km.uvar (n+1) else be 4 n)++r,false)=((n:Int),r,false):=by
 cases fx with
 | true =>
  simp only[if_true] at h ⊢
  simp only[xX,if_true,zR,zJ h]
  congr 1
  omega
 | false =>
  simp only[Bool.false_eq_true,if_false] at h ⊢
  simp only[xX,Bool.false_eq_true,if_false,jD,jB]
  rw[jd (k:=4) (by decide) (by simp) (by simp;omega)]
theorem wrap_i32_ok {n:Nat} (h:n<2147483648):IntKind.i32.wrap (IntKind.i32.wrap ((n+1:Nat):Int)-1)=(n:Int):=by
 have h2:(2:Int) ^ 32=4294967296:=by decide
 have h3:(2:Int) ^ (32-1)=2147483648:=by decide
 simp only[IntKind.wrap,IntKind.bits,IntKind.signed,Bool.true_and,decide_eq_true_eq,h2,h3]
 split<;>split<;>omega
theorem rdCn_wr {fx:Bool} {n:Nat} (h:n<2147483648) {r:List UInt8} (hr:n<=r.length):xl fx (zk fx n++r,false)=((n:Int),r,false):=by
 cases fx with
 | true =>
  simp only[xl,zk,if_true,rdCc,zJ (show n+1<4294967296 by omega)]
  rw[wrap_i32_ok h]
  simp only[z8]
  rw[if_neg (by omega)]
 | false =>
  simp only[xl,zk,Bool.false_eq_true,if_false,rdC4,jD,jB]
  rw[jd (k:=4) (by decide) (by simp) (by simp;omega)]
  simp only[z8]
  rw[if_neg (by omega)]
theorem rdCn_null {fx : Bool} {r : List UInt8} : xl fx (jb fx ++ r, false) = (-1, r, false) := by
  cases fx with
  | true =>
    have e : ([0] : List UInt8) = Go.Km.uvar 0 := rfl
    simp only [xl, jb, if_true, rdCc, e, zJ (show 0 < 4294967296 by omega)]
    simp only [z8]
    rw [if_neg (by have : IntKind.i32.wrap (IntKind.i32.wrap ((0 : Nat) : Int) - 1) = -1 := by decide
                   rw [this]; omega)]
    rfl
  | false =>
    simp only [xl, jb, Bool.false_eq_true, if_false, rdC4, jD, jB]
    rw [jd (k := 4) (by decide) (by simp) (by simp)]
    simp only [z8]
    rw [if_neg (by omega)]
theorem wrStr_rd {fx:Bool} {l:List UInt8} (h:wR fx l) (r:List UInt8):zz (rdL fx (xS fx l++r,false))=(l,r,false):=by
 unfold xS
 rw[List.append_assoc,rdL_wr h]
 exact jA l r
theorem wrNStr_rd {fx:Bool} {l:List UInt8} (h:wR fx l) (r:List UInt8):qP (rdL fx (xS fx l++r,false))=(some l,r,false):=by
 unfold xS
 rw[List.append_assoc,rdL_wr h]
 unfold qP
 rw[if_neg (by simp)]
 simp only[jA]
theorem wrNStr_rd0 {fx:Bool} (r:List UInt8):qP (rdL fx (xL fx none++r,false))=(none,r,false):=by
 cases fx with
 | true =>
  have e:([0]:List UInt8)=Go.Km.uvar 0:=rfl
  simp only[rdL,xL,if_true,zR,e,zJ (show 0<4294967296 by omega)]
  rfl
 | false =>
  simp only[rdL,xL,Bool.false_eq_true,if_false,wm,jB]
  rw[jd (k:=2) (by decide) (by simp) (by simp)]
  rfl
theorem wrBytes_rd {fx:Bool} {l:List UInt8} (h:yX fx l) (r:List UInt8):xN (xX fx (xb fx l++r,false))=(some l,r,false):=by
 unfold xb
 rw[List.append_assoc,rdLB_wr h]
 unfold xN
 rw[if_neg (by simp)]
 simp only[jA]
theorem wrNBytes_rd {fx:Bool} {l:List UInt8} (h:yX fx l) (r:List UInt8):qP (xX fx (xb fx l++r,false))=(some l,r,false):=by
 unfold xb
 rw[List.append_assoc,rdLB_wr h]
 unfold qP
 rw[if_neg (by simp)]
 simp only[jA]
theorem wrNBytes_rd0 {fx:Bool} (r:List UInt8):qP (xX fx (xm fx none++r,false))=(none,r,false):=by
 cases fx with
 | true =>
  have e:([0]:List UInt8)=Go.Km.uvar 0:=rfl
  simp only[xX,xm,if_true,zR,e,zJ (show 0<4294967296 by omega)]
  rfl
 | false =>
  simp only[xX,xm,Bool.false_eq_true,if_false,jD,jB]
  rw[jd (k:=4) (by decide) (by simp) (by simp)]
  rfl
theorem yP:∀ (acc:List (Nat × List UInt8)) (k:Nat) (v:List UInt8),(∀ x ∈ acc,x.1<k)->qx k v acc=acc++[(k,v)]
 | [],k,v,h=>rfl
 | x::l,k,v,h=>by
  have h1:=h x (by simp)
  simp only[qx]
  rw[if_neg (by omega),if_neg (by omega),yP l k v (fun y hy=>h y (by simp[hy]))]
  rfl
theorem rdTag_wr {x:Nat × List UInt8} (h1:x.1<4294967296) (h2:x.2.length<4294967296) (r:List UInt8):xp (qR x++r,false)=(x,r,false):=by
 unfold qR xp
 simp only[List.append_assoc,zJ h1,zJ h2,jA]
theorem kl (k:Nat) (v:List UInt8):∀ l x,x ∈ qx k v l->x=(k,v)\/x ∈ l
 | [],x,h=>by simpa [qx] using h
 | y::l,x,h=>by
  simp only[qx] at h
  split at h
  ·simpa using h
  ·split at h
   ·rcases List.mem_cons.1 h with h | h
    ·exact .inl h
    ·exact .inr (by simp[h])
   ·rcases List.mem_cons.1 h with h | h
    ·exact .inr (by simp[h])
    ·rcases kl k v l x h with h | h
     ·exact .inl h
     ·exact .inr (by simp[h])
theorem rdTagsNK_wr {ck:Nat->List UInt8->Bool}:∀ (tags acc:List (Nat × List UInt8)) (r:List UInt8),(∀ x ∈ tags,ck x.1 x.2=true)->(∀ x ∈ tags,x.1<4294967296)->(∀ x ∈ tags,x.2.length<4294967296)->tags.Pairwise (fun x y=>x.1<y.1)->(∀ x ∈ acc,∀ y ∈ tags,x.1<y.1) →
  qD ck tags.length acc ((tags.map qR).flatten++r,false)=(acc++tags,r,false)
 | [],acc,r,_,_,_,_,_=>by simp[qD]
 | x::tags,acc,r,h0,h1,h2,h3,h4=>by
  simp only[List.length_cons,List.map_cons,List.flatten_cons,List.append_assoc]
  unfold qD
  rw[rdTag_wr (h1 x (by simp)) (h2 x (by simp))]
  simp only
  rw[yP acc x.1 x.2 (fun y hy=>h4 y hy x (by simp)),h0 x (by simp)]
  have h5:=List.pairwise_cons.1 h3
  simp only[Bool.not_true,Bool.or_self]
  rw[rdTagsNK_wr tags (acc++[(x.1,x.2)]) r (fun y hy=>h0 y (by simp[hy])) (fun y hy=>h1 y (by simp[hy])) (fun y hy=>h2 y (by simp[hy])) h5.2 ?_]
  ·simp
  ·intro y hy z hz
   rcases List.mem_append.1 hy with hy | hy
   ·exact h4 y hy z (by simp[hz])
   ·simp only[List.mem_cons,List.not_mem_nil,or_false] at hy
    subst hy
    exact h5.1 z hz
theorem rdTagsK_wr {ck:Nat->List UInt8->Bool} {tags:List (Nat × List UInt8)} (hc:∀ x ∈ tags,ck x.1 x.2=true) (h:kY tags) (r:List UInt8):zD ck (zX tags++r,false)=(tags,r,false):=by
 obtain ⟨⟨h1,h2⟩,h3,h4⟩:=h
 unfold zD zX
 simp only[List.append_assoc,zJ h3]
 have:=rdTagsNK_wr tags [] r hc h2 h4 h1 (fun x hx=>by simp at hx)
 simpa using this
theorem setTag_find {k:Nat} {p:List UInt8}:∀ {l:List (Nat × List UInt8)},(∀ x ∈ l,x.1≠k)->(qx k p l).find? (fun x=>x.1==k)=some (k,p)/\(qx k p l).filter (fun x=>x.1 != k)=l
 | [],_=>by simp[qx]
 | x::l,h=>by
  have hx:=h x (by simp)
  have hl:∀ y ∈ l,y.1≠k:=fun y hy=>h y (by simp[hy])
  have hfl:l.filter (fun x=>x.1 != k)=l:=List.filter_eq_self.2 (fun y hy=>by simpa using hl y hy)
  simp only[qx]
  split
  ·simp[hx,hfl]
  ·rw[if_neg (fun e=>hx e.symm)]
   have ih:=setTag_find (k:=k) (p:=p) hl
   simp[hx,ih.1,ih.2]
theorem noTag_find {k:Nat} {l:List (Nat × List UInt8)} (h:∀ x ∈ l,x.1≠k):l.find? (fun x=>x.1==k)=none/\l.filter (fun x=>x.1 != k)=l :=
 ⟨List.find?_eq_none.2 (fun y hy=>by simpa using h y hy),List.filter_eq_self.2 (fun y hy=>by simpa using h y hy)⟩
theorem rdMany_wr {f:RSt->D × RSt} {g:D->List UInt8}:∀ (l:List D) (r:List UInt8),(∀ d ∈ l,∀ r,f (g d++r,false)=(d,r,false))->qX f l.length ((l.map g).flatten++r,false)=(l,r,false)
 | [],r,_=>by simp[qX]
 | d::l,r,h=>by
  simp only[List.length_cons,List.map_cons,List.flatten_cons,List.append_assoc,qX]
  rw[h d (by simp)]
  simp only
  rw[rdMany_wr l r (fun d hd=>h d (by simp[hd]))]
theorem flat_len {g:D->List UInt8}:∀ (l:List D),(∀ d ∈ l,1<=(g d).length)->l.length<=(l.map g).flatten.length
 | [],_=>by simp
 | d::l,h=>by
  have h1:=h d (by simp)
  have h2:=flat_len l (fun d hd=>h d (by simp[hd]))
  simp only[List.length_cons,List.map_cons,List.flatten_cons,List.length_append]
  omega
mutual
theorem Ty.rd_wr (fx:Bool) (ver:Nat):∀ (t:Ty) (d:D) (r:List UInt8),t.lp fx ver=true->t.good fx ver d->t.rd fx ver (t.wr fx ver d++r,false)=(d,r,false)
 | .scal s _,d,r,hp,h | .named s _ _,d,r,hp,h=>by
  cases d<;>simp only[Ty.good] at h
  simp only[Ty.wr,Ty.rd,Scal.rd_wr h]
 | .uuid,d,r,hp,h=>by
  cases d with
  | bytes o =>
   cases o with
   | none=>simp only[Ty.good] at h
   | some l =>
    simp only[Ty.good] at h
    simp only[Ty.wr,Ty.rd]
    have:=jA l r
    rw[h] at this
    rw[show ((16:Nat):Int)=16 from rfl] at this
    rw[this]
  | _=>simp only[Ty.good] at h
 | .text,d,r,hp,h=>by
  cases d with
  | bytes o =>
   cases o with
   | none=>simp only[Ty.good] at h
   | some l =>
    simp only[Ty.good] at h
    simp only[Ty.wr,Ty.rd,wrStr_rd h]
  | _=>simp only[Ty.good] at h
 | .ntext,d,r,hp,h=>by
  cases d with
  | bytes o =>
   cases o with
   | none=>simp only[Ty.wr,Ty.rd,wrNStr_rd0]
   | some l =>
    simp only[Ty.good] at h
    simp only[Ty.wr,Ty.rd,xL,wrNStr_rd h]
  | _=>simp only[Ty.good] at h
 | .ntextFrom N,d,r,hp,h=>by
  cases d with
  | bytes o =>
   cases o with
   | none =>
    simp only[Ty.good] at h
    have hN:¬ ver<N:=by omega
    simp only[Ty.wr,Ty.rd,if_neg hN,wrNStr_rd0]
   | some l =>
    simp only[Ty.good] at h
    simp only[Ty.wr,Ty.rd]
    by_cases hN:ver<N
    ·simp only[if_pos hN,Option.getD_some,wrStr_rd h]
    ·simp only[if_neg hN,xL,wrNStr_rd h]
  | _=>simp only[Ty.good] at h
 | .bytes,d,r,hp,h=>by
  cases d with
  | bytes o =>
   cases o with
   | none=>simp only[Ty.good] at h
   | some l =>
    simp only[Ty.good] at h
    simp only[Ty.wr,Ty.rd,Option.getD_some,wrBytes_rd h]
  | _=>simp only[Ty.good] at h
 | .nbytes,d,r,hp,h=>by
  cases d with
  | bytes o =>
   cases o with
   | none=>simp only[Ty.wr,Ty.rd,wrNBytes_rd0]
   | some l =>
    simp only[Ty.good] at h
    simp only[Ty.wr,Ty.rd,xm,wrNBytes_rd h]
  | _=>simp only[Ty.good] at h
 | .list TS null e,d,r,hp,h=>by
  simp only[Ty.lp,Bool.and_eq_true] at hp
  cases d with
  | list o =>
   cases o with
   | none =>
    simp only[Ty.good] at h
    simp only[Ty.wr,Ty.rd]
    rcases h with rfl | ⟨N,rfl,hN⟩
    ·simp only[Option.isSome_none,Bool.false_eq_true,if_false]
     rw[rdCn_wr (by decide) (Nat.zero_le _)]
     simp[j4]
    ·simp only[Option.isSome_some,if_true,rdCn_null]
     have:¬ ver<N:=by omega
     simp[j4,this]
   | some l =>
    simp only[Ty.good] at h
    obtain ⟨h0,h1,h2⟩:=h
    have hfl:=flat_len (g:=fun d=>e.wr fx ver d) l (fun d hd=>Ty.wr_pos fx ver e d hp.1 (h2 d hd))
    simp only[Ty.wr,Ty.rd,List.append_assoc]
    rw[rdCn_wr h1 (by simp only[List.length_append];omega)]
    simp only[Bool.false_eq_true,if_false]
    cases l with
    | nil =>
     have hnl:null≠none:=fun hh=>h0 hh rfl
     obtain ⟨N,rfl⟩:=Option.ne_none_iff_exists'.1 hnl
     simp[j4]
    | cons d l =>
     rw[if_neg (by simp only[List.length_cons];omega),Int.toNat_natCast]
     rw[rdMany_wr (f:=fun s=>e.rd fx ver s) (g:=fun d=>e.wr fx ver d) (d::l) r (fun d hd r=>Ty.rd_wr fx ver e d r hp.2 (h2 d hd))]
  | _=>simp only[Ty.good] at h
 | .struct _ _ _ fs,d,r,hp,h=>by
  cases d with
  | obj l tags =>
   simp only[Ty.good] at h
   simp only[Ty.lp] at hp
   simp only[Ty.wr,Ty.rd,Flds.rd_wr fx ver fs l tags r noK hp h (fun _ _ _=>rfl)]
  | _=>simp only[Ty.good] at h
 | .nstruct _ _ _ fs _,d,r,hp,h=>by
  have e1:∀ (r:List UInt8),Scal.i8.rd (255::r,false)=(-1,(r,false)):=fun r=>by
   have:=Scal.rd_wr (k:=.i8) (n:=-1) (by simp[Scal.ok]) r
   rwa [show Scal.i8.wr (-1)=[255] by decide] at this
  have e2:∀ (r:List UInt8),Scal.i8.rd (1::r,false)=(1,(r,false)):=fun r=>by
   have:=Scal.rd_wr (k:=.i8) (n:=1) (by simp[Scal.ok]) r
   rwa [show Scal.i8.wr 1=[1] by decide] at this
  cases d with
  | list o =>
   rcases o with _ | ⟨_ | ⟨d0,_ | ⟨d1,r⟩⟩⟩
   ·simp only[Ty.wr,Ty.rd,List.cons_append,List.nil_append,e1,true_or,if_true]
   ·simp only[Ty.good] at h
   ·cases d0<;>simp only[Ty.good] at h
    simp only[Ty.lp] at hp
    simp only[Ty.wr,Ty.rd,List.cons_append,e2,Bool.false_eq_true,or_false]
    rw[if_neg (by decide),Flds.rd_wr fx ver fs _ _ r noK hp h (fun _ _ _=>rfl)]
   ·cases d0<;>simp only[Ty.good] at h
  | _=>simp only[Ty.good] at h
theorem Flds.rd_wr (fx:Bool) (ver:Nat):∀ (fs:Flds) (l:List D) (tags:List (Nat × List UInt8)) (r:List UInt8) (ck:Nat->List UInt8->Bool),fs.lp fx ver=true->fs.good fx ver l tags->(fx=true->∀ x ∈ tags,ck x.1 x.2=true)->fs.rd fx ver ck (fs.wr fx ver l tags++r,false)=(l,tags,r,false)
 | .nil _,[],tags,r,ck,hp,h,hck=>by
  simp only[Flds.good] at h
  cases fx with
  | true =>
   simp only[if_true] at h
   simp only[Flds.wr,Flds.rd,if_true,rdTagsK_wr (hck rfl) h]
  | false =>
   simp only[Bool.false_eq_true,if_false] at h
   subst h
   simp[Flds.wr,Flds.rd]
 | .nil _,_::_,tags,r,ck,hp,h,hck=>by simp[Flds.good] at h
 | .cons v t r',[],tags,r,ck,hp,h,hck=>by simp[Flds.good] at h
 | .cons v t r',d::l,tags,r,ck,hp,h,hck=>by
  simp only[Flds.good] at h
  simp only[Flds.lp,Bool.and_eq_true,Bool.or_eq_true,Bool.not_eq_true'] at hp
  obtain ⟨h1,h2⟩:=h
  simp only[Flds.wr,Flds.rd,List.append_assoc]
  cases hv:v.has ver with
  | true =>
   have hnt:=Ver.has_noTag hv
   simp only[hv,if_true,Ver.addTag_no hnt] at h1 h2 ⊢
   have hpt:t.lp fx ver=true:=by
    rcases hp.1.1 with h | h
    ·rw[hv] at h;cases h.1
    ·exact h
   rw[Ty.rd_wr fx ver t d _ hpt h1]
   simp only
   rw[Flds.rd_wr fx ver r' l tags r ck hp.2 h2 hck]
  | false =>
   simp only[hv,Bool.false_eq_true,if_false,List.nil_append] at h1 ⊢
   cases htg:v.isTag with
   | false =>
    rw[Ver.okD_no htg] at h1
    subst h1
    rw[Ver.addTag_no htg] at h2 ⊢
    simp only[Ver.ckT_no htg,Ver.getT_no htg,Ver.dropT_no htg]
    rw[Flds.rd_wr fx ver r' l tags r ck hp.2 h2 hck]
   | true =>
    cases v with
    | tag k lb =>
     simp only[Ver.okD] at h1
     obtain ⟨h1,hk⟩:=h1
     simp only[Ver.addTag] at h2 ⊢
     have hpt:t.lp fx ver=true:=by
      rcases hp.1.1 with h | h
      ·cases h.2
      ·exact h
     cases fx with
     | false =>
      simp only[Bool.false_eq_true,if_false] at h1
      simp only[Bool.false_and,Bool.false_eq_true,if_false] at h2 ⊢
      rw[Flds.rd_wr false ver r' l tags r _ hp.2 h2 (fun h=>by cases h)]
      simp only[Ver.getT,Ver.dropT,noTag_find hk,h1]
     | true =>
      simp only[if_true] at h1
      cases hD:t.isD d with
      | true =>
       simp only[hD,Bool.not_true,Bool.and_false,Bool.false_eq_true,if_false] at h2 ⊢
       rw[Flds.rd_wr true ver r' l tags r _ hp.2 h2 (fun _ x hx=>by simp only[Ver.ckT,if_neg (hk x hx)];exact hck rfl x hx)]
       simp only[Ver.getT,Ver.dropT,noTag_find hk,h1.2 hD]
      | false =>
       simp only[hD,Bool.not_false,Bool.and_true,if_true] at h2 ⊢
       have e0:=Ty.rd_wr true ver t d [] hpt h1.1
       rw[List.append_nil] at e0
       rw[Flds.rd_wr true ver r' l _ r _ hp.2 h2 (fun _ x hx=>by
        rcases kl _ _ _ x hx with rfl | hx
        ·simp only[Ver.ckT,if_true,e0,Bool.not_false]
        ·simp only[Ver.ckT,if_neg (hk x hx)];exact hck rfl x hx)]
       simp only[Ver.getT,Ver.dropT,setTag_find hk,e0]
    | _=>cases htg
end
end Go.Km
