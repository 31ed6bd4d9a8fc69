/- What AppendTo writes: every shape; the whole function. What kbin's functions that write do. What kbin's functions that write do: texts, octets, counts. What kbin's AppendUvarint does. Tags: how many; the writing of none. All of kbin's writing together. What the small functions of the spec do. What the small functions of the spec do: Uvarint, width, counted, version. The trees and the fields of the spec in memory; has, null, whole, things, at, Same. whole, things, at, Same. Same. The reader: its state; what its methods have in common. binary.BigEndian. -/
import Derived.Test.YtiafaedhhpjolaaGreatDoorKb00
import Derived.Test.YtiafaedhhpjolaaGreatDoorKb01
import Derived.Laws.BitsAllLaws
import Derived.Laws.Tables
set_option maxHeartbeats 4000000
set_option linter.unusedSimpArgs false
set_option linter.unusedVariables false
namespace Go.Km
open Go Go.RowKit
attribute [local irreducible] vc rO_ qz
theorem rep_one {w:World} {sb:Sb} (ty:Ty):∀ cs B d,ty.Rep w sb B cs d->ty.tp=none->ty.arr=false->∃ u,cs=[u]:=by
 intro cs B d h ht ha
 cases ty<;>first | (cases d<;>simp_all [Ty.Rep,Ty.tp,Ty.arr];done) | skip
 all_goals
  cases d with
  | bytes o=>cases o<;>simp only[Ty.Rep,Ty.tp,Ty.arr,reduceCtorEq] at h ht ha<;>first | exact ⟨_,h⟩ | exact ⟨_,h.1⟩ | (obtain ⟨_,h,_⟩:=h;exact ⟨_,h⟩) | (obtain ⟨_,_,h,_⟩:=h;exact ⟨_,h⟩) | (obtain ⟨_,_,_,h,_⟩:=h;exact ⟨_,h⟩)
  | list o =>
   rcases o with _ | ⟨_ | ⟨d0,_ | ⟨d1,r⟩⟩⟩<;>(try cases d0)<;>simp only[Ty.Rep,Ty.tp,Ty.arr,reduceCtorEq] at h ht ha<;>first | exact ⟨_,h⟩ | (obtain ⟨_,_,h,_⟩:=h;exact ⟨_,h⟩) | (obtain ⟨_,h,_⟩:=h;exact ⟨_,h⟩)
  | int m=>simp[Ty.Rep,Ty.tp,Ty.arr] at h ht ha
  | obj l t=>simp[Ty.Rep,Ty.tp,Ty.arr] at h ht ha
section
variable {P : Program} {E : Env} {W0 : World} {sb : Sb} {G : Nat → Option Obj}
mutual
theorem wok_ty (H:EnvW P E sb.T) (HI:EnvI P E):∀ (ty:Ty),ty.WOk P E W0 sb
 | .scal s df=>wok_scal H s df
 | .named s T df=>wok_named H s T df
 | .uuid=>wok_uuid H
 | .text=>wok_text H
 | .ntext=>wok_ntext H
 | .ntextFrom N=>wok_ntextFrom H N
 | .bytes=>wok_bytes H
 | .nbytes=>wok_nbytes H
 | .list TS null e=>wok_list H TS null e (wok_ty H HI e) (rep_one e)
 | .struct TP TU FD fs=>wok_struct TP TU FD fs (yB H HI fs)
 | .nstruct TP TU FD fs PP=>wok_nstruct TP TU FD fs PP (yB H HI fs)
theorem yB (H:EnvW P E sb.T) (HI:EnvI P E):∀ (fs:Flds),fs.WOk P E W0 sb
 | .nil tg=>wok_nil H HI tg
 | .cons v ty r=>by
  have h1:=wok_ty H HI ty
  have h2:=yB H HI r
  cases hv:v.isTag with
  | false=>exact wok_cons v ty r hv h1 h2 (rep_one ty)
  | true=>exact wok_tag H HI v ty r hv h1 h2
end
def Msg.wtop (m:Msg):Nat:=m.wlocals+(match m.flex with | none=>5 | some _=>8)+m.wfs.wt m.wx+1
def Msg.isFlex (m:Msg) (ver:Nat):Bool:=match m.flex with | none=>false | some f=>decide (f<=ver)
def Msg.okW (P:Program) (E:Env) (m:Msg):Bool :=
 qQ P E.tI16&&qk P m.TU 0==some 0&&m.wfs.okW P E m.wx m.TU m.wi m.wi
theorem rO {P:Program} {w:World} {a:Act} {t:Nat} {v:Value} (h:a.eval (.tmp t)=v):(results { (default:Func) with results:=#[.tmp t] } a.tmps).run P w=.ok v w:=by
 subst h
 simp[results,Act.eval]
theorem qa.enter {P:Program} {f:FuncId} {np nt:Nat} {res:Array ResultVar} {c:Code} (ht:Text P f np nt res c) {args:Array Value} {w:World} {S:Value->World->Prop} (hn:args.size<=nt)
  (h:∀ a,a.tmps.size=nt->a.defers=[]->(∀ i v,args[i]? = some v->a.eval (.tmp i)=v)->vc P c (Out P res S) a w):qa P f args w S:=by
 refine qa.of_vc ht (h _ (by simp;omega) rfl ?_)
 intro i v hv
 have hi:i<args.size:=by
  rcases Nat.lt_or_ge i args.size with h | h
  ·exact h
  ·simp[Array.getElem?_eq_none h] at hv
 simp[Act.eval,Array.getElem?_append_left hi,hv]
theorem appendTo (H:EnvW P E sb.T) (HI:EnvI P E) {m:Msg} {f:FuncId} {np ntmps:Nat} (ht:Text P f np ntmps #[.tmp 4] (m.wcode E)) (hn:m.wtop<=ntmps) (hok:m.okW P E=true)
  {pb po ver:Nat} {cs:List Value} {ds:List D} {tags:List (Nat × List UInt8)} {B:Nat}
  (hver:W0.cell? ⟨pb,po,none⟩=some (.int .i16 (ver:Int))) (hc:qb W0 pb (po+m.wi) cs) (hr:m.wfs.Rep W0 sb B cs ds tags) (hb:(m.wfs.wr (m.isFlex ver) ver ds tags).length<=big) :
  qa P f #[.pointer (some ⟨pb,po,none⟩),.slice none 0 0] W0 fun v w=>w.ownsRow W0.heap.size E.tU8 1 v (m.wfs.wr (m.isFlex ver) ver ds tags).length ((m.wfs.wr (m.isFlex ver) ver ds tags).map bv)/\Below W0.heap.size W0 w:=by
 simp only[Msg.okW,Bool.and_eq_true,beq_iff_eq] at hok
 obtain ⟨⟨ho16,hof⟩,hokf⟩:=hok
 have hlw:6<=m.wlocals:=by unfold Msg.wlocals;cases m.flex<;>simp<;>omega
 have hnt:m.wlocals+6<=ntmps:=by unfold Msg.wtop at hn;cases hfl:m.flex<;>rw[hfl] at hn<;>simp only at hn<;>omega
 refine qa.enter ht (by simp;omega) ?_
 intro a0 hs0 hd0 hargs
 have e0:a0.eval (.tmp 0)=.pointer (some ⟨pb,po,none⟩):=hargs 0 _ rfl
 have e1:a0.eval (.tmp 1)=.slice none 0 0:=hargs 1 _ rfl
 unfold Msg.wcode
 have htop:m.wlocals+(match m.flex with | none=>5 | some _=>8)+m.wfs.wt m.wx+1<=ntmps:=hn
 have hloc:m.wlocals=(match m.flex with | none=>6 | some _=>7)+m.wfs.wn:=rfl
 generalize hL:m.wlocals=L at *
 simp only[List.cons_append,List.nil_append,List.append_assoc]
 refine vX (rA (dn (vS ?_)))
 refine m_load (K:=fun k=>k<L/\k≠5) (b:=pb) (o:=po) (off:=0) (val:=.int .i16 (ver:Int)) zA hof ho16 hver zS (fun d hd=>by omega) zH (by simp only[zP];omega) ?_
 intro a1 hf1 he5
 have hs1:a1.tmps.size=ntmps:=by rw[hf1.size,zP,hs0]
 have hd1:a1.defers=[]:=by rw[hf1.defers,dF,hd0]
 have e10:a1.eval (.tmp 0)=.pointer (some ⟨pb,po,none⟩):=by rw[hf1.slot 0 zH,qi _ _ _ _ zH,e0]
 have e11:a1.eval (.tmp 1)=.slice none 0 0:=by rw[hf1.slot 1 zH,qi _ _ _ _ zH,e1]
 refine vX (rM (dn ?_))
 have hown:W0.ownsG ⟨W0.heap.size,Gd.none⟩ E.tU8 1 (.slice none 0 0) 0 []:=(World.ownsRow_nil _ _ _ _).toG
 have hbel:Below W0.heap.size W0 W0:=Grow.below (Eff.refl _ _)
 have hend:∀ (t1:Nat) (a2:Act) (w2:World),L<=t1->t1<ntmps->a2.tmps.size=ntmps->a2.defers=[]->WSt P E W0 Gd.none m.wx ver (m.isFlex ver) a2 w2 ([]++m.wfs.wr (m.isFlex ver) ver ds tags) →
   vc P (sq [rg [qd t1 (.tmp 1) E.tB,qc 4 (.tmp t1) E.tB],.ret]) (Out P #[.tmp 4] fun v w=>w.ownsRow W0.heap.size E.tU8 1 v (m.wfs.wr (m.isFlex ver) ver ds tags).length ((m.wfs.wr (m.isFlex ver) ver ds tags).map bv)/\Below W0.heap.size W0 w) a2 w2:=by
  intro t1 a2 w2 hLt htn hs2 hd2 hst
  refine vX (rM (rA (dn (vS (vT ?_)))))
  refine ⟨by simp only[dF];exact hd2,a2.eval (.tmp 1),rO zE,?_,hst.below⟩
  simpa using hst.own.own
 cases hfl:m.flex with
 | none =>
  simp only[hfl] at htop hloc ⊢
  have hfx:m.isFlex ver=false:=by simp[Msg.isFlex,hfl]
  have hx:m.wx=⟨5,none,7⟩:=by simp[Msg.wx,hfl]
  refine j1 ?_
  generalize hA:a1.put (some (L+4)) (a1.eval (.tmp 5))=A
  have hAe:∀ k,k<L->A.eval (.tmp k)=a1.eval (.tmp k):=fun k hk=>by rw[← hA,qi _ _ _ _ zH]
  have hAs:A.tmps.size=ntmps:=by rw[← hA,zP,hs1]
  have hAd:A.defers=a1.defers:=by rw[← hA,dF]
  refine yB (W0:=W0) (sb:=sb) H HI m.wfs Gd.none m.wx ver (m.isFlex ver) L m.TP m.TU 0 m.wi m.wi 6 (L+5) 0 B pb po 0 A W0 [] cs ds tags [] _ hokf ⟨by omega,by rw[hx];exact ⟨by decide,by decide⟩,by rw[hx];simp,fun _=>hfx,by omega,by omega⟩ zH zH (by simp only[List.map_nil];omega) (by simp only[List.map_nil];omega) ?_ (by rw[hAe 0 zH,e10]) hc hr KXs.nil (by simpa [qB] using hb) ?_
  ·exact ⟨hbel,by rw[hAe 1 zH,e11];exact hown,by rw[hx];exact (hAe 5 zH).trans he5,by rw[hx];simp⟩
  ·intro a2 w2 hf2 hst
   exact hend _ a2 w2 zH zH (by rw[hf2.size,hAs]) (by rw[hf2.defers,hAd,hd1]) hst
 | some f =>
  simp only[hfl] at htop hloc ⊢
  have hfx:m.isFlex ver=decide ((ver:Int) ≥ (f:Int)):=by simp[Msg.isFlex,hfl]
  have hx:m.wx=⟨5,some 6,7⟩:=by simp[Msg.wx,hfl]
  simp only[List.cons_append,List.nil_append,List.append_assoc]
  refine vX (rM ?_)
  refine kX (k:=.i16) (m:=(ver:Int)) (n:=(f:Int)) zA rfl ?_
  refine rA (dn ?_)
  generalize hB:(((a1.put (some (L+4)) (a1.eval (.tmp 5))).put (some (L+5)) _).put (some (L+6)) (Value.bool (decide ((ver:Int) ≥ (f:Int))))).put (some 6) _=Bf
  have hBe:∀ k,k<L->k≠6->Bf.eval (.tmp k)=a1.eval (.tmp k):=fun k hk hk'=>by rw[← hB];exact zE
  have hB6:Bf.eval (.tmp 6)=.bool (m.isFlex ver):=by rw[← hB,hfx];exact zE
  have hBs:Bf.tmps.size=ntmps:=by rw[← hB];simp only[zP];exact hs1
  have hBd:Bf.defers=a1.defers:=by rw[← hB];simp only[dF]
  clear hB
  refine vX (rM (dn ?_))
  refine j1 ?_
  generalize hA:Bf.put (some (L+7)) (Bf.eval (.tmp 6))=A
  have hAe:∀ k,k<L->A.eval (.tmp k)=Bf.eval (.tmp k):=fun k hk=>by rw[← hA,qi _ _ _ _ zH]
  have hAs:A.tmps.size=ntmps:=by rw[← hA,zP,hBs]
  have hAd:A.defers=a1.defers:=by rw[← hA,dF,hBd]
  refine yB (W0:=W0) (sb:=sb) H HI m.wfs Gd.none m.wx ver (m.isFlex ver) L m.TP m.TU 0 m.wi m.wi 7 (L+8) 0 B pb po 0 A W0 [] cs ds tags [] _ hokf ⟨by omega,by rw[hx];exact ⟨by decide,by decide⟩,by rw[hx];simp,by rw[hx];simp,by omega,by omega⟩ zH zH (by simp only[List.map_nil];omega) (by simp only[List.map_nil];omega) ?_ (by rw[hAe 0 zH,hBe 0 zH zH,e10]) hc hr KXs.nil (by simpa [qB] using hb) ?_
  ·exact ⟨hbel,by rw[hAe 1 zH,hBe 1 zH zH,e11];exact hown,by rw[hx];exact (hAe 5 zH).trans ((hBe 5 zH zH).trans he5),by rw[hx];intro f' hf';simp only[Option.some.injEq] at hf';subst hf';exact (hAe 6 zH).trans hB6⟩
  ·intro a2 w2 hf2 hst
   exact hend _ a2 w2 zH zH (by rw[hf2.size,hAs]) (by rw[hf2.defers,hAd,hd1]) hst
end
end Go.Km
namespace Go.Km
open Go Go.RowKit
attribute [local irreducible] vc rO_ qz qJ qF
def o8 (z:Int):UInt8:=UInt8.ofNat z.toNat
theorem bv_o8 {z:Int} (h0:0<=z) (h1:z<256):bv (o8 z)=.int .u8 z:=by
 unfold bv o8
 have:z.toNat<256:=by omega
 rw[UInt8.toNat_ofNat']
 congr 1
 omega
theorem map_o8 {zs:List Int} (h:∀ z ∈ zs,0<=z/\z<256):(zs.map o8).map bv=zs.map fun z=>.int .u8 z:=by
 rw[List.map_map]
 apply List.map_congr_left
 intro z hz
 exact bv_o8 (h z hz).1 (h z hz).2
theorem kQ (n:Int):IntKind.u8.wrap n=n % 256:=IntKind.wrap_u8' n
theorem xY (n:Int):0<=IntKind.u8.wrap n/\IntKind.u8.wrap n<256:=by rw[kQ];omega
theorem flat_u8:∀ zs:List Int,((zs.map fun z=>Value.int .u8 z).flatMap fun v=>v.cells.toList)=zs.map fun z=>Value.int .u8 z
 | []=>rfl
 | z::r=>by simp only[List.map_cons,List.flatMap_cons,flat_u8 r];rfl
section
variable {P : Program} {a : Act} {w : World} {r : List Oper} {Q : Exit → Act → World → Prop}
theorem kl {d d2 s:Nat} {t n ps ty p af g ty2 p2 af2 g2 e v} {U:Gd} {xs:List UInt8} {zs:List Int} (hB:xe P t e 1=true) (hp:(ps.map fun (x:Nat × Operand)=>(x.1,a.eval x.2)).toList=((zs.map fun z=>Value.int .u8 z).zipIdx 0).map fun x=>(x.2,x.1)) (h8:∀ z ∈ zs,0<=z/\z<256) (hn:zs.length=n)
  (hlim:n<=1000) (hn0:0<n) (hs:a.eval (.tmp s)=v) (hsd:d≠s) (hd:d<a.tmps.size) (hown:w.ownsG U e 1 v xs.length (xs.map bv)) (hU:U.u<=w.heap.size) (hb:xs.length+n<=big)
  (h:∀ v' w',w'.ownsG U e 1 v' (xs++zs.map o8).length ((xs++zs.map o8).map bv)->Below U.u w w'->rO_ P Q r ((a.put (some d) (.slice (some ⟨w.heap.size,0,none⟩) n n)).put (some d2) v') w') :
  rO_ P Q (⟨some d,.buildSlice t n ps,ty,p,af,g⟩::⟨some d2,.call { callee:=.builtin .append,args:=#[.tmp s,.tmp d],argTypes:=#[t,t] },ty2,p2,af2,g2⟩::r) a w:=by
 refine xz (s:=1) (vs:=zs.map fun z=>.int .u8 z) hB hp (by simpa using hn) (by intro v hv;obtain ⟨z,_,rfl⟩:=List.mem_map.1 hv;rfl) zH hn0 ?_
 have hcs:((zs.map fun z=>Value.int .u8 z).flatMap fun v=>v.cells.toList)=(zs.map o8).map bv:=by
  rw[map_o8 h8,flat_u8]
 rw[hcs]
 have hlen:(zs.map o8).length=n:=by simpa using hn
 refine jz (sz:=1) (m:=n) (U:=U) (v:=v) (n:=xs.length) (xs:=xs.map bv) (news:=(zs.map o8).map bv) hB (by rw[qi _ _ _ _ hsd];exact hs) (qD _ _ _ hd) (hown.alloc _) (by simp;omega) ?_ hb ?_
 ·refine xW (rB hB) ?_ (by simp[hn]) (xm _)
  intro j u hu
  rw[Nat.zero_add]
  exact qs w _ e (by simpa using hu)
 ·intro v' w' h1 h2
  refine h v' w' (by simpa [hn] using h1) ?_
  exact ((Below.refl U.u w).alloc (o:=.cells _ e) hU).trans h2
theorem kV {d d2 s:Nat} {t n ps ty p af g ty2 p2 af2 g2 e v} {U:Nat} {xs:List UInt8} {zs:List Int} (hB:xe P t e 1=true) (hp:(ps.map fun (x:Nat × Operand)=>(x.1,a.eval x.2)).toList=((zs.map fun z=>Value.int .u8 z).zipIdx 0).map fun x=>(x.2,x.1)) (h8:∀ z ∈ zs,0<=z/\z<256) (hn:zs.length=n)
  (hlim:n<=1000) (hn0:0<n) (hs:a.eval (.tmp s)=v) (hsd:d≠s) (hd:d<a.tmps.size) (hown:w.ownsRow U e 1 v xs.length (xs.map bv)) (hU:U<=w.heap.size) (hb:xs.length+n<=big)
  (h:∀ v' w',w'.ownsRow U e 1 v' (xs++zs.map o8).length ((xs++zs.map o8).map bv)->Below U w w'->rO_ P Q r ((a.put (some d) (.slice (some ⟨w.heap.size,0,none⟩) n n)).put (some d2) v') w') :
  rO_ P Q (⟨some d,.buildSlice t n ps,ty,p,af,g⟩::⟨some d2,.call { callee:=.builtin .append,args:=#[.tmp s,.tmp d],argTypes:=#[t,t] },ty2,p2,af2,g2⟩::r) a w :=
 kl (U:=⟨U,Gd.none⟩) hB hp h8 hn hlim hn0 hs hsd hd hown.toG hU hb (fun v' w' h1 h2=>h v' w' h1.own h2)
end
theorem wrap_i16 (n:Int):IntKind.i16.wrap n=(n+32768) % 65536-32768:=by
 simp[IntKind.wrap,IntKind.bits,IntKind.signed]
 split<;>omega
theorem wrap_i32 (n:Int):IntKind.i32.wrap n=(n+2147483648) % 4294967296-2147483648:=by
 simp[IntKind.wrap,IntKind.bits,IntKind.signed]
 split<;>omega
theorem wrap_u16 (n:Int):IntKind.u16.wrap n=n % 65536:=by simp[IntKind.wrap,IntKind.bits,IntKind.signed]
theorem jI (n:Int):IntKind.u32.wrap n=n % 4294967296:=by simp[IntKind.wrap,IntKind.bits,IntKind.signed]
theorem zj (n:Int):IntKind.u64.wrap n=n % 18446744073709551616:=by simp[IntKind.wrap,IntKind.bits,IntKind.signed]
theorem be1 (n:Int):be 1 n=[o8 (n % 256)]:=by simp[be,o8]
theorem be2 (n:Int):be 2 n=[o8 (n / 256 % 256),o8 (n % 256)]:=by simp[be,o8,Int.fdiv_eq_ediv_of_nonneg]
theorem be4 (n:Int):be 4 n=[o8 (n / 16777216 % 256),o8 (n / 65536 % 256),o8 (n / 256 % 256),o8 (n % 256)]:=by simp[be,o8,Int.fdiv_eq_ediv_of_nonneg]
theorem be8 (n:Int):be 8 n=[o8 (n / 72057594037927936 % 256),o8 (n / 281474976710656 % 256),o8 (n / 1099511627776 % 256),o8 (n / 4294967296 % 256),o8 (n / 16777216 % 256),o8 (n / 65536 % 256),o8 (n / 256 % 256),o8 (n % 256)]:=by
 simp[be,o8,Int.fdiv_eq_ediv_of_nonneg]
theorem be2_mod (n:Int):be 2 (IntKind.u16.wrap n)=be 2 n:=by
 rw[be2,be2,wrap_u16,show n % 65536 / 256 % 256=n / 256 % 256 by omega,show n % 65536 % 256=n % 256 by omega]
theorem be4_mod (n:Int):be 4 (IntKind.u32.wrap n)=be 4 n:=by
 rw[be4,be4,jI,show n % 4294967296 / 16777216 % 256=n / 16777216 % 256 by omega,show n % 4294967296 / 65536 % 256=n / 65536 % 256 by omega,show n % 4294967296 / 256 % 256=n / 256 % 256 by omega,show n % 4294967296 % 256=n % 256 by omega]
theorem be8_mod (n:Int):be 8 (IntKind.u64.wrap n)=be 8 n:=by
 rw[be8,be8,zj,show n % 18446744073709551616 / 72057594037927936 % 256=n / 72057594037927936 % 256 by omega,show n % 18446744073709551616 / 281474976710656 % 256=n / 281474976710656 % 256 by omega,
  show n % 18446744073709551616 / 1099511627776 % 256=n / 1099511627776 % 256 by omega,show n % 18446744073709551616 / 4294967296 % 256=n / 4294967296 % 256 by omega,show n % 18446744073709551616 / 16777216 % 256=n / 16777216 % 256 by omega,
  show n % 18446744073709551616 / 65536 % 256=n / 65536 % 256 by omega,show n % 18446744073709551616 / 256 % 256=n / 256 % 256 by omega,show n % 18446744073709551616 % 256=n % 256 by omega]
section
variable {P : Program} {E : Env} {w : World} {U : Gd}
theorem k_u16 (ht:Text P E.wU16 2 13 #[.tmp 4] (c_wU16 E)) (hB:xe P E.tB E.tU8 1=true) (i16:qr P E.tU16=some .u16) (i8:qr P E.tU8=some .u8) {n:Int} (hn:0<=n/\n<=65535):Wr1 P E E.wU16 U [.int .u16 n] (be 2 n) w:=by
 intro dv xs hown hU hb
 refine qa.enter ht zS ?_
 intro a hsz hdf harg
 have e0:=harg 0 dv zS
 have e1:=harg 1 (.int .u16 n) zS
 unfold c_wU16
 refine vX (rA (dn (vX (rM (rM ?_)))))
 refine r_shr zM zM (by decide) ?_
 refine qL (by assumption) (by assumption) zM ?_
 refine rM ?_
 refine qL (by assumption) (by assumption) zM ?_
 refine kl (zs:=[IntKind.u8.wrap (n.fdiv (2 ^ (min 8 16))),IntKind.u8.wrap n]) hB ?_ (by intro z hz;simp only[List.mem_cons,List.not_mem_nil,or_false] at hz;rcases hz with rfl | rfl<;>first | exact xY _ | decide) rfl zH zH zA zH (by simp only[zP];omega) hown hU (by simpa [be] using hb) ?_
 ·simp only[lM]
  simp (disch:=(try simp only[sP]);omega) only[eV]
  rfl
 intro v' w' h1 h2
 rw[show [IntKind.u8.wrap (n.fdiv (2 ^ (min 8 16))),IntKind.u8.wrap n].map o8=be 2 n by rw[be2];simp only[List.map_cons,List.map_nil,kQ];rw[Int.fdiv_eq_ediv_of_nonneg _ (by decide)];rfl] at h1
 refine rA (dn (vS (vT ?_)))
 exact ⟨by simp only[dF];exact hdf,v',rO zE,⟨h1,h2⟩⟩
theorem k_u32 (ht:Text P E.wU32 2 19 #[.tmp 4] (c_wU32 E)) (hB:xe P E.tB E.tU8 1=true) (i32:qr P E.tW=some .u32) (i8:qr P E.tU8=some .u8) {n:Int} (hn:0<=n/\n<=4294967295):Wr1 P E E.wU32 U [.int .u32 n] (be 4 n) w:=by
 intro dv xs hown hU hb
 refine qa.enter ht zS ?_
 intro a hsz hdf harg
 have e0:=harg 0 dv zS
 have e1:=harg 1 (.int .u32 n) zS
 unfold c_wU32
 refine vX (rA (dn (vX (rM (rM ?_)))))
 refine r_shr zM zM (by decide) ?_
 refine qL (by assumption) (by assumption) zM ?_
 refine rM ?_
 refine r_shr zM zM (by decide) ?_
 refine qL (by assumption) (by assumption) zM ?_
 refine rM ?_
 refine r_shr zM zM (by decide) ?_
 refine qL (by assumption) (by assumption) zM ?_
 refine rM ?_
 refine qL (by assumption) (by assumption) zM ?_
 refine kl (zs:=[IntKind.u8.wrap (n.fdiv (2 ^ (min 24 32))),IntKind.u8.wrap (n.fdiv (2 ^ (min 16 32))),IntKind.u8.wrap (n.fdiv (2 ^ (min 8 32))),IntKind.u8.wrap n]) hB ?_ (by intro z hz;simp only[List.mem_cons,List.not_mem_nil,or_false] at hz;rcases hz with rfl | rfl | rfl | rfl<;>first | exact xY _ | decide) rfl zH zH zA zH (by simp only[zP];omega) hown hU (by simpa [be] using hb) ?_
 ·simp only[lM]
  simp (disch:=(try simp only[sP]);omega) only[eV]
  rfl
 intro v' w' h1 h2
 rw[show [IntKind.u8.wrap (n.fdiv (2 ^ (min 24 32))),IntKind.u8.wrap (n.fdiv (2 ^ (min 16 32))),IntKind.u8.wrap (n.fdiv (2 ^ (min 8 32))),IntKind.u8.wrap n].map o8=be 4 n by rw[be4];simp only[List.map_cons,List.map_nil,kQ];simp only[Int.fdiv_eq_ediv_of_nonneg _ (show (0:Int)<=2 ^ (min 24 32) by decide),Int.fdiv_eq_ediv_of_nonneg _ (show (0:Int)<=2 ^ (min 16 32) by decide),Int.fdiv_eq_ediv_of_nonneg _ (show (0:Int)<=2 ^ (min 8 32) by decide)];rfl] at h1
 refine rA (dn (vS (vT ?_)))
 exact ⟨by simp only[dF];exact hdf,v',rO zE,⟨h1,h2⟩⟩
theorem k_u64 (ht:Text P E.wU64 2 31 #[.tmp 4] (c_wU64 E)) (hB:xe P E.tB E.tU8 1=true) (i64:qr P E.tU64=some .u64) (i8:qr P E.tU8=some .u8) {n:Int} (hn:0<=n/\n<=18446744073709551615):Wr1 P E E.wU64 U [.int .u64 n] (be 8 n) w:=by
 intro dv xs hown hU hb
 refine qa.enter ht zS ?_
 intro a hsz hdf harg
 have e0:=harg 0 dv zS
 have e1:=harg 1 (.int .u64 n) zS
 unfold c_wU64
 refine vX (rA (dn (vX (rM (rM ?_)))))
 refine r_shr zM zM (by decide) ?_
 refine qL (by assumption) (by assumption) zM ?_
 refine rM ?_
 refine r_shr zM zM (by decide) ?_
 refine qL (by assumption) (by assumption) zM ?_
 refine rM ?_
 refine r_shr zM zM (by decide) ?_
 refine qL (by assumption) (by assumption) zM ?_
 refine rM ?_
 refine r_shr zM zM (by decide) ?_
 refine qL (by assumption) (by assumption) zM ?_
 refine rM ?_
 refine r_shr zM zM (by decide) ?_
 refine qL (by assumption) (by assumption) zM ?_
 refine rM ?_
 refine r_shr zM zM (by decide) ?_
 refine qL (by assumption) (by assumption) zM ?_
 refine rM ?_
 refine r_shr zM zM (by decide) ?_
 refine qL (by assumption) (by assumption) zM ?_
 refine rM ?_
 refine qL (by assumption) (by assumption) zM ?_
 refine kl (zs:=[IntKind.u8.wrap (n.fdiv (2 ^ (min 56 64))),IntKind.u8.wrap (n.fdiv (2 ^ (min 48 64))),IntKind.u8.wrap (n.fdiv (2 ^ (min 40 64))),IntKind.u8.wrap (n.fdiv (2 ^ (min 32 64))),IntKind.u8.wrap (n.fdiv (2 ^ (min 24 64))),IntKind.u8.wrap (n.fdiv (2 ^ (min 16 64))),IntKind.u8.wrap (n.fdiv (2 ^ (min 8 64))),IntKind.u8.wrap n]) hB ?_ (by intro z hz;simp only[List.mem_cons,List.not_mem_nil,or_false] at hz;rcases hz with rfl | rfl | rfl | rfl | rfl | rfl | rfl | rfl<;>first | exact xY _ | decide) rfl zH zH zA zH (by simp only[zP];omega) hown hU (by simpa [be] using hb) ?_
 ·simp only[lM]
  simp (disch:=(try simp only[sP]);omega) only[eV]
  rfl
 intro v' w' h1 h2
 rw[show [IntKind.u8.wrap (n.fdiv (2 ^ (min 56 64))),IntKind.u8.wrap (n.fdiv (2 ^ (min 48 64))),IntKind.u8.wrap (n.fdiv (2 ^ (min 40 64))),IntKind.u8.wrap (n.fdiv (2 ^ (min 32 64))),IntKind.u8.wrap (n.fdiv (2 ^ (min 24 64))),IntKind.u8.wrap (n.fdiv (2 ^ (min 16 64))),IntKind.u8.wrap (n.fdiv (2 ^ (min 8 64))),IntKind.u8.wrap n].map o8=be 8 n by rw[be8];simp only[List.map_cons,List.map_nil,kQ];simp only[Int.fdiv_eq_ediv_of_nonneg _ (show (0:Int)<=2 ^ (min 56 64) by decide),Int.fdiv_eq_ediv_of_nonneg _ (show (0:Int)<=2 ^ (min 48 64) by decide),Int.fdiv_eq_ediv_of_nonneg _ (show (0:Int)<=2 ^ (min 40 64) by decide),Int.fdiv_eq_ediv_of_nonneg _ (show (0:Int)<=2 ^ (min 32 64) by decide),Int.fdiv_eq_ediv_of_nonneg _ (show (0:Int)<=2 ^ (min 24 64) by decide),Int.fdiv_eq_ediv_of_nonneg _ (show (0:Int)<=2 ^ (min 16 64) by decide),Int.fdiv_eq_ediv_of_nonneg _ (show (0:Int)<=2 ^ (min 8 64) by decide)];rfl] at h1
 refine rA (dn (vS (vT ?_)))
 exact ⟨by simp only[dF];exact hdf,v',rO zE,⟨h1,h2⟩⟩
theorem k_i16 (ht:Text P E.wI16 2 9 #[.tmp 4] (c_wI16 E)) (is:qr P E.tI16=some .i16) (iu:qr P E.tU16=some .u16) (hc:∀ n U w,0<=n/\n<=65535->Wr1 P E E.wU16 U [.int .u16 n] (be 2 n) w) {n:Int}:Wr1 P E E.wI16 U [.int .i16 n] (be 2 n) w:=by
 intro dv xs hown hU hb
 refine qa.enter ht zS ?_
 intro a hsz hdf harg
 have e0:=harg 0 dv zS
 have e1:=harg 1 (.int .i16 n) zS
 unfold c_wI16
 refine vX (rA (dn (vX (rM (rM ?_)))))
 refine qL (by assumption) (by assumption) zM ?_
 refine q8 (args:=#[dv,.int .u16 (IntKind.u16.wrap n)]) ?_ (hc (IntKind.u16.wrap n) U w (by rw[wrap_u16];omega) dv xs hown hU (by rw[be2_mod];exact hb)) ?_
 ·simp only[lM]
  simp (disch:=(try simp only[sP]);omega) only[eV,e0]
 intro v' w' hs
 rw[be2_mod] at hs
 refine rA (dn (vS (vT ?_)))
 exact ⟨by simp only[dF];exact hdf,v',rO zE,hs⟩
theorem k_i32 (ht:Text P E.wI32 2 9 #[.tmp 4] (c_wI32 E)) (is:qr P E.tI32=some .i32) (iu:qr P E.tW=some .u32) (hc:∀ n U w,0<=n/\n<=4294967295->Wr1 P E E.wU32 U [.int .u32 n] (be 4 n) w) {n:Int}:Wr1 P E E.wI32 U [.int .i32 n] (be 4 n) w:=by
 intro dv xs hown hU hb
 refine qa.enter ht zS ?_
 intro a hsz hdf harg
 have e0:=harg 0 dv zS
 have e1:=harg 1 (.int .i32 n) zS
 unfold c_wI32
 refine vX (rA (dn (vX (rM (rM ?_)))))
 refine qL (by assumption) (by assumption) zM ?_
 refine q8 (args:=#[dv,.int .u32 (IntKind.u32.wrap n)]) ?_ (hc (IntKind.u32.wrap n) U w (by rw[jI];omega) dv xs hown hU (by rw[be4_mod];exact hb)) ?_
 ·simp only[lM]
  simp (disch:=(try simp only[sP]);omega) only[eV,e0]
 intro v' w' hs
 rw[be4_mod] at hs
 refine rA (dn (vS (vT ?_)))
 exact ⟨by simp only[dF];exact hdf,v',rO zE,hs⟩
theorem k_i64 (ht:Text P E.wI64 2 9 #[.tmp 4] (c_wI64 E)) (is:qr P E.tI64=some .i64) (iu:qr P E.tU64=some .u64) (hc:∀ n U w,0<=n/\n<=18446744073709551615->Wr1 P E E.wU64 U [.int .u64 n] (be 8 n) w) {n:Int}:Wr1 P E E.wI64 U [.int .i64 n] (be 8 n) w:=by
 intro dv xs hown hU hb
 refine qa.enter ht zS ?_
 intro a hsz hdf harg
 have e0:=harg 0 dv zS
 have e1:=harg 1 (.int .i64 n) zS
 unfold c_wI64
 refine vX (rA (dn (vX (rM (rM ?_)))))
 refine qL (by assumption) (by assumption) zM ?_
 refine q8 (args:=#[dv,.int .u64 (IntKind.u64.wrap n)]) ?_ (hc (IntKind.u64.wrap n) U w (by rw[zj];omega) dv xs hown hU (by rw[be8_mod];exact hb)) ?_
 ·simp only[lM]
  simp (disch:=(try simp only[sP]);omega) only[eV,e0]
 intro v' w' hs
 rw[be8_mod] at hs
 refine rA (dn (vS (vT ?_)))
 exact ⟨by simp only[dF];exact hdf,v',rO zE,hs⟩
theorem k_i8 (ht:Text P E.wI8 2 10 #[.tmp 4] (c_wI8 E)) (hB:xe P E.tB E.tU8 1=true) (is:qr P E.tI8=some .i8) (i8:qr P E.tU8=some .u8) {n:Int}:Wr1 P E E.wI8 U [.int .i8 n] (be 1 n) w:=by
 intro dv xs hown hU hb
 refine qa.enter ht zS ?_
 intro a hsz hdf harg
 have e0:=harg 0 dv zS
 have e1:=harg 1 (.int .i8 n) zS
 unfold c_wI8
 refine vX (rA (dn (vX (rM (rM ?_)))))
 refine qL (by assumption) (by assumption) zM ?_
 refine kl (zs:=[IntKind.u8.wrap n]) hB ?_ (by intro z hz;simp only[List.mem_cons,List.not_mem_nil,or_false] at hz;rcases hz with rfl<;>first | exact xY _ | decide) rfl zH zH zA zH (by simp only[zP];omega) hown hU (by simpa [be] using hb) ?_
 ·simp only[lM]
  simp (disch:=(try simp only[sP]);omega) only[eV]
  rfl
 intro v' w' h1 h2
 rw[show [IntKind.u8.wrap n].map o8=be 1 n by rw[be1];simp only[List.map_cons,List.map_nil,kQ]] at h1
 refine rA (dn (vS (vT ?_)))
 exact ⟨by simp only[dF];exact hdf,v',rO zE,⟨h1,h2⟩⟩
theorem k_bool (ht:Text P E.wBool 2 12 #[.tmp 4] (c_wBool E)) (hB:xe P E.tB E.tU8 1=true) {b:Bool}:Wr1 P E E.wBool U [.bool b] ([if b then 1 else 0]) w:=by
 intro dv xs hown hU hb
 refine qa.enter ht zS ?_
 intro a hsz hdf harg
 have e0:=harg 0 dv zS
 have e1:=harg 1 (.bool b) zS
 unfold c_wBool
 refine vX (rA (dn (vS (vX (rM (dn ?_))))))
 refine vS (vC (t:=b) zA ?_ ?_)
 ·intro hbt
  refine vX (rM ?_)
  refine kl (zs:=[1]) hB ?_ (by intro z hz;simp only[List.mem_cons,List.not_mem_nil,or_false] at hz;rcases hz with rfl<;>first | exact xY _ | decide) rfl zH zH zA zH (by simp only[zP];omega) hown hU (by simpa [be] using hb) ?_
  ·simp only[lM]
   simp (disch:=(try simp only[sP]);omega) only[eV]
   rfl
  intro v' w' h1 h2
  refine rA (dn (vS (vT ?_)))
  exact ⟨by simp only[dF];exact hdf,v',rO zE,⟨by rw[hbt];exact h1,h2⟩⟩
 ·intro hbt
  refine vK (vN (vX (rM ?_)))
  refine kl (zs:=[0]) hB ?_ (by intro z hz;simp only[List.mem_cons,List.not_mem_nil,or_false] at hz;rcases hz with rfl<;>first | exact xY _ | decide) rfl zH zH zA zH (by simp only[zP];omega) hown hU (by simpa [be] using hb) ?_
  ·simp only[lM]
   simp (disch:=(try simp only[sP]);omega) only[eV]
   rfl
  intro v' w' h1 h2
  refine rA (dn (vS (vT ?_)))
  exact ⟨by simp only[dF];exact hdf,v',rO zE,⟨by rw[hbt];exact h1,h2⟩⟩
end
end Go.Km
namespace Go.Km
open Go Go.RowKit
attribute [local irreducible] vc rO_ qz qJ qF
section
variable {P : Program} {a : Act} {w : World} {r : List Oper} {Q : Exit → Act → World → Prop}
theorem wP {d T x ty p af g ad} {e:TypeId} (hT:P.underlying T=some (.pointer e)) (hx:a.eval x=.pointer ad) (h:rO_ P Q r (a.put (some d) (.bool ad.isNone)) w) :
  rO_ P Q (⟨some d,.binOp .eql T x (.const (.pointer none)) T,ty,p,af,g⟩::r) a w:=by
 refine st ?_
 have hb:(binOp .eql T (.pointer ad) (.pointer none)).run P w=.ok (.bool ad.isNone) w:=by
  have h0:∀ k:Nat,(Op.equalIn (k+1) T (.pointer ad) (.pointer none)).run P w=.ok ad.isNone w:=fun k=>by
   cases ad<;>simp[Op.equalIn,run_underlying hT]
  simp only[binOp]
  simp[Op.equal,Op.maxDepth,h0 9999]
 have hg:(eqGuard .eql T x (.const (.pointer none)) (.pointer ad) (.pointer none))=pure ():=by cases ad<;>rfl
 simp only[Oper.wp,execOp,hx,xg,hg,hb,Sem.run_bind,Sem.run_pure,Result.andThen_ok,Oper.upon_value]
 exact h
theorem r_sliceArr {d t x ty p af g b n s} {e:TypeId} (hu:P.underlying t=some (.array n e)) (hs:(P.info? e).map (·.size)=some s) (hx:a.eval x=.pointer (some ⟨b,0,none⟩)) (h:rO_ P Q r (a.put (some d) (.slice (some ⟨b,0,none⟩) n n)) w) :
  rO_ P Q (⟨some d,.slice t x none none none,ty,p,af,g⟩::r) a w:=by
 refine st ?_
 cases hi:P.info? e with
 | none=>simp[hi] at hs
 | some i =>
  have hr:(Instr.sliceAt t (a.eval x) none none none).run P w=.ok (.slice (some ⟨b,0,none⟩) n n) w:=by
   rw[hx]
   by_cases hn:n=0
   ·simp[Instr.sliceAt,run_underlying hu,Instr.sureAddr,Instr.sliceBounds,sizeOf,typeInfo,hi,hn]
   ·simp[Instr.sliceAt,run_underlying hu,Instr.sureAddr,Instr.sliceBounds,sizeOf,typeInfo,hi,hn,Addr.add_zero']
  simp only[Oper.wp,execOp,Sem.run_bind,Option.map_none,hr,Sem.run_pure,Result.andThen_ok,Oper.upon_value]
  exact h
theorem yi {d t x i ty p af g k} {s:ByteArray} {j:Nat} {b:UInt8} (ht:P.underlying t=some .string) (hx:a.eval x=.string s) (hi:a.eval i=.int k (j:Int)) (hb:s[j]? = some b)
  (h:rO_ P Q r (a.put (some d) (.int .u8 b.toNat)) w):rO_ P Q (⟨some d,.index t x i,ty,p,af,g⟩::r) a w:=by
 refine st ?_
 have hr:(Instr.index t (a.eval x) (a.eval i)).run P w=.ok (.int .u8 b.toNat) w:=by
  rw[hx,hi]
  simp[Instr.index,asIntOf,run_underlying ht,hb]
 simp only[Oper.wp,execOp,Sem.run_bind,hr,Sem.run_pure,Result.andThen_ok,Oper.upon_value]
 exact h
end
section
variable {P : Program} {E : Env} {w : World} {U : Gd}
theorem z4 (l:List UInt8):(⟨l.toArray⟩:ByteArray).size=l.length:=by simp[ByteArray.size]
theorem wrap_id16 (n:Int):be 2 (IntKind.i16.wrap n)=be 2 n:=by
 rw[be2,be2,wrap_i16,show ((n+32768) % 65536-32768) / 256 % 256=n / 256 % 256 by omega,show ((n+32768) % 65536-32768) % 256=n % 256 by omega]
theorem wrap_id32 {n:Nat} (h:n<=big):IntKind.i32.wrap (n:Int)=n:=by rw[wrap_i32];unfold big at h;omega
theorem y7 {n:Nat} (h:n<=big):IntKind.u32.wrap (1+IntKind.u32.wrap (n:Int))=((n+1:Nat):Int):=by rw[jI,jI];unfold big at h;omega
theorem k_str (ht:Text P E.wStr 2 13 #[.tmp 4] (c_wStr E)) (hB:xe P E.tB E.tU8 1=true) (i16:qr P E.tI16=some .i16) (ii:qr P E.tI=some .i64) (hs9:P.underlying E.tStr=some .string) (hc:∀ n (U:Gd) w,Wr1 P E E.wI16 U [.int .i16 n] (be 2 n) w) {l:List UInt8}:Wr1 P E E.wStr U [.string ⟨l.toArray⟩] (xS false l) w:=by
 intro dv xs hown hU hb
 refine qa.enter ht zS ?_
 intro a hsz hdf harg
 have e0:=harg 0 dv zS
 have e1:=harg 1 (.string ⟨l.toArray⟩) zS
 unfold c_wStr
 refine vX (rA (dn ?_))
 have hl:l.length<=2147483000:=by simp only[xS,List.length_append] at hb;unfold big at hb;omega
 have hw:be 2 (IntKind.i16.wrap ((⟨l.toArray⟩:ByteArray).size:Nat))=be 2 l.length:=by rw[z4];exact wrap_id16 _
 have hb2:xs.length+(be 2 l.length).length+l.length<=big:=by simp only[xS,List.length_append,Bool.false_eq_true,if_false] at hb;omega
 refine vX (rM (rM ?_))
 refine zX (by assumption) zM ?_
 refine qL (by assumption) (by assumption) zM ?_
 refine q8 (args:=#[dv,.int .i16 (IntKind.i16.wrap ((⟨l.toArray⟩:ByteArray).size:Nat))]) ?_ (hc _ U w dv xs hown hU (by rw[hw];omega)) ?_
 ·simp only[lM]
  simp (disch:=(try simp only[sP]);omega) only[eV,e0]
 intro v' w' hs
 rw[hw] at hs
 have hU':U.u<=w'.heap.size:=Nat.le_trans hU hs.2.size
 refine rA (dn (vX (rM (rM ?_))))
 refine jz (sz:=1) (U:=U) (m:=l.length) (news:=l.map bv) hB zE zA hs.1 hU' (wG hs9 l) (by simp only[List.length_append];omega) ?_
 intro v' w2 h1 h2
 rw[show (xs++be 2 ↑l.length).length+l.length=(xs++(be 2 ↑l.length++l)).length by simp only[List.length_append];omega,← List.map_append,List.append_assoc] at h1
 refine rA (dn (vS (vT ?_)))
 exact ⟨by simp only[dF];exact hdf,v',rO zE,⟨h1,hs.2.trans h2⟩⟩
theorem k_cstr (ht:Text P E.wCStr 2 14 #[.tmp 4] (c_wCStr E)) (hB:xe P E.tB E.tU8 1=true) (iu:qr P E.tW=some .u32) (ii:qr P E.tI=some .i64) (hs9:P.underlying E.tStr=some .string) (hc:∀ (n:Nat) (U:Gd) w,n<4294967296->Wr1 P E E.wUvarint U [.int .u32 n] (Go.Km.uvar n) w) {l:List UInt8}:Wr1 P E E.wCStr U [.string ⟨l.toArray⟩] (xS true l) w:=by
 intro dv xs hown hU hb
 refine qa.enter ht zS ?_
 intro a hsz hdf harg
 have e0:=harg 0 dv zS
 have e1:=harg 1 (.string ⟨l.toArray⟩) zS
 unfold c_wCStr
 refine vX (rA (dn ?_))
 have hl:l.length<=big:=by simp only[xS,List.length_append] at hb;omega
 have hw:IntKind.u32.wrap (1+IntKind.u32.wrap (((⟨l.toArray⟩:ByteArray).size:Nat):Int))=((l.length+1:Nat):Int):=by rw[z4];exact y7 hl
 have hb2:xs.length+(Go.Km.uvar (l.length+1)).length+l.length<=big:=by simp only[xS,List.length_append,if_true] at hb;omega
 refine vX (rM (rM ?_))
 refine zX (by assumption) zM ?_
 refine qL (by assumption) (by assumption) zM ?_
 refine xN zM zM ?_
 refine q8 (args:=#[dv,.int .u32 (IntKind.u32.wrap (1+IntKind.u32.wrap ((⟨l.toArray⟩:ByteArray).size:Nat)))]) ?_ (by rw[hw];exact hc (l.length+1) U w (by unfold big at hl;omega) dv xs hown hU zH) ?_
 ·simp only[lM]
  simp (disch:=(try simp only[sP]);omega) only[eV,e0]
 intro v' w' hs
 have hU':U.u<=w'.heap.size:=Nat.le_trans hU hs.2.size
 refine rA (dn (vX (rM (rM ?_))))
 refine jz (sz:=1) (U:=U) (m:=l.length) (news:=l.map bv) hB zE zA hs.1 hU' (wG hs9 l) (by simp only[List.length_append];omega) ?_
 intro v' w2 h1 h2
 rw[show (xs++Go.Km.uvar (l.length+1)).length+l.length=(xs++(Go.Km.uvar (l.length+1)++l)).length by simp only[List.length_append];omega,← List.map_append,List.append_assoc] at h1
 refine rA (dn (vS (vT ?_)))
 exact ⟨by simp only[dF];exact hdf,v',rO zE,⟨h1,hs.2.trans h2⟩⟩
theorem oct_src {T e:TypeId} {v:Value} {o:Option (List UInt8)} (hT:xu P T=some (e,1)) (hv:jj w U.u v o) (hU:U.u<=w.heap.size) :
  ∃ ad cap,v=.slice ad (o.getD []).length cap/\∀ w',Below U.u w w'->Src P 1 T v (o.getD []).length ((o.getD []).map bv) w':=by
 cases o with
 | none =>
  simp only[jj] at hv
  subst hv
  exact ⟨none,0,rfl,fun w' _=>wH hT⟩
 | some l =>
  obtain ⟨q,o,cap,rfl,hq,hc⟩:=hv
  exact ⟨_,cap,rfl,fun w' hw=>xW hT (hc.below hw hq) zS (xm l)⟩
theorem k_octs (ht:Text P E.wBytes 2 13 #[.tmp 4] (c_wBytes E)) (hB:xe P E.tB E.tU8 1=true) (i32:qr P E.tI32=some .i32) (ii:qr P E.tI=some .i64) {v:Value} {o:Option (List UInt8)} (hv:jj w U.u v o) (hc:∀ n (U:Gd) w,Wr1 P E E.wI32 U [.int .i32 n] (be 4 n) w):Wr1 P E E.wBytes U [v] (xa false (o.getD [])) w:=by
 intro dv xs hown hU hb
 refine qa.enter ht zS ?_
 intro a hsz hdf harg
 have e0:=harg 0 dv zS
 have e1:=harg 1 (v) zS
 unfold c_wBytes
 refine vX (rA (dn ?_))
 have hsl:=rB hB
 obtain ⟨ad,cap,hve,hsrc⟩:=oct_src hsl hv hU
 generalize hlo:o.getD []=l at *
 subst hve
 have hl:l.length<=big:=by simp only[xa,List.length_append] at hb;omega
 have hw:IntKind.i32.wrap (l.length:Int)=l.length:=wrap_id32 hl
 have hb2:xs.length+(be 4 l.length).length+l.length<=big:=by simp only[xa,List.length_append,Bool.false_eq_true,if_false] at hb;omega
 refine vX (rM (rM ?_))
 refine x7 (by assumption) zM ?_
 refine qL (by assumption) (by assumption) zM ?_
 refine q8 (args:=#[dv,.int .i32 (IntKind.i32.wrap (l.length:Int))]) ?_ (by rw[hw];exact hc _ U w dv xs hown hU zH) ?_
 ·simp only[lM]
  simp (disch:=(try simp only[sP]);omega) only[eV,e0]
 intro v' w' hs
 have hU':U.u<=w'.heap.size:=Nat.le_trans hU hs.2.size
 refine rA (dn (vX (rM (rM ?_))))
 refine jz (sz:=1) (U:=U) (m:=l.length) (news:=l.map bv) hB zE zA hs.1 hU' (hsrc _ hs.2) (by simp only[List.length_append];omega) ?_
 intro v' w2 h1 h2
 rw[show (xs++be 4 ↑l.length).length+l.length=(xs++(be 4 ↑l.length++l)).length by simp only[List.length_append];omega,← List.map_append,List.append_assoc] at h1
 refine rA (dn (vS (vT ?_)))
 exact ⟨by simp only[dF];exact hdf,v',rO zE,⟨h1,hs.2.trans h2⟩⟩
theorem k_cocts (ht:Text P E.wCBytes 2 14 #[.tmp 4] (c_wCBytes E)) (hB:xe P E.tB E.tU8 1=true) (iu:qr P E.tW=some .u32) (ii:qr P E.tI=some .i64) {v:Value} {o:Option (List UInt8)} (hv:jj w U.u v o) (hc:∀ (n:Nat) (U:Gd) w,n<4294967296->Wr1 P E E.wUvarint U [.int .u32 n] (Go.Km.uvar n) w):Wr1 P E E.wCBytes U [v] (xa true (o.getD [])) w:=by
 intro dv xs hown hU hb
 refine qa.enter ht zS ?_
 intro a hsz hdf harg
 have e0:=harg 0 dv zS
 have e1:=harg 1 (v) zS
 unfold c_wCBytes
 refine vX (rA (dn ?_))
 have hsl:=rB hB
 obtain ⟨ad,cap,hve,hsrc⟩:=oct_src hsl hv hU
 generalize hlo:o.getD []=l at *
 subst hve
 have hl:l.length<=big:=by simp only[xa,List.length_append] at hb;omega
 have hw:IntKind.u32.wrap (1+IntKind.u32.wrap (l.length:Int))=((l.length+1:Nat):Int):=by skip;exact y7 hl
 have hb2:xs.length+(Go.Km.uvar (l.length+1)).length+l.length<=big:=by simp only[xa,List.length_append,if_true] at hb;omega
 refine vX (rM (rM ?_))
 refine x7 (by assumption) zM ?_
 refine qL (by assumption) (by assumption) zM ?_
 refine xN zM zM ?_
 refine q8 (args:=#[dv,.int .u32 (IntKind.u32.wrap (1+IntKind.u32.wrap (l.length:Int)))]) ?_ (by rw[hw];exact hc (l.length+1) U w (by unfold big at hl;omega) dv xs hown hU zH) ?_
 ·simp only[lM]
  simp (disch:=(try simp only[sP]);omega) only[eV,e0]
 intro v' w' hs
 have hU':U.u<=w'.heap.size:=Nat.le_trans hU hs.2.size
 refine rA (dn (vX (rM (rM ?_))))
 refine jz (sz:=1) (U:=U) (m:=l.length) (news:=l.map bv) hB zE zA hs.1 hU' (hsrc _ hs.2) (by simp only[List.length_append];omega) ?_
 intro v' w2 h1 h2
 rw[show (xs++Go.Km.uvar (l.length+1)).length+l.length=(xs++(Go.Km.uvar (l.length+1)++l)).length by simp only[List.length_append];omega,← List.map_append,List.append_assoc] at h1
 refine rA (dn (vS (vT ?_)))
 exact ⟨by simp only[dF];exact hdf,v',rO zE,⟨h1,hs.2.trans h2⟩⟩
theorem k_len (ht:Text P E.wLen 2 9 #[.tmp 4] (c_wLen E)) (i32:qr P E.tI32=some .i32) (ii:qr P E.tI=some .i64) {n:Nat} (hn:n<=big) (hc:∀ n (U:Gd) w,Wr1 P E E.wI32 U [.int .i32 n] (be 4 n) w):Wr1 P E E.wLen U [.int .i64 n] (zg false n) w:=by
 intro dv xs hown hU hb
 refine qa.enter ht zS ?_
 intro a hsz hdf harg
 have e0:=harg 0 dv zS
 have e1:=harg 1 (.int .i64 n) zS
 unfold c_wLen
 refine vX (rA (dn ?_))
 have hw:IntKind.i32.wrap (n:Int)=n:=wrap_id32 hn
 refine vX (rM (rM ?_))
 refine qL (by assumption) (by assumption) zM ?_
 refine q8 (args:=#[dv,.int .i32 (IntKind.i32.wrap (n:Int))]) ?_ (by rw[hw];exact hc _ U w dv xs hown hU hb) ?_
 ·simp only[lM]
  simp (disch:=(try simp only[sP]);omega) only[eV,e0]
 intro v' w' hs
 refine rA (dn (vS (vT ?_)))
 exact ⟨by simp only[dF];exact hdf,v',rO zE,hs⟩
theorem k_clen (ht:Text P E.wCLen 2 10 #[.tmp 4] (c_wCLen E)) (iu:qr P E.tW=some .u32) (ii:qr P E.tI=some .i64) {n:Nat} (hn:n<=big) (hc:∀ (n:Nat) (U:Gd) w,n<4294967296->Wr1 P E E.wUvarint U [.int .u32 n] (Go.Km.uvar n) w):Wr1 P E E.wCLen U [.int .i64 n] (zg true n) w:=by
 intro dv xs hown hU hb
 refine qa.enter ht zS ?_
 intro a hsz hdf harg
 have e0:=harg 0 dv zS
 have e1:=harg 1 (.int .i64 n) zS
 unfold c_wCLen
 refine vX (rA (dn ?_))
 have hw:IntKind.u32.wrap (1+IntKind.u32.wrap (n:Int))=((n+1:Nat):Int):=y7 hn
 refine vX (rM (rM ?_))
 refine qL (by assumption) (by assumption) zM ?_
 refine xN zM zM ?_
 refine q8 (args:=#[dv,.int .u32 (IntKind.u32.wrap (1+IntKind.u32.wrap (n:Int)))]) ?_ (by rw[hw];exact hc (n+1) U w (by unfold big at hn;omega) dv xs hown hU hb) ?_
 ·simp only[lM]
  simp (disch:=(try simp only[sP]);omega) only[eV,e0]
 intro v' w' hs
 refine rA (dn (vS (vT ?_)))
 exact ⟨by simp only[dF];exact hdf,v',rO zE,hs⟩
theorem k_nlen (ht:Text P E.wNLen 3 14 #[.tmp 6] (c_wNLen E)) (i32:qr P E.tI32=some .i32) (ii:qr P E.tI=some .i64) {n:Nat} {b:Bool} (hn:n<=big) (hc:∀ n (U:Gd) w,Wr1 P E E.wI32 U [.int .i32 n] (be 4 n) w):Wr1 P E E.wNLen U [.int .i64 n,.bool b] (if b then j7 false else zg false n) w:=by
 intro dv xs hown hU hb
 refine qa.enter ht zS ?_
 intro a hsz hdf harg
 have e0:=harg 0 dv zS
 have e1:=harg 1 (.int .i64 n) zS
 have e2:=harg 2 (.bool b) zS
 unfold c_wNLen
 refine vX (rA (dn (vS (vX (rM (dn ?_))))))
 refine vS (vC (t:=b) zA ?_ ?_)
 ·intro hbt
  subst hbt
  simp only[if_true] at hb ⊢
  refine vX (rM ?_)
  refine q8 (args:=#[dv,.int .i32 (-1)]) ?_ (hc (-1) U w dv xs hown hU hb) ?_
  ·simp only[lM]
   simp (disch:=(try simp only[sP]);omega) only[eV,e0]
  intro v' w' hs
  refine rA (dn (vS (vT ?_)))
  exact ⟨by simp only[dF];exact hdf,v',rO zE,hs⟩
 ·intro hbt
  subst hbt
  simp only[Bool.false_eq_true,if_false] at hb ⊢
  refine vK (vN ?_)
  have hw:IntKind.i32.wrap (n:Int)=n:=wrap_id32 hn
  refine vX (rM (rM ?_))
  refine qL (by assumption) (by assumption) zM ?_
  refine q8 (args:=#[dv,.int .i32 (IntKind.i32.wrap (n:Int))]) ?_ (by rw[hw];exact hc _ U w dv xs hown hU hb) ?_
  ·simp only[lM]
   simp (disch:=(try simp only[sP]);omega) only[eV,e0]
  intro v' w' hs
  refine rA (dn (vS (vT ?_)))
  exact ⟨by simp only[dF];exact hdf,v',rO zE,hs⟩
theorem k_cnlen (ht:Text P E.wCNLen 3 15 #[.tmp 6] (c_wCNLen E)) (iu:qr P E.tW=some .u32) (ii:qr P E.tI=some .i64) {n:Nat} {b:Bool} (hn:n<=big) (hc:∀ (n:Nat) (U:Gd) w,n<4294967296->Wr1 P E E.wUvarint U [.int .u32 n] (Go.Km.uvar n) w):Wr1 P E E.wCNLen U [.int .i64 n,.bool b] (if b then j7 true else zg true n) w:=by
 intro dv xs hown hU hb
 refine qa.enter ht zS ?_
 intro a hsz hdf harg
 have e0:=harg 0 dv zS
 have e1:=harg 1 (.int .i64 n) zS
 have e2:=harg 2 (.bool b) zS
 unfold c_wCNLen
 refine vX (rA (dn (vS (vX (rM (dn ?_))))))
 refine vS (vC (t:=b) zA ?_ ?_)
 ·intro hbt
  subst hbt
  simp only[if_true] at hb ⊢
  refine vX (rM ?_)
  refine q8 (args:=#[dv,.int .u32 0]) ?_ (hc 0 U w (by decide) dv xs hown hU hb) ?_
  ·simp only[lM]
   simp (disch:=(try simp only[sP]);omega) only[eV,e0]
  intro v' w' hs
  refine rA (dn (vS (vT ?_)))
  exact ⟨by simp only[dF];exact hdf,v',rO zE,hs⟩
 ·intro hbt
  subst hbt
  simp only[Bool.false_eq_true,if_false] at hb ⊢
  refine vK (vN ?_)
  have hw:IntKind.u32.wrap (1+IntKind.u32.wrap (n:Int))=((n+1:Nat):Int):=y7 hn
  refine vX (rM (rM ?_))
  refine qL (by assumption) (by assumption) zM ?_
  refine xN zM zM ?_
  refine q8 (args:=#[dv,.int .u32 (IntKind.u32.wrap (1+IntKind.u32.wrap (n:Int)))]) ?_ (by rw[hw];exact hc (n+1) U w (by unfold big at hn;omega) dv xs hown hU hb) ?_
  ·simp only[lM]
   simp (disch:=(try simp only[sP]);omega) only[eV,e0]
  intro v' w' hs
  refine rA (dn (vS (vT ?_)))
  exact ⟨by simp only[dF];exact hdf,v',rO zE,hs⟩
theorem k_nocts (ht:Text P E.wNBytes 2 12 #[.tmp 4] (c_wNBytes E)) (hB:xe P E.tB E.tU8 1=true) {v:Value} {o:Option (List UInt8)} (hv:jj w U.u v o) (hn:∀ n (U:Gd) w,Wr1 P E E.wI32 U [.int .i32 n] (be 4 n) w) (hc:∀ v o (U:Gd) w,jj w U.u v o->Wr1 P E E.wBytes U [v] (xa false (o.getD [])) w):Wr1 P E E.wNBytes U [v] (xj false o) w:=by
 intro dv xs hown hU hb
 refine qa.enter ht zS ?_
 intro a hsz hdf harg
 have e0:=harg 0 dv zS
 have e1:=harg 1 (v) zS
 unfold c_wNBytes
 refine vX (rA (dn ?_))
 have hsl:=rB hB
 refine vS (vX (rM ?_))
 cases o with
 | none =>
  simp only[jj] at hv
  subst hv
  refine yj (ad:=none) (len:=0) (cap:=0) hsl zA ?_
  refine dn ?_
  refine vS (vC (t:=true) zM ?_ (fun h=>by cases h))
  intro _
  refine vX (rM ?_)
  refine q8 (args:=#[dv,.int .i32 (-1)]) ?_ (hn (-1) U w dv xs hown hU hb) ?_
  ·simp only[lM]
   simp (disch:=(try simp only[sP]);omega) only[eV,e0]
  intro v' w' hs
  refine rA (dn (vS (vT ?_)))
  exact ⟨by simp only[dF];exact hdf,v',rO zE,hs⟩
 | some l =>
  have hv0:=hv
  obtain ⟨q,o,cap,hve,hq,hcl⟩:=hv
  refine yj (ad:=some ⟨q,o,none⟩) (len:=l.length) (cap:=cap) hsl (by simp (disch:=(try simp only[sP]);omega) only[eV,e1,hve]) ?_
  refine dn ?_
  refine vS (vC (t:=false) zM (fun h=>by cases h) ?_)
  intro _
  refine vK (vN (vX (rM (rM ?_))))
  refine q8 (args:=#[dv,v]) ?_ (hc v (some l) U w hv0 dv xs hown hU hb) ?_
  ·simp only[lM]
   simp (disch:=(try simp only[sP]);omega) only[eV,e0,e1]
  intro v' w' hs
  refine rA (dn (vS (vT ?_)))
  exact ⟨by simp only[dF];exact hdf,v',rO zE,hs⟩
theorem k_cnocts (ht:Text P E.wCNBytes 2 12 #[.tmp 4] (wh E)) (hB:xe P E.tB E.tU8 1=true) {v:Value} {o:Option (List UInt8)} (hv:jj w U.u v o) (hn:∀ (n:Nat) (U:Gd) w,n<4294967296->Wr1 P E E.wUvarint U [.int .u32 n] (Go.Km.uvar n) w) (hc:∀ v o (U:Gd) w,jj w U.u v o->Wr1 P E E.wCBytes U [v] (xa true (o.getD [])) w):Wr1 P E E.wCNBytes U [v] (xj true o) w:=by
 intro dv xs hown hU hb
 refine qa.enter ht zS ?_
 intro a hsz hdf harg
 have e0:=harg 0 dv zS
 have e1:=harg 1 (v) zS
 unfold wh
 refine vX (rA (dn ?_))
 have hsl:=rB hB
 refine vS (vX (rM ?_))
 cases o with
 | none =>
  simp only[jj] at hv
  subst hv
  refine yj (ad:=none) (len:=0) (cap:=0) hsl zA ?_
  refine dn ?_
  refine vS (vC (t:=true) zM ?_ (fun h=>by cases h))
  intro _
  refine vX (rM ?_)
  refine q8 (args:=#[dv,.int .u32 0]) ?_ (hn 0 U w (by decide) dv xs hown hU hb) ?_
  ·simp only[lM]
   simp (disch:=(try simp only[sP]);omega) only[eV,e0]
  intro v' w' hs
  refine rA (dn (vS (vT ?_)))
  exact ⟨by simp only[dF];exact hdf,v',rO zE,hs⟩
 | some l =>
  have hv0:=hv
  obtain ⟨q,o,cap,hve,hq,hcl⟩:=hv
  refine yj (ad:=some ⟨q,o,none⟩) (len:=l.length) (cap:=cap) hsl (by simp (disch:=(try simp only[sP]);omega) only[eV,e1,hve]) ?_
  refine dn ?_
  refine vS (vC (t:=false) zM (fun h=>by cases h) ?_)
  intro _
  refine vK (vN (vX (rM (rM ?_))))
  refine q8 (args:=#[dv,v]) ?_ (hc v (some l) U w hv0 dv xs hown hU hb) ?_
  ·simp only[lM]
   simp (disch:=(try simp only[sP]);omega) only[eV,e0,e1]
  intro v' w' hs
  refine rA (dn (vS (vT ?_)))
  exact ⟨by simp only[dF];exact hdf,v',rO zE,hs⟩
theorem k_nstr (ht:Text P E.wNStr 2 14 #[.tmp 4] (c_wNStr E)) {te:TypeId} (hp9:P.underlying E.tPStr=some (.pointer te)) (ho:qQ P E.tStr=true) {v:Value} {o:Option (List UInt8)} (hv:kP w U.u v o) (hn:∀ n (U:Gd) w,Wr1 P E E.wI16 U [.int .i16 n] (be 2 n) w) (hc:∀ l (U:Gd) w,Wr1 P E E.wStr U [.string ⟨l.toArray⟩] (xS false l) w):Wr1 P E E.wNStr U [v] (xK false o) w:=by
 intro dv xs hown hU hb
 refine qa.enter ht zS ?_
 intro a hsz hdf harg
 have e0:=harg 0 dv zS
 have e1:=harg 1 (v) zS
 unfold c_wNStr
 refine vX (rA (dn (vS (vX (rM ?_)))))
 cases o with
 | none =>
  simp only[kP] at hv
  subst hv
  refine wP (ad:=none) hp9 zA ?_
  refine dn ?_
  refine vS (vC (t:=true) zM ?_ (fun h=>by cases h))
  intro _
  refine vX (rM ?_)
  refine q8 (args:=#[dv,.int .i16 (-1)]) ?_ (hn (-1) U w dv xs hown hU hb) ?_
  ·simp only[lM]
   simp (disch:=(try simp only[sP]);omega) only[eV,e0]
  intro v' w' hs
  refine rA (dn (vS (vT ?_)))
  exact ⟨by simp only[dF];exact hdf,v',rO zE,hs⟩
 | some l =>
  obtain ⟨q,hve,hq,hcl⟩:=hv
  refine wP (ad:=some ⟨q,0,none⟩) hp9 (by simp (disch:=(try simp only[sP]);omega) only[eV,e1,hve]) ?_
  refine dn ?_
  refine vS (vC (t:=false) zM (fun h=>by cases h) ?_)
  intro _
  refine vK (vN (vX (rM (rM ?_))))
  refine qY (ad:=⟨q,0,none⟩) (by simp (disch:=(try simp only[sP]);omega) only[eV,e1,hve]) ?_
  refine rL (b:=q) (o:=0) zE ho hcl ?_
  refine q8 (args:=#[dv,.string ⟨l.toArray⟩]) ?_ (hc l U w dv xs hown hU hb) ?_
  ·simp only[lM]
   simp (disch:=(try simp only[sP]);omega) only[eV,e0]
  intro v' w' hs
  refine rA (dn (vS (vT ?_)))
  exact ⟨by simp only[dF];exact hdf,v',rO zE,hs⟩
theorem k_cnstr (ht:Text P E.wCNStr 2 14 #[.tmp 4] (c_wCNStr E)) {te:TypeId} (hp9:P.underlying E.tPStr=some (.pointer te)) (ho:qQ P E.tStr=true) {v:Value} {o:Option (List UInt8)} (hv:kP w U.u v o) (hn:∀ (n:Nat) (U:Gd) w,n<4294967296->Wr1 P E E.wUvarint U [.int .u32 n] (Go.Km.uvar n) w) (hc:∀ l (U:Gd) w,Wr1 P E E.wCStr U [.string ⟨l.toArray⟩] (xS true l) w):Wr1 P E E.wCNStr U [v] (xK true o) w:=by
 intro dv xs hown hU hb
 refine qa.enter ht zS ?_
 intro a hsz hdf harg
 have e0:=harg 0 dv zS
 have e1:=harg 1 (v) zS
 unfold c_wCNStr
 refine vX (rA (dn (vS (vX (rM ?_)))))
 cases o with
 | none =>
  simp only[kP] at hv
  subst hv
  refine wP (ad:=none) hp9 zA ?_
  refine dn ?_
  refine vS (vC (t:=true) zM ?_ (fun h=>by cases h))
  intro _
  refine vX (rM ?_)
  refine q8 (args:=#[dv,.int .u32 0]) ?_ (hn 0 U w (by decide) dv xs hown hU hb) ?_
  ·simp only[lM]
   simp (disch:=(try simp only[sP]);omega) only[eV,e0]
  intro v' w' hs
  refine rA (dn (vS (vT ?_)))
  exact ⟨by simp only[dF];exact hdf,v',rO zE,hs⟩
 | some l =>
  obtain ⟨q,hve,hq,hcl⟩:=hv
  refine wP (ad:=some ⟨q,0,none⟩) hp9 (by simp (disch:=(try simp only[sP]);omega) only[eV,e1,hve]) ?_
  refine dn ?_
  refine vS (vC (t:=false) zM (fun h=>by cases h) ?_)
  intro _
  refine vK (vN (vX (rM (rM ?_))))
  refine qY (ad:=⟨q,0,none⟩) (by simp (disch:=(try simp only[sP]);omega) only[eV,e1,hve]) ?_
  refine rL (b:=q) (o:=0) zE ho hcl ?_
  refine q8 (args:=#[dv,.string ⟨l.toArray⟩]) ?_ (hc l U w dv xs hown hU hb) ?_
  ·simp only[lM]
   simp (disch:=(try simp only[sP]);omega) only[eV,e0]
  intro v' w' hs
  refine rA (dn (vS (vT ?_)))
  exact ⟨by simp only[dF];exact hdf,v',rO zE,hs⟩
theorem k_uuid (ht:Text P E.wUuid 2 8 #[.tmp 4] (c_wUuid E)) (hB:xe P E.tB E.tU8 1=true) {l:List UInt8} (hl:l.length=16) (hu:P.underlying E.tUuid=some (.array 16 E.tU8)) (hu8:(P.info? E.tU8).map (·.size)=some 1):Wr1 P E E.wUuid U [.agg (l.map bv).toArray] l w:=by
 intro dv xs hown hU hb
 refine qa.enter ht zS ?_
 intro a hsz hdf harg
 have e0:=harg 0 dv zS
 have e1:=harg 1 (.agg (l.map bv).toArray) zS
 unfold c_wUuid
 refine vX ?_
 refine xI (v:=.agg (l.map bv).toArray) zA ?_
 refine rA (dn (vX (rM ?_)))
 refine r_sliceArr (b:=w.heap.size) (n:=16) hu hu8 zE ?_
 refine jz (sz:=1) (U:=U) (v:=dv) (n:=xs.length) (xs:=xs.map bv) (u:=.slice (some ⟨w.heap.size,0,none⟩) 16 16) (m:=16) (news:=l.map bv) hB zA zE (hown.alloc _) (by simp;omega) ?_ zH ?_
 ·refine xW (rB hB) ?_ (by simp[hl]) (xm l)
  intro j u hu
  rw[Nat.zero_add]
  exact qs w _ _ (by simpa [Value.cells] using hu)
 intro v' w' h1 h2
 rw[show xs.length+16=(xs++l).length by simp[hl],← List.map_append] at h1
 refine rA (dn (vS (vT ?_)))
 exact ⟨by simp only[dF];exact hdf,v',rO zE,⟨h1,((Below.refl U w).alloc (o:=.cells _ E.tUuid) hU).trans h2⟩⟩
end
end Go.Km
namespace Go.Km
open Go Go.RowKit
attribute [local irreducible] vc rO_ qz qJ qF
def ve (n k:Nat):Prop:=n<2 ^ k/\(k=0\/2 ^ (k-1)<=n)
def tab8:List UInt8:=[0,1,2,2,3,3,3,3,4,4,4,4,4,4,4,4,5,5,5,5,5,5,5,5,5,5,5,5,5,5,5,5,6,6,6,6,6,6,6,6,6,6,6,6,6,6,6,6,6,6,6,6,6,6,6,6,6,6,6,6,6,6,6,6,7,7,7,7,7,7,7,7,7,7,7,7,7,7,7,7,7,7,7,7,7,7,7,7,7,7,7,7,7,7,7,7,7,7,7,7,7,7,7,7,7,7,7,7,7,7,7,7,7,7,7,7,7,7,7,7,7,7,7,7,7,7,7,7,8,8,8,8,8,8,8,8,8,8,8,8,8,8,8,8,8,8,8,8,8,8,8,8,8,8,8,8,8,8,8,8,8,8,8,8,8,8,8,8,8,8,8,8,8,8,8,8,8,8,8,8,8,8,8,8,8,8,8,8,8,8,8,8,8,8,8,8,8,8,8,8,8,8,8,8,8,8,8,8,8,8,8,8,8,8,8,8,8,8,8,8,8,8,8,8,8,8,8,8,8,8,8,8,8,8,8,8,8,8,8,8,8,8,8,8,8,8,8,8,8,8,8,8,8,8,8,8]
def tabU:List UInt8:=[1,1,1,1,1,1,1,1,2,2,2,2,2,2,2,3,3,3,3,3,3,3,4,4,4,4,4,4,4,5,5,5,5,5,5,5,6,6,6,6,6,6,6,7,7,7,7,7,7,7,8,8,8,8,8,8,8,9,9,9,9,9,9,9,10,0,0,0,0,0,0,0,0,0,0,0,0,0,0,0,0,0,0,0,0,0,0,0,0,0,0,0,0,0,0,0,0,0,0,0,0,0,0,0,0,0,0,0,0,0,0,0,0,0,0,0,0,0,0,0,0,0,0,0,0,0,0,0,0,0,0,0,0,0,0,0,0,0,0,0,0,0,0,0,0,0,0,0,0,0,0,0,0,0,0,0,0,0,0,0,0,0,0,0,0,0,0,0,0,0,0,0,0,0,0,0,0,0,0,0,0,0,0,0,0,0,0,0,0,0,0,0,0,0,0,0,0,0,0,0,0,0,0,0,0,0,0,0,0,0,0,0,0,0,0,0,0,0,0,0,0,0,0,0,0,0,0,0,0,0,0,0,0,0,0,0,0,0,0,0,0,0,0,0,0,0,0,0,0,0,0,0,0,0,0,0]
theorem tab_at (T:List UInt8) (h':(List.range 256).all (fun x=>match T[x]? with | some b=>decide (x<2 ^ b.toNat)&&(decide (b.toNat=0)||decide (2 ^ (b.toNat-1)<=x))&&decide (b.toNat<=8) | none=>false)=true) (x:Nat) (hx:x<256) :
  ∃ b,(⟨T.toArray⟩:ByteArray)[x]? = some b/\ve x b.toNat/\b.toNat<=8:=by
 have h2:=List.all_eq_true.1 h' x (List.mem_range.2 hx)
 cases hb:T[x]? with
 | none=>rw[hb] at h2;cases h2
 | some b =>
  rw[hb] at h2
  simp only[Bool.and_eq_true,Bool.or_eq_true,decide_eq_true_eq] at h2
  refine ⟨b,?_,h2.1,h2.2⟩
  have hs:x<T.length:=by
   rcases Nat.lt_or_ge x T.length with h | h
   ·exact h
   ·rw[List.getElem?_eq_none h] at hb;cases hb
  rw[getElem?_pos _ _ (by simpa [ByteArray.size] using hs)]
  rw[List.getElem?_eq_getElem hs] at hb
  exact hb
theorem tab8_at (x:Nat) (hx:x<256):∃ b,(⟨tab8.toArray⟩:ByteArray)[x]? = some b/\ve x b.toNat/\b.toNat<=8:=tab_at tab8 (by kernel_rfl) x hx
theorem tabV_at (T:List UInt8) (h':(List.range 33).all (fun k=>match T[k]? with | some b=>decide (b.toNat=if k<=7 then 1 else if k<=14 then 2 else if k<=21 then 3 else if k<=28 then 4 else 5) | none=>false)=true) (k:Nat) (hk:k<=32) :
  ∃ b,(⟨T.toArray⟩:ByteArray)[k]? = some b/\b.toNat=if k<=7 then 1 else if k<=14 then 2 else if k<=21 then 3 else if k<=28 then 4 else 5:=by
 have h2:=List.all_eq_true.1 h' k (List.mem_range.2 zH)
 cases hb:T[k]? with
 | none=>rw[hb] at h2;cases h2
 | some b =>
  rw[hb] at h2
  refine ⟨b,?_,of_decide_eq_true h2⟩
  have hs:k<T.length:=by
   rcases Nat.lt_or_ge k T.length with h | h
   ·exact h
   ·rw[List.getElem?_eq_none h] at hb;cases hb
  rw[getElem?_pos _ _ (by simpa [ByteArray.size] using hs)]
  rw[List.getElem?_eq_getElem hs] at hb
  exact hb
theorem tabU_at (k:Nat) (hk:k<=32):∃ b,(⟨tabU.toArray⟩:ByteArray)[k]? = some b/\b.toNat=if k<=7 then 1 else if k<=14 then 2 else if k<=21 then 3 else if k<=28 then 4 else 5:=tabV_at tabU (by kernel_rfl) k hk
def uvl (n:Nat):Nat:=if n<128 then 1 else if n<16384 then 2 else if n<2097152 then 3 else if n<268435456 then 4 else 5
theorem ka {n:Nat} (hn:n<4294967296):(uvl n=1/\n<128)\/(uvl n=2/\128<=n/\n<16384)\/(uvl n=3/\16384<=n/\n<2097152)\/(uvl n=4/\2097152<=n/\n<268435456)\/(uvl n=5/\268435456<=n/\n<4294967296):=by
 unfold uvl
 by_cases h1:n<128
 ·rw[if_pos h1];omega
 rw[if_neg h1]
 by_cases h2:n<16384
 ·rw[if_pos h2];omega
 rw[if_neg h2]
 by_cases h3:n<2097152
 ·rw[if_pos h3];omega
 rw[if_neg h3]
 by_cases h4:n<268435456
 ·rw[if_pos h4];omega
 rw[if_neg h4];omega
theorem uvl_bit {n k:Nat} (h:ve n k) (hk:k<=32):(if k<=7 then 1 else if k<=14 then 2 else if k<=21 then 3 else if k<=28 then 4 else 5)=uvl n:=by
 obtain ⟨h1,h2⟩:=h
 have hp:∀ i j:Nat,i<=j->(2:Nat) ^ i<=2 ^ j:=fun i j h=>Nat.pow_le_pow_right (by decide) h
 unfold uvl
 by_cases h7:k<=7
 ·have:=hp k 7 h7
  simp[h7,show n<128 by omega]
 ·have a1:=hp 7 (k-1) zH
  by_cases h14:k<=14
  ·have:=hp k 14 h14
   simp[h7,h14,show ¬ n<128 by omega,show n<16384 by omega]
  ·have a2:=hp 14 (k-1) zH
   by_cases h21:k<=21
   ·have:=hp k 21 h21
    simp[h7,h14,h21,show ¬ n<128 by omega,show ¬ n<16384 by omega,show n<2097152 by omega]
   ·have a3:=hp 21 (k-1) zH
    by_cases h28:k<=28
    ·have:=hp k 28 h28
     simp[h7,h14,h21,h28,show ¬ n<128 by omega,show ¬ n<16384 by omega,show ¬ n<2097152 by omega,show n<268435456 by omega]
    ·have a4:=hp 28 (k-1) zH
     simp[h7,h14,h21,h28,show ¬ n<128 by omega,show ¬ n<16384 by omega,show ¬ n<2097152 by omega,show ¬ n<268435456 by omega]
theorem bit_shift {n b m L:Nat} (hb:b<=24) (hm:m=n / 2 ^ b) (hL:ve m L) (h8:L<=8) (h1:b=0\/1<=m):ve n (b+L):=by
 obtain ⟨h2,h3⟩:=hL
 have hpos:0<2 ^ b:=Nat.pow_pos (by decide)
 refine ⟨?_,?_⟩
 ·rw[Nat.pow_add,Nat.mul_comm]
  rw[hm] at h2
  exact (Nat.div_lt_iff_lt_mul hpos).1 h2
 ·rcases h3 with h3 | h3
  ·subst h3
   rw[Nat.pow_zero] at h2
   rcases h1 with h1 | h1
   ·left;omega
   ·omega
  ·by_cases hL0:L=0
   ·subst hL0
    rw[Nat.pow_zero] at h2
    rcases h1 with h1 | h1
    ·left;omega
    ·omega
   ·right
    rw[show b+L-1=(L-1)+b by omega,Nat.pow_add]
    rw[hm] at h3
    exact (Nat.le_div_iff_mul_le hpos).1 h3
def noG (l:List Oper):Bool:=l.all fun o=>o.guard.isNone
theorem vc_rg' {P:Program} {Q:Exit->Act->World->Prop} {a:Act} {w:World} {l:List Oper} (hg:noG l=true) (h:rO_ P Q l a w):vc P (rg l) Q a w :=
 vR (fun o ho=>by have:=List.all_eq_true.1 hg o ho;simpa using this) h
section
variable {P : Program} {a : Act} {w : World} {r : List Oper} {Q : Exit → Act → World → Prop}
theorem r_andN {d xt x c yt ty p af g} {n:Nat} (hx:a.eval x=.int .u32 (n:Int)) (hc:c=.const (.int .u32 127)) (hn:n<4294967296) (h:rO_ P Q r (a.put (some d) (.int .u32 ((n % 128:Nat):Int))) w):rO_ P Q (⟨some d,.binOp .and xt x c yt,ty,p,af,g⟩::r) a w:=by
 subst hc
 refine yO (v:=.int .u32 ((n % 128:Nat):Int)) hx rfl zS ?_ h
 have:=u32_and_nat n 127 hn (by decide)
 rw[show n &&& 127=n % 128 from Nat.and_two_pow_sub_one_eq_mod n 7] at this
 show (pure (Value.int .u32 (bits .and .u32 (n:Int) 127)):Sem Value)=_
 rw[show (127:Int)=((127:Nat):Int) from rfl,this]
theorem r_orN {d xt x c yt ty p af g} {n : Nat} (hx : a.eval x = .int .u32 (n : Int)) (hc : c = .const (.int .u32 128)) (hn : n < 128) (h : rO_ P Q r (a.put (some d) (.int .u32 ((n + 128 : Nat) : Int))) w) : rO_ P Q (⟨some d, .binOp .or xt x c yt, ty, p, af, g⟩ :: r) a w := by
  subst hc
  refine yO (v := .int .u32 ((n + 128 : Nat) : Int)) hx rfl zS ?_ h
  have := u32_or_nat n 128 zH (by decide)
  rw [show n ||| 128 = n + 128 by have : ∀ n, n < 128 → n ||| 128 = n + 128 := by decide
                                  exact this n hn] at this
  show (pure (Value.int .u32 (bits .or .u32 (n : Int) 128)) : Sem Value) = _
  rw [show (128 : Int) = ((128 : Nat) : Int) from rfl, this]
theorem jN {d xt x c yt ty p af g} {n k mm:Nat} (hx:a.eval x=.int .u32 (n:Int)) (hc:c=.const (.int .u64 (k:Int))) (hm:2 ^ (min k 32)=mm) (h:rO_ P Q r (a.put (some d) (.int .u32 ((n / mm:Nat):Int))) w):rO_ P Q (⟨some d,.binOp .shr xt x c yt,ty,p,af,g⟩::r) a w:=by
 subst hc
 subst hm
 refine r_shr hx rfl zS ?_
 have:(n:Int).fdiv (2 ^ (min ((k:Int).toNat) IntKind.u32.bits))=((n / 2 ^ (min k 32):Nat):Int):=by
  rw[Int.fdiv_eq_ediv_of_nonneg _ (Int.le_of_lt (Int.pow_pos (by decide)))]
  simp[IntKind.bits]
 rw[this]
 exact h
end
section
variable {P : Program} {E : Env} {w : World} {U : Nat}
set_option maxRecDepth 20000 in
theorem k_len32 (ht:Text P E.len32 1 19 #[.tmp 2] (vu E)) (i8:qr P E.tU8=some .u8) (iu:qr P E.tW=some .u32) (ii:qr P E.tI=some .i64) (hs9:P.underlying E.tStr=some .string) {n:Nat} (hn:n<4294967296) :
  qa P E.len32 #[.int .u32 n] w fun v w'=>(∃ k:Nat,v=.int .i64 k/\k<=32/\ve n k)/\w'=w:=by
 refine qa.enter ht zS ?_
 intro a hsz hdf harg
 have e0:=harg 0 (.int .u32 n) zS
 unfold vu
 refine vX (rA (dn ?_))
 have t2:∀ (A:Act) (b m:Nat),A.tmps.size=19->A.defers=[]->A.eval (.tmp 0)=.int .u32 (m:Int)->A.eval (.tmp 2)=.int .i64 (b:Int)->b<=24->m=n / 2 ^ b->m<256->(b=0\/1<=m) →
   vc P (sq [(rg [(oQ 13 (.move (.tmp 2)) E.tI),(oQ 14 (.move (.tmp 0)) E.tW),(oQ 15 (.convert E.tW E.tU8 (.tmp 14)) E.tU8),(oQ 16 (.index E.tStr (.const (.string ⟨tab8.toArray⟩)) (.tmp 15)) E.tU8),
    (oQ 17 (.convert E.tU8 E.tI (.tmp 16)) E.tI),(oQ 18 (.binOp .add E.tI (.tmp 13) (.tmp 17) E.tI) E.tI),(oQ 2 (.assign (.tmp 18)) E.tI)]),.ret]) (Out P #[.tmp 2] fun v w'=>(∃ k:Nat,v=.int .i64 k/\k<=32/\ve n k)/\w'=w) A w:=by
  intro A b m hs hd h0 h2 hb hm h256 hb1
  obtain ⟨L,hL,hbl,hL8⟩:=tab8_at m h256
  refine vX (rM (rM ?_))
  refine qL (by assumption) (by assumption) zM ?_
  refine yi (k:=.u8) (j:=m) (b:=L) (s:=⟨tab8.toArray⟩) hs9 (xg _ _) ?_ hL ?_
  ·simp (disch:=(try simp only[sP]);omega) only[eV]
   rw[kQ]
   congr 1
   omega
  refine qL (by assumption) (by assumption) zM ?_
  refine xN (k:=.i64) (m:=b) (n:=(L.toNat:Int)) zA ?_ ?_
  ·simp (disch:=(try simp only[sP]);omega) only[eV]
   rw[wrap_i64 zH zH]
  refine rA (dn (vS (vT ?_)))
  refine ⟨by simp only[dF];exact hd,.int .i64 ((b+L.toNat:Nat):Int),rO ?_,⟨b+L.toNat,rfl,by omega,bit_shift hb hm hbl hL8 hb1⟩,rfl⟩
  simp (disch:=(try simp only[sP]);omega) only[eV]
  rw[wrap_i64 zH zH]
  simp
 have t1:∀ (A:Act) (b m:Nat),A.tmps.size=19->A.defers=[]->A.eval (.tmp 0)=.int .u32 (m:Int)->A.eval (.tmp 2)=.int .i64 (b:Int)->(b=0\/b=16)->m=n / 2 ^ b->m<65536->(b=0\/1<=m) →
   vc P (sq (sq [(rg [(oQ 7 (.move (.tmp 0)) E.tW),(oQ 8 (.binOp .geq E.tW (.tmp 7) (.const (.int .u32 256)) E.tW) E.tO)]),
    (.cond (.tmp 8) (sq [(rg [(oQ 9 (.move (.tmp 0)) E.tW),(oQ 10 (.binOp .shr E.tW (.tmp 9) (.const (.int .u64 8)) E.tUint) E.tW),(oQ 0 (.assign (.tmp 10)) E.tW)]),
     (rg [(oQ 11 (.move (.tmp 2)) E.tI),(oQ 12 (.binOp .add E.tI (.tmp 11) (.const (.int .i64 8)) E.tI) E.tI),(oQ 2 (.assign (.tmp 12)) E.tI)])]) .skip)] ::
    [(rg [(oQ 13 (.move (.tmp 2)) E.tI),(oQ 14 (.move (.tmp 0)) E.tW),(oQ 15 (.convert E.tW E.tU8 (.tmp 14)) E.tU8),(oQ 16 (.index E.tStr (.const (.string ⟨tab8.toArray⟩)) (.tmp 15)) E.tU8),
    (oQ 17 (.convert E.tU8 E.tI (.tmp 16)) E.tI),(oQ 18 (.binOp .add E.tI (.tmp 13) (.tmp 17) E.tI) E.tI),(oQ 2 (.assign (.tmp 18)) E.tI)]),.ret])) (Out P #[.tmp 2] fun v w'=>(∃ k:Nat,v=.int .i64 k/\k<=32/\ve n k)/\w'=w) A w:=by
  intro A b m hs hd h0 h2 hb hm h16 hb1
  refine vS (vX (rM ?_))
  refine kX zM zM ?_
  refine dn ?_
  refine vS (vC (t:=decide ((m:Int) ≥ 256)) zM ?_ ?_)
  ·intro hge
   simp only[decide_eq_true_eq] at hge
   refine vX (rM ?_)
   refine jN (n:=m) (k:=8) (mm:=256) zA rfl (by decide) ?_
   refine rA (dn (vX (rM ?_)))
   refine xN zM zM ?_
   refine rA (dn (vN (vN ?_)))
   refine t2 _ (b+8) (m / 256) (by simp only[zP];exact hs) (by simp only[dF];exact hd) zM ?_ zH ?_ zH zH
   ·simp (disch:=(try simp only[sP]);omega) only[eV]
    rw[wrap_i64 zH zH]
    rfl
   ·rw[hm,Nat.pow_add,Nat.div_div_eq_div_mul]
  ·intro hlt
   simp only[decide_eq_false_iff_not] at hlt
   refine vK (vN ?_)
   exact t2 _ b m (by simp only[zP];exact hs) (by simp only[dF];exact hd) zA zA zH hm zH hb1
 refine vS (vX (rM ?_))
 refine kX zM zM ?_
 refine dn ?_
 refine vS (vC (t:=decide ((n:Int) ≥ 65536)) zM ?_ ?_)
 ·intro hge
  simp only[decide_eq_true_eq] at hge
  refine vX (rM ?_)
  refine jN (n:=n) (k:=16) (mm:=65536) zA rfl (by decide) ?_
  refine rA (dn (vX (rA (dn (vN (vN ?_))))))
  exact t1 _ 16 (n / 65536) (by simp only[zP];exact hsz) (by simp only[dF];exact hdf) zM zM zH rfl zH zH
 ·intro hlt
  simp only[decide_eq_false_iff_not] at hlt
  refine vK (vN ?_)
  exact t1 _ 0 n (by simp only[zP];exact hsz) (by simp only[dF];exact hdf) zA zM zH zS zH zH
set_option maxRecDepth 20000 in
theorem k_uvLen (ht:Text P E.uvLen 1 8 #[.tmp 2] (gh E)) (hl:Text P E.len32 1 19 #[.tmp 2] (vu E)) (i8:qr P E.tU8=some .u8) (iu:qr P E.tW=some .u32) (ii:qr P E.tI=some .i64) (hs9:P.underlying E.tStr=some .string) {n:Nat} (hn:n<4294967296) :
  qa P E.uvLen #[.int .u32 n] w fun v w'=>v=.int .i64 (uvl n:Nat)/\w'=w:=by
 refine qa.enter ht zS ?_
 intro a hsz hdf harg
 have e0:=harg 0 (.int .u32 n) zS
 unfold gh
 refine vX (rA (dn ?_))
 refine vS (vc_rg' rfl ?_)
 refine rM ?_
 refine q8 (args:=#[.int .u32 n]) ?_ (k_len32 hl i8 iu ii hs9 hn) ?_
 ·simp only[lM]
  simp (disch:=(try simp only[sP]);omega) only[eV,e0]
 rintro v w' ⟨⟨k,rfl,hk,hbl⟩,rfl⟩
 obtain ⟨b,hb,hbv⟩:=tabU_at k hk
 rw[uvl_bit hbl hk] at hbv
 refine qL (by assumption) (by assumption) zM ?_
 refine yi (k:=.u8) (j:=k) (b:=b) (s:=⟨tabU.toArray⟩) hs9 (xg _ _) ?_ hb ?_
 ·simp (disch:=(try simp only[sP]);omega) only[eV]
  rw[kQ]
  congr 1
  omega
 refine qL (by assumption) (by assumption) zM ?_
 refine rA (dn (vS (vT ?_)))
 refine ⟨by simp only[dF];exact hdf,.int .i64 (uvl n:Nat),rO ?_,rfl,rfl⟩
 have hu5:uvl n<=5:=by have:=ka hn;omega
 simp (disch:=(try simp only[sP]);omega) only[eV]
 rw[hbv,wrap_i64 zH zH]
theorem jr {f n:Nat} (h:n<128):uvF (f+1) n=[UInt8.ofNat n]:=by simp[uvF,h]
theorem jb {f n:Nat} (h:128<=n):uvF (f+1) n=UInt8.ofNat (n % 128+128)::uvF f (n / 128):=by
 simp[uvF,Nat.not_lt.2 h]
theorem o8_nat (n:Nat):o8 (IntKind.u8.wrap (n:Int))=UInt8.ofNat n:=by
 rw[kQ]
 unfold o8
 apply UInt8.toNat_inj.1
 rw[UInt8.toNat_ofNat',UInt8.toNat_ofNat']
 omega
theorem uvar_1 {n:Nat} (h0:0<=n) (h1:n<128):Go.Km.uvar n=[IntKind.u8.wrap ((n:Nat):Int)].map o8:=by
 simp only[List.map_cons,List.map_nil,o8_nat]
 unfold Go.Km.uvar
 rw[jr zH]
theorem uvar_2 {n:Nat} (h0:128<=n) (h1:n<16384):Go.Km.uvar n=[IntKind.u8.wrap ((n % 128+128:Nat):Int),IntKind.u8.wrap ((n / 128:Nat):Int)].map o8:=by
 simp only[List.map_cons,List.map_nil,o8_nat]
 unfold Go.Km.uvar
 rw[jb zH]
 rw[jr zH]
theorem uvar_3 {n:Nat} (h0:16384<=n) (h1:n<2097152):Go.Km.uvar n=[IntKind.u8.wrap ((n % 128+128:Nat):Int),IntKind.u8.wrap ((n / 128 % 128+128:Nat):Int),IntKind.u8.wrap ((n / 16384:Nat):Int)].map o8:=by
 simp only[List.map_cons,List.map_nil,o8_nat]
 unfold Go.Km.uvar
 rw[jb zH]
 rw[jb zH]
 rw[jr zH]
 simp only[Nat.div_div_eq_div_mul]
theorem uvar_4 {n:Nat} (h0:2097152<=n) (h1:n<268435456):Go.Km.uvar n=[IntKind.u8.wrap ((n % 128+128:Nat):Int),IntKind.u8.wrap ((n / 128 % 128+128:Nat):Int),IntKind.u8.wrap ((n / 16384 % 128+128:Nat):Int),IntKind.u8.wrap ((n / 2097152:Nat):Int)].map o8:=by
 simp only[List.map_cons,List.map_nil,o8_nat]
 unfold Go.Km.uvar
 rw[jb zH]
 rw[jb zH]
 rw[jb zH]
 rw[jr zH]
 simp only[Nat.div_div_eq_div_mul]
theorem uvar_5 {n:Nat} (h0:268435456<=n) (h1:n<4294967296):Go.Km.uvar n=[IntKind.u8.wrap ((n % 128+128:Nat):Int),IntKind.u8.wrap ((n / 128 % 128+128:Nat):Int),IntKind.u8.wrap ((n / 16384 % 128+128:Nat):Int),IntKind.u8.wrap ((n / 2097152 % 128+128:Nat):Int),IntKind.u8.wrap ((n / 268435456:Nat):Int)].map o8:=by
 simp only[List.map_cons,List.map_nil,o8_nat]
 unfold Go.Km.uvar
 rw[jb zH]
 rw[jb zH]
 rw[jb zH]
 rw[jb zH]
 rw[jr zH]
 simp only[Nat.div_div_eq_div_mul]
def Keep (w:World) (v v':Value) (w':World):Prop:=(∀ k,k<w.heap.size->v.ownBlock≠some k->w'.heap[k]? = w.heap[k]?)/\∀ g,v'.ownBlock=some g->v.ownBlock=some g\/w.heap.size<=g
def Wr1K (P:Program) (E:Env) (F:FuncId) (U:Nat) (args:List Value) (bs:List UInt8) (w:World):Prop :=
 ∀ dv (xs:List UInt8),w.ownsRow U E.tU8 1 dv xs.length (xs.map bv)->U<=w.heap.size->xs.length+bs.length<=big →
  qa P F (#[dv]++args.toArray) w fun v' w'=>w'.ownsRow U E.tU8 1 v' (xs++bs).length ((xs++bs).map bv)/\Below U w w'/\Keep w dv v' w'
theorem _root_.Go.World.ownsG.keep {w w':World} {U:Gd} {e s n:Nat} {v v':Value} {xs:List Value} (h:w.ownsG U e s v n xs) (hk:Keep w v v' w'):KeptG w' U.g e:=by
 intro b o hb
 obtain ⟨h1,h2⟩:=h.kept b o hb
 refine ⟨?_,h2⟩
 rw[hk.1 b (Array.getElem?_eq_some_iff.1 h1).1 (fun e1=>?_)]
 ·exact h1
 ·rcases h.own.2 with ⟨rfl,_⟩ | ⟨g,cap,cur,rfl,_,h3,_⟩
  ·cases e1
  ·simp only[Value.ownBlock,Option.some.injEq] at e1
   subst e1
   rw[h1] at h3
   exact h2 cur (Option.some.inj h3)
theorem Wr1K.one {P:Program} {E:Env} {F:FuncId} {U:Gd} {args:List Value} {bs:List UInt8} {w:World} (h:Wr1K P E F U.u args bs w):Wr1 P E F U args bs w :=
 fun dv xs h1 h2 h3=>(h dv xs h1.own h2 h3).mono fun _ _ ⟨a,b,c⟩=>⟨⟨a,h1.keep c⟩,b⟩
theorem r_appendK {P:Program} {a:Act} {w:World} {r:List Oper} {Q:Exit->Act->World->Prop} {d s x t tx ty p af g e sz U v n xs u m news} (hB:xe P t e sz=true) (hs:a.eval s=v) (hx:a.eval x=u) (hown:w.ownsRow U e sz v n xs) (hU:U<=w.heap.size) (hsrc:Src P sz tx u m news w) (hb:n+m<=big)
  (h:∀ v' w',w'.ownsRow U e sz v' (n+m) (xs++news)->Below U w w'->Keep w v v' w'->rO_ P Q r (a.put (some d) v') w') :
  rO_ P Q (⟨some d,.call { callee:=.builtin .append,args:=#[s,x],argTypes:=#[t,tx] },ty,p,af,g⟩::r) a w:=by
 refine st ?_
 obtain ⟨v',w',hr,h1,h2,h3⟩:=jl w U t tx ty e sz hB v n xs hown u m news hsrc hb hU
 subst hs;subst hx
 simp only[Oper.wp,execOp,resolve,invoke,builtin,Sem.run_bind,Sem.run_pure,Result.andThen_ok,List.map_toArray,List.map_cons,List.map_nil,hr,Oper.upon_value]
 exact h v' w' h1 (jH hown h2 hU) ⟨fun k hk hne=>h2.block k hk (fun e=>hne e.symm),h3⟩
theorem kW {P:Program} {a:Act} {w:World} {r:List Oper} {Q:Exit->Act->World->Prop} {d d2 s:Nat} {t n ps ty p af g ty2 p2 af2 g2 e U v} {xs:List UInt8} {zs:List Int} (hB:xe P t e 1=true) (hp:(ps.map fun (x:Nat × Operand)=>(x.1,a.eval x.2)).toList=((zs.map fun z=>Value.int .u8 z).zipIdx 0).map fun x=>(x.2,x.1)) (h8:∀ z ∈ zs,0<=z/\z<256) (hn:zs.length=n)
  (hlim:n<=1000) (hn0:0<n) (hs:a.eval (.tmp s)=v) (hsd:d≠s) (hd:d<a.tmps.size) (hown:w.ownsRow U e 1 v xs.length (xs.map bv)) (hU:U<=w.heap.size) (hb:xs.length+n<=big)
  (h:∀ v' w',w'.ownsRow U e 1 v' (xs++zs.map o8).length ((xs++zs.map o8).map bv)->Below U w w'/\Keep w v v' w'->rO_ P Q r ((a.put (some d) (.slice (some ⟨w.heap.size,0,none⟩) n n)).put (some d2) v') w') :
  rO_ P Q (⟨some d,.buildSlice t n ps,ty,p,af,g⟩::⟨some d2,.call { callee:=.builtin .append,args:=#[.tmp s,.tmp d],argTypes:=#[t,t] },ty2,p2,af2,g2⟩::r) a w:=by
 refine xz (s:=1) (vs:=zs.map fun z=>.int .u8 z) hB hp (by simpa using hn) (by intro v hv;obtain ⟨z,_,rfl⟩:=List.mem_map.1 hv;rfl) zH hn0 ?_
 have hcs:((zs.map fun z=>Value.int .u8 z).flatMap fun v=>v.cells.toList)=(zs.map o8).map bv:=by
  rw[map_o8 h8,flat_u8]
 rw[hcs]
 refine r_appendK (sz:=1) (m:=n) (U:=U) (v:=v) (n:=xs.length) (xs:=xs.map bv) (news:=(zs.map o8).map bv) hB (by rw[qi _ _ _ _ hsd];exact hs) (qD _ _ _ hd) (hown.alloc _) (by simp;omega) ?_ hb ?_
 ·refine xW (rB hB) ?_ (by simp[hn]) (xm _)
  intro j u hu
  rw[Nat.zero_add]
  exact qs w _ e (by simpa using hu)
 ·intro v' w' h1 h2 h3
  refine h v' w' (by simpa [hn] using h1) ⟨((Below.refl U w).alloc (o:=.cells _ e) hU).trans h2,fun k hk hne=>?_,fun g hg=>?_⟩
  ·rw[h3.1 k (by simp;omega) hne]
   exact Below.heap_alloc w _ k hk
  ·rcases h3.2 g hg with h | h
   ·exact .inl h
   ·exact .inr (by simp at h;omega)
theorem k_uvarK (ht:Text P E.wUvarint 2 93 #[.tmp 4] (yp E)) (htl:Text P E.uvLen 1 8 #[.tmp 2] (gh E)) (hl:Text P E.len32 1 19 #[.tmp 2] (vu E)) (hB:xe P E.tB E.tU8 1=true) (i8:qr P E.tU8=some .u8) (iu:qr P E.tW=some .u32) (ii:qr P E.tI=some .i64) (hs9:P.underlying E.tStr=some .string)
  {n:Nat} (hn:n<4294967296):Wr1K P E E.wUvarint U [.int .u32 n] (Go.Km.uvar n) w:=by
 intro dv xs hown hU hb
 refine qa.enter ht zS ?_
 intro a hsz hdf harg
 have e0:=harg 0 dv zS
 have e1:=harg 1 (.int .u32 n) zS
 unfold yp
 refine vX (rA (dn (vS (vX (rM ?_)))))
 refine q8 (args:=#[.int .u32 n]) ?_ (k_uvLen htl hl i8 iu ii hs9 hn) ?_
 ·simp only[lM]
  simp (disch:=(try simp only[sP]);omega) only[eV,e1]
 rintro v w' ⟨rfl,rfl⟩
 refine dn ?_
 generalize hA:((a.put (some 4) _).put (some 5) _).put (some 6) (.int .i64 ((uvl n:Nat):Int))=A
 have f0:A.eval (.tmp 0)=dv:=by rw[← hA];exact zA
 have f1:A.eval (.tmp 1)=.int .u32 n:=by rw[← hA];exact zA
 have f6:A.eval (.tmp 6)=.int .i64 ((uvl n:Nat):Int):=by rw[← hA];exact zE
 have fs:A.tmps.size=93:=by rw[← hA];simp only[zP];exact hsz
 have fd:A.defers=[]:=by rw[← hA];simp only[dF];exact hdf
 clear hA
 refine vS (qh ?_)
 refine vX ?_
 refine xy (k:=.i64) (m:=((uvl n:Nat):Int)) (n:=5) zA rfl ?_
 refine rA (dn ?_)
 refine vS (vC (t:=((uvl n:Nat):Int)==5) zM ?_ ?_)
 ·intro hk
  have hk':uvl n=5:=by simp only[beq_iff_eq] at hk;omega
  have hr:268435456<=n/\n<4294967296:=by have:=ka hn;omega
  refine vX (rM (rM ?_))
  refine r_andN zM rfl zH ?_
  refine r_orN zM rfl zH ?_
  refine qL (by assumption) (by assumption) zM ?_
  refine rM ?_
  refine jN (n:=n) (k:=7) (mm:=128) zA rfl (by decide) ?_
  refine r_andN zM rfl zH ?_
  refine r_orN zM rfl zH ?_
  refine qL (by assumption) (by assumption) zM ?_
  refine rM ?_
  refine jN (n:=n) (k:=14) (mm:=16384) zA rfl (by decide) ?_
  refine r_andN zM rfl zH ?_
  refine r_orN zM rfl zH ?_
  refine qL (by assumption) (by assumption) zM ?_
  refine rM ?_
  refine jN (n:=n) (k:=21) (mm:=2097152) zA rfl (by decide) ?_
  refine r_andN zM rfl zH ?_
  refine r_orN zM rfl zH ?_
  refine qL (by assumption) (by assumption) zM ?_
  refine rM ?_
  refine jN (n:=n) (k:=28) (mm:=268435456) zA rfl (by decide) ?_
  refine qL (by assumption) (by assumption) zM ?_
  rw[uvar_5 hr.1 hr.2] at hb ⊢
  refine kW (zs:=[IntKind.u8.wrap ((n % 128+128:Nat):Int),IntKind.u8.wrap ((n / 128 % 128+128:Nat):Int),IntKind.u8.wrap ((n / 16384 % 128+128:Nat):Int),IntKind.u8.wrap ((n / 2097152 % 128+128:Nat):Int),IntKind.u8.wrap ((n / 268435456:Nat):Int)]) hB ?_ (by intro z hz;simp only[List.mem_cons,List.not_mem_nil,or_false] at hz;rcases hz with rfl | rfl | rfl | rfl | rfl<;>exact xY _) rfl zH zH zA zH (by simp only[zP];omega) hown hU (by simpa using hb) ?_
  ·simp only[lM]
   simp (disch:=(try simp only[sP]);omega) only[eV]
   rfl
  intro v' w' h1 h2
  refine rA (dn (vS (vT ?_)))
  exact ⟨by simp only[dF];exact fd,v',rO zE,⟨h1,h2⟩⟩
 ·intro hk5
  generalize hA:((A.put (some _) _).put (some _) _)=B
  have g0:B.eval (.tmp 0)=dv:=by rw[← hA];exact zA
  have g1:B.eval (.tmp 1)=.int .u32 n:=by rw[← hA];exact zA
  have g6:B.eval (.tmp 6)=.int .i64 ((uvl n:Nat):Int):=by rw[← hA];exact zA
  have gs:B.tmps.size=93:=by rw[← hA];simp only[zP];exact fs
  have gd:B.defers=[]:=by rw[← hA];simp only[dF];exact fd
  clear hA f0 f1 f6 fs fd
  revert B
  intro A f0 f1 f6 fs fd
  refine vX ?_
  refine xy (k:=.i64) (m:=((uvl n:Nat):Int)) (n:=4) zA rfl ?_
  refine rA (dn ?_)
  refine vS (vC (t:=((uvl n:Nat):Int)==4) zM ?_ ?_)
  ·intro hk
   have hk':uvl n=4:=by simp only[beq_iff_eq] at hk;omega
   have hr:2097152<=n/\n<268435456:=by have:=ka hn;omega
   refine vX (rM (rM ?_))
   refine r_andN zM rfl zH ?_
   refine r_orN zM rfl zH ?_
   refine qL (by assumption) (by assumption) zM ?_
   refine rM ?_
   refine jN (n:=n) (k:=7) (mm:=128) zA rfl (by decide) ?_
   refine r_andN zM rfl zH ?_
   refine r_orN zM rfl zH ?_
   refine qL (by assumption) (by assumption) zM ?_
   refine rM ?_
   refine jN (n:=n) (k:=14) (mm:=16384) zA rfl (by decide) ?_
   refine r_andN zM rfl zH ?_
   refine r_orN zM rfl zH ?_
   refine qL (by assumption) (by assumption) zM ?_
   refine rM ?_
   refine jN (n:=n) (k:=21) (mm:=2097152) zA rfl (by decide) ?_
   refine qL (by assumption) (by assumption) zM ?_
   rw[uvar_4 hr.1 hr.2] at hb ⊢
   refine kW (zs:=[IntKind.u8.wrap ((n % 128+128:Nat):Int),IntKind.u8.wrap ((n / 128 % 128+128:Nat):Int),IntKind.u8.wrap ((n / 16384 % 128+128:Nat):Int),IntKind.u8.wrap ((n / 2097152:Nat):Int)]) hB ?_ (by intro z hz;simp only[List.mem_cons,List.not_mem_nil,or_false] at hz;rcases hz with rfl | rfl | rfl | rfl<;>exact xY _) rfl zH zH zA zH (by simp only[zP];omega) hown hU (by simpa using hb) ?_
   ·simp only[lM]
    simp (disch:=(try simp only[sP]);omega) only[eV]
    rfl
   intro v' w' h1 h2
   refine rA (dn (vS (vT ?_)))
   exact ⟨by simp only[dF];exact fd,v',rO zE,⟨h1,h2⟩⟩
  ·intro hk4
   generalize hA:((A.put (some _) _).put (some _) _)=B
   have g0:B.eval (.tmp 0)=dv:=by rw[← hA];exact zA
   have g1:B.eval (.tmp 1)=.int .u32 n:=by rw[← hA];exact zA
   have g6:B.eval (.tmp 6)=.int .i64 ((uvl n:Nat):Int):=by rw[← hA];exact zA
   have gs:B.tmps.size=93:=by rw[← hA];simp only[zP];exact fs
   have gd:B.defers=[]:=by rw[← hA];simp only[dF];exact fd
   clear hA f0 f1 f6 fs fd
   revert B
   intro A f0 f1 f6 fs fd
   refine vX ?_
   refine xy (k:=.i64) (m:=((uvl n:Nat):Int)) (n:=3) zA rfl ?_
   refine rA (dn ?_)
   refine vS (vC (t:=((uvl n:Nat):Int)==3) zM ?_ ?_)
   ·intro hk
    have hk':uvl n=3:=by simp only[beq_iff_eq] at hk;omega
    have hr:16384<=n/\n<2097152:=by have:=ka hn;omega
    refine vX (rM (rM ?_))
    refine r_andN zM rfl zH ?_
    refine r_orN zM rfl zH ?_
    refine qL (by assumption) (by assumption) zM ?_
    refine rM ?_
    refine jN (n:=n) (k:=7) (mm:=128) zA rfl (by decide) ?_
    refine r_andN zM rfl zH ?_
    refine r_orN zM rfl zH ?_
    refine qL (by assumption) (by assumption) zM ?_
    refine rM ?_
    refine jN (n:=n) (k:=14) (mm:=16384) zA rfl (by decide) ?_
    refine qL (by assumption) (by assumption) zM ?_
    rw[uvar_3 hr.1 hr.2] at hb ⊢
    refine kW (zs:=[IntKind.u8.wrap ((n % 128+128:Nat):Int),IntKind.u8.wrap ((n / 128 % 128+128:Nat):Int),IntKind.u8.wrap ((n / 16384:Nat):Int)]) hB ?_ (by intro z hz;simp only[List.mem_cons,List.not_mem_nil,or_false] at hz;rcases hz with rfl | rfl | rfl<;>exact xY _) rfl zH zH zA zH (by simp only[zP];omega) hown hU (by simpa using hb) ?_
    ·simp only[lM]
     simp (disch:=(try simp only[sP]);omega) only[eV]
     rfl
    intro v' w' h1 h2
    refine rA (dn (vS (vT ?_)))
    exact ⟨by simp only[dF];exact fd,v',rO zE,⟨h1,h2⟩⟩
   ·intro hk3
    generalize hA:((A.put (some _) _).put (some _) _)=B
    have g0:B.eval (.tmp 0)=dv:=by rw[← hA];exact zA
    have g1:B.eval (.tmp 1)=.int .u32 n:=by rw[← hA];exact zA
    have g6:B.eval (.tmp 6)=.int .i64 ((uvl n:Nat):Int):=by rw[← hA];exact zA
    have gs:B.tmps.size=93:=by rw[← hA];simp only[zP];exact fs
    have gd:B.defers=[]:=by rw[← hA];simp only[dF];exact fd
    clear hA f0 f1 f6 fs fd
    revert B
    intro A f0 f1 f6 fs fd
    refine vX ?_
    refine xy (k:=.i64) (m:=((uvl n:Nat):Int)) (n:=2) zA rfl ?_
    refine rA (dn ?_)
    refine vS (vC (t:=((uvl n:Nat):Int)==2) zM ?_ ?_)
    ·intro hk
     have hk':uvl n=2:=by simp only[beq_iff_eq] at hk;omega
     have hr:128<=n/\n<16384:=by have:=ka hn;omega
     refine vX (rM (rM ?_))
     refine r_andN zM rfl zH ?_
     refine r_orN zM rfl zH ?_
     refine qL (by assumption) (by assumption) zM ?_
     refine rM ?_
     refine jN (n:=n) (k:=7) (mm:=128) zA rfl (by decide) ?_
     refine qL (by assumption) (by assumption) zM ?_
     rw[uvar_2 hr.1 hr.2] at hb ⊢
     refine kW (zs:=[IntKind.u8.wrap ((n % 128+128:Nat):Int),IntKind.u8.wrap ((n / 128:Nat):Int)]) hB ?_ (by intro z hz;simp only[List.mem_cons,List.not_mem_nil,or_false] at hz;rcases hz with rfl | rfl<;>exact xY _) rfl zH zH zA zH (by simp only[zP];omega) hown hU (by simpa using hb) ?_
     ·simp only[lM]
      simp (disch:=(try simp only[sP]);omega) only[eV]
      rfl
     intro v' w' h1 h2
     refine rA (dn (vS (vT ?_)))
     exact ⟨by simp only[dF];exact fd,v',rO zE,⟨h1,h2⟩⟩
    ·intro hk2
     generalize hA:((A.put (some _) _).put (some _) _)=B
     have g0:B.eval (.tmp 0)=dv:=by rw[← hA];exact zA
     have g1:B.eval (.tmp 1)=.int .u32 n:=by rw[← hA];exact zA
     have g6:B.eval (.tmp 6)=.int .i64 ((uvl n:Nat):Int):=by rw[← hA];exact zA
     have gs:B.tmps.size=93:=by rw[← hA];simp only[zP];exact fs
     have gd:B.defers=[]:=by rw[← hA];simp only[dF];exact fd
     clear hA f0 f1 f6 fs fd
     revert B
     intro A f0 f1 f6 fs fd
     refine vX ?_
     refine xy (k:=.i64) (m:=((uvl n:Nat):Int)) (n:=1) zA rfl ?_
     refine rA (dn ?_)
     refine vS (vC (t:=((uvl n:Nat):Int)==1) zM ?_ ?_)
     ·intro hk
      have hk':uvl n=1:=by simp only[beq_iff_eq] at hk;omega
      have hr:0<=n/\n<128:=by have:=ka hn;omega
      refine vX (rM (rM ?_))
      refine qL (by assumption) (by assumption) zM ?_
      rw[uvar_1 hr.1 hr.2] at hb ⊢
      refine kW (zs:=[IntKind.u8.wrap ((n:Nat):Int)]) hB ?_ (by intro z hz;simp only[List.mem_cons,List.not_mem_nil,or_false] at hz;rcases hz with rfl<;>exact xY _) rfl zH zH zA zH (by simp only[zP];omega) hown hU (by simpa using hb) ?_
      ·simp only[lM]
       simp (disch:=(try simp only[sP]);omega) only[eV]
       rfl
      intro v' w' h1 h2
      refine rA (dn (vS (vT ?_)))
      exact ⟨by simp only[dF];exact fd,v',rO zE,⟨h1,h2⟩⟩
     ·intro hk1
      exfalso
      have:uvl n=5\/uvl n=4\/uvl n=3\/uvl n=2\/uvl n=1:=by have:=ka hn;omega
      simp only[beq_eq_false_iff_ne,ne_eq] at hk1 hk2 hk3 hk4 hk5
      omega
theorem k_uvar (ht:Text P E.wUvarint 2 93 #[.tmp 4] (yp E)) (htl:Text P E.uvLen 1 8 #[.tmp 2] (gh E)) (hl:Text P E.len32 1 19 #[.tmp 2] (vu E)) (hB:xe P E.tB E.tU8 1=true) (i8:qr P E.tU8=some .u8) (iu:qr P E.tW=some .u32) (ii:qr P E.tI=some .i64) (hs9:P.underlying E.tStr=some .string)
  {n:Nat} {U:Gd} (hn:n<4294967296):Wr1 P E E.wUvarint U [.int .u32 n] (Go.Km.uvar n) w:=(k_uvarK ht htl hl hB i8 iu ii hs9 hn).one
end
end Go.Km
namespace Go.Km
open Go Go.RowKit
attribute [local irreducible] vc rO_ qz qJ qF
section
variable {P : Program} {a : Act} {w : World} {r : List Oper} {Q : Exit → Act → World → Prop}
theorem wO {d x t ty p af g kt vt n} {v:Value} (ht:P.underlying t=some (.map kt vt)) (hx:a.eval x=v) (hv:(v=.map none/\n=0)\/∃ q es clock,v=.map (some q)/\w.heap[q]? = some (.map es clock)/\es.size=n) (h:rO_ P Q r (a.put (some d) (.int .i64 (n:Nat))) w) :
  rO_ P Q (⟨some d,.call { callee:=.builtin .len,args:=#[x],argTypes:=#[t] },ty,p,af,g⟩::r) a w:=by
 refine st ?_
 have hr:(Builtin.len_ #[t] ty #[a.eval x]).run P w=.ok (.int .i64 (n:Nat)) w:=by
  rw[hx]
  rcases hv with ⟨rfl,rfl⟩ | ⟨q,es,clock,rfl,hq,rfl⟩
  ·simp[Builtin.len_,run_underlying ht,goInt]
  ·have hg:(getObj q).run P w=.ok (.map es clock) w:=by simp[getObj,Sem.run,hq]
   simp[Builtin.len_,run_underlying ht,goInt,hg]
 simp only[Oper.wp,execOp,resolve,invoke,builtin,Sem.run_bind,Sem.run_pure,Result.andThen_ok,List.map_toArray,List.map_cons,List.map_nil,hr,Oper.upon_value]
 exact h
theorem vY {d f xs ys ty p af g} (h:rO_ P Q r (a.put (some d) (.func (.func f) (xs.map a.eval) (ys.map a.eval))) w):rO_ P Q (⟨some d,.makeFunc (.func f) xs ys,ty,p,af,g⟩::r) a w:=by
 refine st ?_
 simp only[Oper.wp,execOp,Instr.makeFunc,Sem.run_bind,Sem.run_pure,Result.andThen_ok,Oper.upon_value]
 exact h
end
def mapB (P:Program) (t:TypeId):Bool:=match P.underlying t with | some (.map _ _)=>true | _=>false
theorem mapB_inv {P:Program} {t:TypeId} (h:mapB P t=true):∃ k v,P.underlying t=some (.map k v):=by
 unfold mapB at h
 split at h
 ·rename_i k v hu;exact ⟨k,v,hu⟩
 ·cases h
section
variable {P : Program} {E : Env} {w : World} {U : Gd}
theorem tags_len {W0:World} {sb:Sb} {B:Nat} {v:Value} {tags:List (Nat × List UInt8)} (h:xR W0 sb B v tags) (hw:Below W0.heap.size W0 w) :
  (v=.map none/\tags.length=0)\/∃ q es clock,v=.map (some q)/\w.heap[q]? = some (.map es clock)/\es.size=tags.length:=by
 obtain ⟨_,_,h⟩:=h
 rcases h with ⟨rfl,rfl⟩ | ⟨q,es,clock,rfl,_,hq,hm,_,_,l,hp,hl,_⟩
 ·exact .inl ⟨rfl,rfl⟩
 ·exact .inr ⟨q,es,clock,rfl,by rw[hw.block q hq];exact hm,by rw[← hl];exact hp.length_eq⟩
theorem k_tlen (ht:Text P E.tLen 1 8 #[.tmp 2] (c_tLen E)) (ho:qQ P E.tTagMap=true) (hf:qk P E.tTags 0=some 0) (hm:mapB P E.tTagMap=true)
  {W0:World} {sb:Sb} {b o:Nat} {v:Value} {tags:List (Nat × List UInt8)} (hc:W0.cell? ⟨b,o,none⟩=some v) (hr:xR W0 sb 0 v tags) (hw:Below W0.heap.size W0 w) :
  qa P E.tLen #[.pointer (some ⟨b,o,none⟩)] w fun r w'=>r=.int .i64 (tags.length:Int)/\Grow w w':=by
 refine qa.enter ht zS ?_
 intro a hsz hdf harg
 have e0:=harg 0 (.pointer (some ⟨b,o,none⟩)) zS
 obtain ⟨kt,vt,hu⟩:=mapB_inv hm
 have hcw:w.cell? ⟨b,o,none⟩=some v:=by rw[hw.cell (p:=⟨b,o,none⟩) (qo hc)];exact hc
 unfold c_tLen
 refine vX (rA (dn (vX (rM ?_))))
 refine qY (ad:=⟨b,o,none⟩) zA ?_
 refine rF (b:=b) (o:=o) zE hf ?_
 refine rL (b:=b) (o:=o) zM ho hcw ?_
 refine wO (v:=v) (n:=tags.length) hu zE (tags_len hr hw) ?_
 refine rA (dn (vS (vT ?_)))
 exact ⟨by simp only[dF];exact hdf,.int .i64 (tags.length:Nat),rO zE,rfl,Eff.refl _ _⟩
theorem k_gAll0 (ht:Text P E.gAll 2 53 #[] (wo E)) (ho:qQ P E.tTagMap=true) (hf:qk P E.tTags 0=some 0) (hm:mapB P E.tTagMap=true)
  {b o:Nat} {v fn:Value} (hcw:w.cell? ⟨b,o,none⟩=some v) (hv:(v=.map none/\(0:Nat)=0)\/∃ q es clock,v=.map (some q)/\w.heap[q]? = some (.map es clock)/\es.size=0) :
  qa P E.gAll #[.pointer (some ⟨b,o,none⟩),fn] w fun r w'=>w'=w:=by
 refine qa.enter ht zS ?_
 intro a hsz hdf harg
 have e0:=harg 0 (.pointer (some ⟨b,o,none⟩)) zS
 obtain ⟨kt,vt,hu⟩:=mapB_inv hm
 unfold wo
 refine vS (vX (rM ?_))
 refine qY (ad:=⟨b,o,none⟩) zA ?_
 refine rF (b:=b) (o:=o) zE hf ?_
 refine rL (b:=b) (o:=o) zM ho hcw ?_
 refine wO (v:=v) (n:=0) hu zE hv ?_
 refine xy (k:=.i64) (m:=((0:Nat):Int)) (n:=0) zE rfl ?_
 refine dn ?_
 refine vS (vC (t:=true) zM ?_ (fun h=>by cases h))
 intro _
 refine vT ?_
 refine ⟨by simp only[dF];exact hdf,.tuple #[],?_,rfl⟩
 simp[results]
theorem k_teach0 (ht:Text P E.tEach 2 9 #[.tmp 4] (gi E)) (hta:Text P E.gAll 2 53 #[] (wo E)) (hob:qQ P E.tB=true) (ho:qQ P E.tTagMap=true) (hf:qk P E.tTags 0=some 0) (hm:mapB P E.tTagMap=true)
  {W0:World} {sb:Sb} {b o:Nat} {v:Value} {tags:List (Nat × List UInt8)} (h0:tags=[]) (hc:W0.cell? ⟨b,o,none⟩=some v) (hr:xR W0 sb 0 v tags) (hw:Below W0.heap.size W0 w)
  {G:Nat->Option Obj} {dv:Value} {xs:List UInt8} (hown:w.ownsG ⟨W0.heap.size,G⟩ E.tU8 1 dv xs.length (xs.map bv)) :
  qa P E.tEach #[.pointer (some ⟨b,o,none⟩),dv] w fun v' w'=>w'.ownsG ⟨W0.heap.size,G⟩ E.tU8 1 v' (xs++(tags.map qT).flatten).length ((xs++(tags.map qT).flatten).map bv)/\Below W0.heap.size w w':=by
 subst h0
 refine qa.enter ht zS ?_
 intro a hsz hdf harg
 have e0:=harg 0 (.pointer (some ⟨b,o,none⟩)) zS
 have e1:=harg 1 dv zS
 have hdc:dv.cells=#[dv]:=by
  rcases hown.own.2 with ⟨rfl,_⟩ | ⟨g,cap,cur,rfl,_⟩<;>rfl
 have hbl:Below W0.heap.size w (w.alloc (.cells dv.cells E.tB)):=(Below.refl _ w).alloc (o:=.cells _ _) hw.size
 have hw1:Below W0.heap.size W0 (w.alloc (.cells dv.cells E.tB)):=hw.trans hbl
 have hcw:(w.alloc (.cells dv.cells E.tB)).cell? ⟨b,o,none⟩=some v:=by rw[hw1.cell (p:=⟨b,o,none⟩) (qo hc)];exact hc
 unfold gi
 refine vX ?_
 refine xI (v:=dv) zA ?_
 refine rA (dn (vX (rM ?_)))
 refine vY ?_
 refine q8 (args:=#[.pointer (some ⟨b,o,none⟩),.func (.func E.gEach1) #[] #[.pointer (some ⟨w.heap.size,0,none⟩)]]) ?_ (k_gAll0 hta ho hf hm hcw (tags_len hr hw1)) ?_
 ·simp only[lM]
  simp (disch:=(try simp only[sP]);omega) only[eV,e0]
 rintro v' w' rfl
 refine dn (vX ?_)
 refine rL (b:=w.heap.size) (o:=0) (v:=dv) zE hob (qs w _ _ (by rw[hdc];rfl)) ?_
 refine rA (dn (vS (vT ?_)))
 refine ⟨by simp only[dF];exact hdf,dv,rO zE,?_,hbl⟩
 simpa using hown.alloc _
end
def on (f:Nat) (c:Bool):Bool:=f==0||c
theorem on_inv {f:Nat} {c:Bool} (h:on f c=true) (hf:f≠0):c=true:=by
 simp only[on,Bool.or_eq_true,beq_iff_eq] at h
 exact h.resolve_left hf
def strB (P:Program) (t:TypeId):Bool:=match P.underlying t with | some .string=>true | _=>false
theorem kb {P:Program} {t:TypeId} (h:strB P t=true):P.underlying t=some .string:=by
 unfold strB at h
 split at h
 ·assumption
 ·cases h
def arrB (P:Program) (t e:TypeId) (n:Nat):Bool:=match P.underlying t with | some (.array n' e')=>n'==n&&e'==e | _=>false
theorem arrB_inv {P:Program} {t e:TypeId} {n:Nat} (h:arrB P t e n=true):P.underlying t=some (.array n e):=by
 unfold arrB at h
 split at h
 ·rename_i n' e' hu
  simp only[Bool.and_eq_true,beq_iff_eq] at h
  obtain ⟨rfl,rfl⟩:=h
  exact hu
 ·cases h
def kB (P:Program) (E:Env):Bool :=
 xe P E.tB E.tU8 1&&(qr P E.tU8==some .u8)&&(qr P E.tI==some .i64)&&qQ P E.tB&&((P.info? E.tU8).map (·.size)==some 1) &&
 on E.wU16 (qr P E.tU16==some .u16)&&on E.wU32 (qr P E.tW==some .u32)&&on E.wU64 (qr P E.tU64==some .u64) &&
 on E.wI8 (qr P E.tI8==some .i8)&&on E.wI16 (qr P E.tI16==some .i16&&E.wU16 != 0)&&on E.wI32 (qr P E.tI32==some .i32&&E.wU32 != 0)&&on E.wI64 (qr P E.tI64==some .i64&&E.wU64 != 0) &&
 on E.wUvarint (qr P E.tW==some .u32&&strB P E.tStr&&E.uvLen != 0&&E.len32 != 0) &&
 on E.wStr (strB P E.tStr&&E.wI16 != 0)&&on E.wCStr (strB P E.tStr&&E.wUvarint != 0) &&
 on E.wNStr (ptrB P E.tPStr&&qQ P E.tStr&&E.wStr != 0&&E.wI16 != 0)&&on E.wCNStr (ptrB P E.tPStr&&qQ P E.tStr&&E.wCStr != 0&&E.wUvarint != 0) &&
 on E.wBytes (E.wI32 != 0)&&on E.wCBytes (E.wUvarint != 0)&&on E.wNBytes (E.wBytes != 0&&E.wI32 != 0)&&on E.wCNBytes (E.wCBytes != 0&&E.wUvarint != 0) &&
 on E.wLen (E.wI32 != 0)&&on E.wCLen (E.wUvarint != 0)&&on E.wNLen (E.wI32 != 0)&&on E.wCNLen (E.wUvarint != 0) &&
 on E.wUuid (arrB P E.tUuid E.tU8 16)&&on E.tLen (qQ P E.tTagMap&&mapB P E.tTagMap&&qk P E.tTags 0==some 0)&&on E.tEach (qQ P E.tTagMap&&mapB P E.tTagMap&&qk P E.tTags 0==some 0&&E.gAll != 0) &&
 on E.wUvarint (qr P E.tW==some .u32)&&(E.wF64==0)
structure KTexts (P:Program) (E:Env):Prop where
 wBool:E.wBool≠0->Text P E.wBool 2 12 #[.tmp 4] (c_wBool E)
 wI8:E.wI8≠0->Text P E.wI8 2 10 #[.tmp 4] (c_wI8 E)
 wI16:E.wI16≠0->Text P E.wI16 2 9 #[.tmp 4] (c_wI16 E)
 wU16:E.wU16≠0->Text P E.wU16 2 13 #[.tmp 4] (c_wU16 E)
 wI32:E.wI32≠0->Text P E.wI32 2 9 #[.tmp 4] (c_wI32 E)
 wU32:E.wU32≠0->Text P E.wU32 2 19 #[.tmp 4] (c_wU32 E)
 wI64:E.wI64≠0->Text P E.wI64 2 9 #[.tmp 4] (c_wI64 E)
 wU64:E.wU64≠0->Text P E.wU64 2 31 #[.tmp 4] (c_wU64 E)
 wUuid:E.wUuid≠0->Text P E.wUuid 2 8 #[.tmp 4] (c_wUuid E)
 wStr:E.wStr≠0->Text P E.wStr 2 13 #[.tmp 4] (c_wStr E)
 wCStr:E.wCStr≠0->Text P E.wCStr 2 14 #[.tmp 4] (c_wCStr E)
 wNStr:E.wNStr≠0->Text P E.wNStr 2 14 #[.tmp 4] (c_wNStr E)
 wCNStr:E.wCNStr≠0->Text P E.wCNStr 2 14 #[.tmp 4] (c_wCNStr E)
 wBytes:E.wBytes≠0->Text P E.wBytes 2 13 #[.tmp 4] (c_wBytes E)
 wCBytes:E.wCBytes≠0->Text P E.wCBytes 2 14 #[.tmp 4] (c_wCBytes E)
 wNBytes:E.wNBytes≠0->Text P E.wNBytes 2 12 #[.tmp 4] (c_wNBytes E)
 wCNBytes:E.wCNBytes≠0->Text P E.wCNBytes 2 12 #[.tmp 4] (wh E)
 wLen:E.wLen≠0->Text P E.wLen 2 9 #[.tmp 4] (c_wLen E)
 wCLen:E.wCLen≠0->Text P E.wCLen 2 10 #[.tmp 4] (c_wCLen E)
 wNLen:E.wNLen≠0->Text P E.wNLen 3 14 #[.tmp 6] (c_wNLen E)
 wCNLen:E.wCNLen≠0->Text P E.wCNLen 3 15 #[.tmp 6] (c_wCNLen E)
 uvLen:E.uvLen≠0->Text P E.uvLen 1 8 #[.tmp 2] (gh E)
 len32:E.len32≠0->Text P E.len32 1 19 #[.tmp 2] (vu E)
 wUvarint:E.wUvarint≠0->Text P E.wUvarint 2 93 #[.tmp 4] (yp E)
 tLen:E.tLen≠0->Text P E.tLen 1 8 #[.tmp 2] (c_tLen E)
 tEach:E.tEach≠0->Text P E.tEach 2 9 #[.tmp 4] (gi E)
 gAll:E.gAll≠0->Text P E.gAll 2 53 #[] (wo E)
theorem envW0 {P:Program} {E:Env} (HT:KTexts P E) (hB:kB P E=true):EnvW P E (fun tags=>tags=[]):=by
 simp only[kB,Bool.and_eq_true,beq_iff_eq,bne_iff_ne,ne_eq] at hB
 obtain ⟨⟨⟨⟨⟨⟨⟨⟨⟨⟨⟨⟨⟨⟨⟨⟨⟨⟨⟨⟨⟨⟨⟨⟨⟨⟨⟨⟨⟨row,u8⟩,ii⟩,ob⟩,s8⟩,oU16⟩,oU32⟩,oU64⟩,oI8⟩,oI16⟩,oI32⟩,oI64⟩,oUv⟩,oStr⟩,oCStr⟩,oNStr⟩,oCNStr⟩,oB⟩,oCB⟩,oNB⟩,oCNB⟩,oL⟩,oCL⟩,oNL⟩,oCNL⟩,oUu⟩,oTl⟩,oTe⟩,oUv2⟩,oF⟩:=hB
 have dec:∀ {f:Nat} {c:Bool},on f c=true->f≠0->c=true:=fun h hf=>on_inv h hf
 have cU16:E.wU16≠0->∀ (n:Int) (U:Gd) w,0<=n/\n<=65535->Wr1 P E E.wU16 U [.int .u16 n] (be 2 n) w:=fun h n U w hn =>
  k_u16 (HT.wU16 h) row (by simpa using dec oU16 h) u8 hn
 have cI16:E.wI16≠0->∀ (n:Int) (U:Gd) w,Wr1 P E E.wI16 U [.int .i16 n] (be 2 n) w:=fun h n U w=>by
  have h2:=dec oI16 h
  simp only[Bool.and_eq_true,beq_iff_eq,bne_iff_ne,ne_eq] at h2
  exact k_i16 (HT.wI16 h) h2.1 (by simpa using dec oU16 h2.2) (cU16 h2.2)
 have cU32:E.wU32≠0->∀ (n:Int) (U:Gd) w,0<=n/\n<=4294967295->Wr1 P E E.wU32 U [.int .u32 n] (be 4 n) w:=fun h n U w hn =>
  k_u32 (HT.wU32 h) row (by simpa using dec oU32 h) u8 hn
 have cI32:E.wI32≠0->∀ (n:Int) (U:Gd) w,Wr1 P E E.wI32 U [.int .i32 n] (be 4 n) w:=fun h n U w=>by
  have h2:=dec oI32 h
  simp only[Bool.and_eq_true,beq_iff_eq,bne_iff_ne,ne_eq] at h2
  exact k_i32 (HT.wI32 h) h2.1 (by simpa using dec oU32 h2.2) (cU32 h2.2)
 have cU64:E.wU64≠0->∀ (n:Int) (U:Gd) w,0<=n/\n<=18446744073709551615->Wr1 P E E.wU64 U [.int .u64 n] (be 8 n) w:=fun h n U w hn =>
  k_u64 (HT.wU64 h) row (by simpa using dec oU64 h) u8 hn
 have cI64:E.wI64≠0->∀ (n:Int) (U:Gd) w,Wr1 P E E.wI64 U [.int .i64 n] (be 8 n) w:=fun h n U w=>by
  have h2:=dec oI64 h
  simp only[Bool.and_eq_true,beq_iff_eq,bne_iff_ne,ne_eq] at h2
  exact k_i64 (HT.wI64 h) h2.1 (by simpa using dec oU64 h2.2) (cU64 h2.2)
 have cUv:E.wUvarint≠0->∀ (n:Nat) (U:Gd) w,n<4294967296->Wr1 P E E.wUvarint U [.int .u32 n] (Go.Km.uvar n) w:=fun h n U w hn=>by
  have h2:=dec oUv h
  simp only[Bool.and_eq_true,beq_iff_eq,bne_iff_ne,ne_eq] at h2
  exact k_uvar (HT.wUvarint h) (HT.uvLen h2.1.2) (HT.len32 h2.2) row u8 h2.1.1.1 ii (kb h2.1.1.2) hn
 have iU32:E.wUvarint≠0->qr P E.tW=some .u32:=fun h=>by simpa using dec oUv2 h
 have iI16:E.wI16≠0->qr P E.tI16=some .i16:=fun h=>by
  have h2:=dec oI16 h
  simp only[Bool.and_eq_true,beq_iff_eq] at h2
  exact h2.1
 have iI32:E.wI32≠0->qr P E.tI32=some .i32:=fun h=>by
  have h2:=dec oI32 h
  simp only[Bool.and_eq_true,beq_iff_eq] at h2
  exact h2.1
 have cStr:E.wStr≠0->∀ (l:List UInt8) (U:Gd) w,Wr1 P E E.wStr U [.string ⟨l.toArray⟩] (xS false l) w:=fun h l U w=>by
  have h2:=dec oStr h
  simp only[Bool.and_eq_true,bne_iff_ne,ne_eq] at h2
  exact k_str (HT.wStr h) row (iI16 h2.2) ii (kb h2.1) (cI16 h2.2)
 have cCStr:E.wCStr≠0->∀ (l:List UInt8) (U:Gd) w,Wr1 P E E.wCStr U [.string ⟨l.toArray⟩] (xS true l) w:=fun h l U w=>by
  have h2:=dec oCStr h
  simp only[Bool.and_eq_true,bne_iff_ne,ne_eq] at h2
  exact k_cstr (HT.wCStr h) row (iU32 h2.2) ii (kb h2.1) (cUv h2.2)
 have cB:E.wBytes≠0->∀ v o (U:Gd) w,jj w U.u v o->Wr1 P E E.wBytes U [v] (xa false (o.getD [])) w:=fun h v o U w hv=>by
  have h2:=dec oB h
  simp only[bne_iff_ne,ne_eq] at h2
  exact k_octs (HT.wBytes h) row (iI32 h2) ii hv (cI32 h2)
 have cCB:E.wCBytes≠0->∀ v o (U:Gd) w,jj w U.u v o->Wr1 P E E.wCBytes U [v] (xa true (o.getD [])) w:=fun h v o U w hv=>by
  have h2:=dec oCB h
  simp only[bne_iff_ne,ne_eq] at h2
  exact k_cocts (HT.wCBytes h) row (iU32 h2) ii hv (cUv h2)
 refine { bytes:=rB row,scal:=?_,uuid:=?_,str:=fun h l U w=>cStr h l U w,cstr:=fun h l U w=>cCStr h l U w,nstr:=?_,cnstr:=?_,octs:=cB,cocts:=cCB,nocts:=?_,cnocts:=?_,len:=?_,clen:=?_,nlen:=?_,cnlen:=?_,uvar:=cUv,tlen:=?_,teach:=?_ }
 ·intro s hs n U w hn
  cases s with
  | bool =>
   have hb:=k_bool (U:=U) (w:=w) (b:=n != 0) (HT.wBool hs) row
   exact hb
  | i8 =>
   have h2:=dec oI8 hs
   simp only[beq_iff_eq] at h2
   exact k_i8 (HT.wI8 hs) row h2 u8
  | i16=>exact cI16 hs n U w
  | i32=>exact cI32 hs n U w
  | i64=>exact cI64 hs n U w
  | u16=>exact cU16 hs n U w hn
  | f64=>exact absurd oF hs
 ·intro h l U w hl
  exact k_uuid (HT.wUuid h) row hl (arrB_inv (dec oUu h)) s8
 ·intro h v o U w hv
  have h2:=dec oNStr h
  simp only[Bool.and_eq_true,bne_iff_ne,ne_eq] at h2
  obtain ⟨te,hte⟩:=wQ h2.1.1.1
  exact k_nstr (HT.wNStr h) hte h2.1.1.2 hv (cI16 h2.2) (cStr h2.1.2)
 ·intro h v o U w hv
  have h2:=dec oCNStr h
  simp only[Bool.and_eq_true,bne_iff_ne,ne_eq] at h2
  obtain ⟨te,hte⟩:=wQ h2.1.1.1
  exact k_cnstr (HT.wCNStr h) hte h2.1.1.2 hv (cUv h2.2) (cCStr h2.1.2)
 ·intro h v o U w hv
  have h2:=dec oNB h
  simp only[Bool.and_eq_true,bne_iff_ne,ne_eq] at h2
  exact k_nocts (HT.wNBytes h) row hv (cI32 h2.2) (cB h2.1)
 ·intro h v o U w hv
  have h2:=dec oCNB h
  simp only[Bool.and_eq_true,bne_iff_ne,ne_eq] at h2
  exact k_cnocts (HT.wCNBytes h) row hv (cUv h2.2) (cCB h2.1)
 ·intro h n U w hn
  have h2:=dec oL h
  simp only[bne_iff_ne,ne_eq] at h2
  exact k_len (HT.wLen h) (iI32 h2) ii hn (cI32 h2)
 ·intro h n U w hn
  have h2:=dec oCL h
  simp only[bne_iff_ne,ne_eq] at h2
  exact k_clen (HT.wCLen h) (iU32 h2) ii hn (cUv h2)
 ·intro h n b U w hn
  have h2:=dec oNL h
  simp only[bne_iff_ne,ne_eq] at h2
  exact k_nlen (HT.wNLen h) (iI32 h2) ii hn (cI32 h2)
 ·intro h n b U w hn
  have h2:=dec oCNL h
  simp only[bne_iff_ne,ne_eq] at h2
  exact k_cnlen (HT.wCNLen h) (iU32 h2) ii hn (cUv h2)
 ·intro h W0 sb b o v tags w _ hc hr hw
  have h2:=dec oTl h
  simp only[Bool.and_eq_true,beq_iff_eq] at h2
  exact k_tlen (HT.tLen h) h2.1.1 h2.2 h2.1.2 hc hr hw
 ·intro h W0 sb b o v tags w hT hc hr hw G dv xs hown hb
  have h2:=dec oTe h
  simp only[Bool.and_eq_true,beq_iff_eq,bne_iff_ne,ne_eq] at h2
  have h0:tags=[]:=by
   have:=hr.2.1
   rw[hT] at this
   exact this
  exact k_teach0 (HT.tEach h) (HT.gAll h2.2) ob h2.1.1.1 h2.1.2 h2.1.1.2 h0 hc hr hw hown
end Go.Km
namespace Go.Km
open Go Go.RowKit
attribute [local irreducible] vc rO_ qz qJ qF
section
variable {P : Program} {a : Act} {w : World} {Q : Exit → Act → World → Prop}
theorem xG {body:Code} (I:Nat->Act->World->Prop) (n:Nat) (h0:I n a w) (step:∀ m a w,I (m+1) a w->vc P body (Exit.then (I m) Q) a w) (done:∀ a w,I 0 a w->vc P body (Exit.then (fun _ _=>False) Q) a w):vc P (.loop body) Q a w:=by
 classical
 have hmin:∀ (p:Nat->Prop) (m:Nat),p m->∃ k,k<=m/\p k/\∀ j,j<k->¬ p j:=by
  intro p m
  induction m using Nat.strongRecOn with
  | ind m ih =>
   intro hm
   by_cases h:∃ j,j<m/\p j
   ·obtain ⟨j,hj,hp⟩:=h
    obtain ⟨k,hk,hpk,hl⟩:=ih j hj hp
    exact ⟨k,by omega,hpk,hl⟩
   ·exact ⟨m,Nat.le_refl _,hm,fun j hj hp=>h ⟨j,hj,hp⟩⟩
 let μ:Act->World->Nat:=fun a w=>if h:∃ m,I m a w then Classical.choose (hmin (fun m=>I m a w) (Classical.choose h) (Classical.choose_spec h)) else 0
 have hμ:∀ a w,(∃ m,I m a w)->I (μ a w) a w/\∀ j,j<μ a w->¬ I j a w:=by
  intro a w h
  have:=Classical.choose_spec (hmin (fun m=>I m a w) (Classical.choose h) (Classical.choose_spec h))
  have e:μ a w=Classical.choose (hmin (fun m=>I m a w) (Classical.choose h) (Classical.choose_spec h)):=dif_pos h
  rw[e]
  exact ⟨this.2.1,this.2.2⟩
 refine zI (fun a w=>∃ m,I m a w) μ ⟨n,h0⟩ ?_
 intro a w h
 obtain ⟨h1,h2⟩:=hμ a w h
 cases hm:μ a w with
 | zero =>
  rw[hm] at h1
  refine qW _ (done a w h1) ?_
  intro e a' w' h
  cases e<;>first | exact h.elim | exact h
 | succ m =>
  rw[hm] at h1
  refine qW _ (step m a w h1) ?_
  intro e a' w' h
  cases e with
  | normal =>
   refine ⟨⟨m,h⟩,?_⟩
   have:=(hμ a' w' ⟨m,h⟩).2
   rcases Nat.lt_or_ge (μ a' w') (m+1) with h' | h'
   ·exact h'
   ·exact absurd h (this m zH)
  | _=>exact h
end
theorem be_succ (k:Nat) (n:Int):be (k+1) n=o8 (n.fdiv (256 ^ k) % 256)::be k n:=rfl
theorem shr_be {j:Nat} (hj:j<=7) (n:Int):o8 (IntKind.u8.wrap (n.fdiv (2 ^ (min (IntKind.i64.wrap (8*(j:Int))).toNat IntKind.i64.bits))))=o8 (n.fdiv (256 ^ j) % 256):=by
 rw[kQ,wrap_i64 zH zH,show (8*(j:Int)).toNat=8*j by omega,show min (8*j) IntKind.i64.bits=8*j by simp only[IntKind.bits];omega,Int.pow_mul]
 rfl
section
variable {P : Program} {E : Env} {w : World} {U : Nat}
def vd (P:Program) (E:Env) (F:FuncId) (U:Nat) (args:Array Value) (bs:List UInt8) (w:World):Prop :=
 qa P F args w fun v w'=>w'.ownsRow U E.tU8 1 v bs.length (bs.map bv)/\Below U w w'
theorem zJ (ht:Text P E.sFixed 2 22 #[.tmp 4] (yU E)) (hB:xe P E.tB E.tU8 1=true) (i8:qr P E.tU8=some .u8) (i64:qr P E.tI64=some .i64) (ii:qr P E.tI=some .i64) {n:Int} {k:Nat} (hk:k<=8) (hU:U<=w.heap.size) :
  vd P E E.sFixed U #[.int .i64 n,.int .i64 k] (be k n) w:=by
 refine qa.enter ht zS ?_
 intro a hsz hdf harg
 have e0:=harg 0 (.int .i64 n) zS
 have e1:=harg 1 (.int .i64 k) zS
 unfold yU
 refine vX (rA (dn (vX (rA (dn (vS (vX (rM ?_))))))))
 refine yw zM zM ?_
 refine rA (dn ?_)
 refine vS (qh (xG (fun m a' w'=>m<=k/\a'.tmps.size=22/\a'.defers=[]/\a'.eval (.tmp 0)=.int .i64 n/\a'.eval (.tmp 6)=.int .i64 ((m:Int)-1)/\U<=w'.heap.size/\Below U w w' ∧
  ∃ xs:List UInt8,w'.ownsRow U E.tU8 1 (a'.eval (.tmp 5)) xs.length (xs.map bv)/\xs++be m n=be k n) k ?_ ?_ ?_))
 ·refine ⟨Nat.le_refl _,by simp only[zP];exact hsz,by simp only[dF];exact hdf,zA,?_,hU,Below.refl _ _,[],?_,rfl⟩
  ·simp (disch:=(try simp only[sP]);omega) only[eV]
   rw[wrap_i64 zH zH]
  ·rw[show Act.eval _ (.tmp 5)=Value.slice none 0 0 by exact zE]
   exact World.ownsRow_nil _ _ _ _
 ·rintro m A W ⟨hm,hs,hd,h0,h6,hUW,hbl,xs,hown,hxs⟩
  refine vS (vX (rM ?_))
  refine kX zM zM ?_
  refine dn ?_
  refine vS (vC (t:=true) ?_ ?_ (fun h=>by cases h))
  ·simp (disch:=(try simp only[sP]);omega) only[eV]
   simp only[Value.bool.injEq,decide_eq_true_eq]
   omega
  intro _
  refine vK (vN ?_)
  refine vS (qh (vR zS ?_))
  have hm1:(((m+1:Nat):Int)-1)=(m:Int):=by omega
  rw[hm1] at h6
  refine rM (rM (rM ?_))
  refine r_mul (k:=.i64) (m:=8) (n:=(m:Int)) (xg _ _) zA ?_
  refine r_shr (k:=.i64) (m:=n) (k':=.i64) (n:=IntKind.i64.wrap (8*(m:Int))) zA zE (by rw[wrap_i64 zH zH];omega) ?_
  refine qL (by assumption) (by assumption) zM ?_
  refine kV (U:=U) (xs:=xs) (zs:=[IntKind.u8.wrap (n.fdiv (2 ^ (min (IntKind.i64.wrap (8*(m:Int))).toNat IntKind.i64.bits)))]) hB ?_ (by intro z hz;simp only[List.mem_cons,List.not_mem_nil,or_false] at hz;rcases hz with rfl;exact xY _) rfl zH zH rfl zH (by simp only[zP];omega) (v:=_) ?_ hUW ?_ ?_
  ·simp only[lM]
   simp (disch:=(try simp only[sP]);omega) only[eV]
   rfl
  ·simp (disch:=(try simp only[sP]);omega) only[eV]
   exact hown
  ·have:=congrArg List.length hxs
   rw[List.length_append,qG,qG] at this
   unfold big
   omega
  intro v' w' h1 h2
  refine rA (dn (vX (rM ?_)))
  refine yw zM zM ?_
  refine rA (dn (vN ?_))
  rw[List.map_cons,List.map_nil,shr_be zH] at h1
  refine ⟨by omega,by simp only[zP];exact hs,by simp only[dF];exact hd,zA,?_,Nat.le_trans hUW h2.size,hbl.trans h2,xs++[o8 (n.fdiv (256 ^ m) % 256)],?_,?_⟩
  ·simp (disch:=(try simp only[sP]);omega) only[eV]
   rw[wrap_i64 zH zH]
  ·rw[show Act.eval _ (.tmp 5)=v' by exact zE]
   exact h1
  ·rw[← hxs,be_succ]
   simp
 ·rintro A W ⟨hm,hs,hd,h0,h6,hUW,hbl,xs,hown,hxs⟩
  refine vS (vX (rM ?_))
  refine kX zM zM ?_
  refine dn ?_
  refine vS (vC (t:=false) zM (fun h=>by cases h) ?_)
  intro _
  refine xb ?_
  simp only[Exit.then,Exit.inBlock,if_true]
  refine vN (vX (rM (rA (dn (vS (vT ?_))))))
  refine ⟨by simp only[dF];exact hd,A.eval (.tmp 5),rO zE,?_,hbl⟩
  rw[be,List.append_nil] at hxs
  rw[← hxs]
  exact hown
end
end Go.Km
namespace Go.Km
open Go Go.RowKit
attribute [local irreducible] vc rO_ qz qJ qF
section
variable {P : Program} {a : Act} {w : World} {Q : Exit → Act → World → Prop} {r : List Oper}
theorem yE {ops:List Oper} (ord:List Nat) (ho:List.range ops.length=ord) (h:qJ P ops Q ord a w):vc P (rg ops) Q a w:=by
 subst ho
 exact xF h
theorem r_and64 {d xt x c yt ty p af g} {n:Nat} (hx:a.eval x=.int .u64 (n:Int)) (hc:c=.const (.int .u64 127)) (hn:n<18446744073709551616) (h:rO_ P Q r (a.put (some d) (.int .u64 ((n % 128:Nat):Int))) w):rO_ P Q (⟨some d,.binOp .and xt x c yt,ty,p,af,g⟩::r) a w:=by
 subst hc
 refine yO (v:=.int .u64 ((n % 128:Nat):Int)) hx rfl zS ?_ h
 have:=u64_and_nat n 127 hn (by decide)
 rw[show n &&& 127=n % 128 from Nat.and_two_pow_sub_one_eq_mod n 7] at this
 show (pure (Value.int .u64 (bits .and .u64 (n:Int) 127)):Sem Value)=_
 rw[show (127:Int)=((127:Nat):Int) from rfl,this]
theorem r_rem {d xt x y yt ty p af g k m n} (hx:a.eval x=.int k m) (hy:a.eval y=.int k n) (hn:n≠0) (h:rO_ P Q r (a.put (some d) (.int k (m.tmod n))) w):rO_ P Q (⟨some d,.binOp .rem xt x y yt,ty,p,af,g⟩::r) a w:=by
 refine st ?_
 simp only[Oper.wp,execOp,hx,hy,eqGuard_at_int,binOp_rem,Op.intDiv,hn,if_false,Sem.run_bind,Sem.run_pure,Result.andThen_ok,Oper.upon_value]
 exact h
theorem or128:∀ n:Nat,n<128->n ||| 128=n+128:=by decide
theorem r_or8 {d xt x c yt ty p af g} {n:Nat} (hx:a.eval x=.int .u8 (n:Int)) (hc:c=.const (.int .u8 128)) (hn:n<128) (h:rO_ P Q r (a.put (some d) (.int .u8 ((n+128:Nat):Int))) w):rO_ P Q (⟨some d,.binOp .or xt x c yt,ty,p,af,g⟩::r) a w:=by
 subst hc
 refine yO (v:=.int .u8 ((n+128:Nat):Int)) hx rfl zS ?_ h
 have:=u8_or_nat n 128 zH (by decide)
 rw[or128 n hn] at this
 show (pure (Value.int .u8 (bits .or .u8 (n:Int) 128)):Sem Value)=_
 rw[show (128:Int)=((128:Nat):Int) from rfl,this]
theorem r_shr64 {d xt x c yt ty p af g} {n k mm:Nat} (hx:a.eval x=.int .u64 (n:Int)) (hc:c=.const (.int .u64 (k:Int))) (hm:2 ^ (min k 64)=mm) (h:rO_ P Q r (a.put (some d) (.int .u64 ((n / mm:Nat):Int))) w):rO_ P Q (⟨some d,.binOp .shr xt x c yt,ty,p,af,g⟩::r) a w:=by
 subst hc
 subst hm
 refine r_shr hx rfl zS ?_
 have:(n:Int).fdiv (2 ^ (min ((k:Int).toNat) IntKind.u64.bits))=((n / 2 ^ (min k 64):Nat):Int):=by
  rw[Int.fdiv_eq_ediv_of_nonneg _ (Int.le_of_lt (Int.pow_pos (by decide)))]
  simp[IntKind.bits]
 rw[this]
 exact h
end
section
variable {P : Program} {E : Env} {w : World} {U : Nat}
def xr (k:Nat):Nat:=if k=1 then 1 else if k=2\/k=5 then 2 else if k=3 then 4 else 8
theorem s_width (ht:Text P E.sWidth 1 11 #[.tmp 2] (c_sWidth E)) {k:Nat} (hk:k<=11):qa P E.sWidth #[.int .i64 (k:Int)] w fun v w'=>v=.int .i64 (xr k:Nat)/\w'=w:=by
 refine qa.enter ht zS ?_
 intro a hsz hdf harg
 have e0:=harg 0 (.int .i64 k) zS
 unfold c_sWidth
 (repeat' (first | (refine vS ?_) | (refine vR zS ?_) | (first | refine rM ?_ | refine rA ?_ | refine xy zM zM ?_) | (refine dn ?_) | (refine qh ?_) | (refine vC zM ?_ ?_<;>intro hcnd<;>first | (exfalso;revert hcnd;decide) | skip) | (refine vK ?_)))
 all_goals
  refine vT ?_
  refine ⟨by simp only[dF];exact hdf,_,rO zM,?_,rfl⟩
  unfold xr
  (repeat' split)<;>first | rfl | (exfalso;simp only[beq_iff_eq,beq_eq_false_iff_ne,ne_eq] at *;omega)
theorem j2 (ht:Text P E.lVersion 2 10 #[.tmp 4] (ky E)) (i8:qr P E.tU8=some .u8) (ii:qr P E.tI=some .i64) {n most:Nat} (hn:n<256) (hm:most<32768) :
  qa P E.lVersion #[.int .u8 n,.int .i64 most] w fun v w'=>v=.int .i64 ((n % (most+1):Nat):Int)/\w'=w:=by
 refine qa.enter ht zS ?_
 intro a hsz hdf harg
 have e0:=harg 0 (.int .u8 n) zS
 have e1:=harg 1 (.int .i64 most) zS
 unfold ky
 refine vX (rA (dn (vX (rM ?_))))
 refine qL (by assumption) (by assumption) zM ?_
 refine rM ?_
 refine xN zM zM ?_
 have h1:IntKind.i64.wrap ((n:Nat):Int)=n:=wrap_i64 zH zH
 have h2:IntKind.i64.wrap ((most:Int)+1)=((most+1:Nat):Int):=by rw[wrap_i64 zH zH];omega
 rw[h1,h2]
 refine r_rem (k:=.i64) (m:=(n:Int)) (n:=((most+1:Nat):Int)) zE zE zH ?_
 refine rA (dn (vS (vT ?_)))
 refine ⟨by simp only[dF];exact hdf,_,rO zM,?_,rfl⟩
 rw[Int.tmod_eq_emod_of_nonneg zH]
 simp
theorem yc (ht:Text P E.sUvar 1 20 #[.tmp 2] (c_sUvar E)) (hB:xe P E.tB E.tU8 1=true) (i8:qr P E.tU8=some .u8) (iu:qr P E.tU64=some .u64) {n:Nat} (hn:n<18446744073709551616) (hU:U<=w.heap.size) :
  vd P E E.sUvar U #[.int .u64 n] (Go.Km.uvar n) w:=by
 refine qa.enter ht zS ?_
 intro a hsz hdf harg
 have e0:=harg 0 (.int .u64 n) zS
 unfold c_sUvar
 refine vX (rA (dn (vX (rA (dn ?_)))))
 refine vS (qh (xG (fun m A W=>A.tmps.size=20/\A.defers=[]/\U<=W.heap.size/\Below U w W/\∃ f r:Nat,∃ xs:List UInt8,f<=9/\m+1=(uvF f r).length/\r<18446744073709551616/\r<128 ^ (f+1)/\A.eval (.tmp 0)=.int .u64 (r:Int) ∧
  W.ownsRow U E.tU8 1 (A.eval (.tmp 3)) xs.length (xs.map bv)/\xs++uvF f r=Go.Km.uvar n/\xs.length+f=9) ((Go.Km.uvar n).length-1) ?_ ?_ ?_))
 ·refine ⟨by simp only[zP];exact hsz,by simp only[dF];exact hdf,hU,Below.refl _ _,9,n,[],Nat.le_refl _,?_,hn,by omega,zA,?_,rfl,rfl⟩
  ·have:=vh 9 n
   unfold Go.Km.uvar
   omega
  ·rw[show Act.eval _ (.tmp 3)=Value.slice none 0 0 by exact zE]
   exact World.ownsRow_nil _ _ _ _
 ·rintro m A W ⟨hs,hd,hUW,hbl,f,r,xs,hf,hm,hr,hrf,h0,hown,hxs,hlf⟩
  have hge:128<=r:=by
   rcases Nat.lt_or_ge r 128 with h | h
   ·exfalso
    cases f with
    | zero=>simp[uvF] at hm
    | succ f=>rw[jr h] at hm;simp at hm
   ·exact h
  obtain ⟨f',rfl⟩:∃ f',f=f'+1:=by
   cases f with
   | zero=>exfalso;rw[Nat.zero_add,Nat.pow_one] at hrf;omega
   | succ f=>exact ⟨f,rfl⟩
  rw[jb hge] at hm hxs
  refine vS (vX (rM ?_))
  refine ji zM zM ?_
  refine dn ?_
  refine vS (vC (t:=true) ?_ ?_ (fun h=>by cases h))
  ·simp (disch:=(try simp only[sP]);omega) only[eV]
   simp only[Value.bool.injEq,decide_eq_true_eq]
   omega
  intro _
  refine vK (vN ?_)
  refine vS (qh (vX ?_))
  refine rM (rM ?_)
  refine r_and64 (n:=r) zA rfl hr ?_
  refine qL (k:=.u64) (k':=.u8) (m:=((r % 128:Nat):Int)) iu i8 zE ?_
  have hw:IntKind.u8.wrap ((r % 128:Nat):Int)=((r % 128:Nat):Int):=by rw[kQ];omega
  rw[hw]
  refine r_or8 (n:=r % 128) zE rfl zH ?_
  refine kV (U:=U) (xs:=xs) (zs:=[((r % 128+128:Nat):Int)]) hB ?_ (by intro z hz;simp only[List.mem_cons,List.not_mem_nil,or_false] at hz;subst hz;omega) rfl zH zH rfl zH (by simp only[zP];omega) (v:=_) ?_ hUW ?_ ?_
  ·simp only[lM]
   simp (disch:=(try simp only[sP]);omega) only[eV]
   rfl
  ·simp (disch:=(try simp only[sP]);omega) only[eV]
   exact hown
  ·unfold big;omega
  intro v' w' h1 h2
  refine rA (dn (vX (rM ?_)))
  refine r_shr64 (n:=r) (k:=7) (mm:=128) zA rfl (by decide) ?_
  refine rA (dn (vN (vN ?_)))
  refine ⟨by simp only[zP];exact hs,by simp only[dF];exact hd,Nat.le_trans hUW h2.size,hbl.trans h2,f',r / 128,xs++[UInt8.ofNat (r % 128+128)],by omega,by simpa using hm,by omega,?_,zE,?_,?_,?_⟩
  ·rw[Nat.pow_succ] at hrf
   omega
  ·rw[show Act.eval _ (.tmp 3)=v' by exact zE]
   exact h1
  ·rw[← hxs];simp
  ·simp only[List.length_append,List.length_cons,List.length_nil];omega
 ·rintro A W ⟨hs,hd,hUW,hbl,f,r,xs,hf,hm,hr,hrf,h0,hown,hxs,hlf⟩
  have hlt:r<128:=by
   rcases Nat.lt_or_ge r 128 with h | h
   ·exact h
   ·exfalso
    cases f with
    | zero=>rw[Nat.zero_add,Nat.pow_one] at hrf;omega
    | succ f =>
     rw[jb h] at hm
     have:=vh f (r / 128)
     simp only[List.length_cons] at hm
     omega
  have huv:uvF f r=[UInt8.ofNat r]:=by
   cases f with
   | zero=>rfl
   | succ f=>exact jr hlt
  refine vS (vX (rM ?_))
  refine ji zM zM ?_
  refine dn ?_
  refine vS (vC (t:=false) ?_ (fun h=>by cases h) ?_)
  ·simp (disch:=(try simp only[sP]);omega) only[eV]
   simp only[Value.bool.injEq,decide_eq_false_iff_not]
   omega
  intro _
  refine xb ?_
  simp only[Exit.then,Exit.inBlock,if_true]
  refine vX (rM (rM ?_))
  refine qL (by assumption) (by assumption) zM ?_
  refine kV (U:=U) (xs:=xs) (zs:=[IntKind.u8.wrap (r:Int)]) hB ?_ (by intro z hz;simp only[List.mem_cons,List.not_mem_nil,or_false] at hz;subst hz;exact xY _) rfl zH zH rfl zH (by simp only[zP];omega) (v:=_) ?_ hUW ?_ ?_
  ·simp only[lM]
   simp (disch:=(try simp only[sP]);omega) only[eV]
   rfl
  ·simp (disch:=(try simp only[sP]);omega) only[eV]
   exact hown
  ·unfold big;omega
  intro v' w' h1 h2
  refine rA (dn (vS (vT ?_)))
  refine ⟨by simp only[dF];exact hd,v',rO zE,?_,hbl.trans h2⟩
  rw[← hxs,huv]
  rw[List.map_cons,List.map_nil,o8_nat] at h1
  exact h1
def cnt (flex null:Bool) (n size:Nat):List UInt8:=if flex&&null then [0] else if flex then Go.Km.uvar (n+1) else if null then be size (-1) else be size n
theorem s_counted (ht:Text P E.sCounted 4 28 #[.tmp 8] (wk E)) (htu:Text P E.sUvar 1 20 #[.tmp 2] (c_sUvar E)) (htf:Text P E.sFixed 2 22 #[.tmp 4] (yU E)) (hB:xe P E.tB E.tU8 1=true) (i8:qr P E.tU8=some .u8) (iu:qr P E.tU64=some .u64) (i64:qr P E.tI64=some .i64) (ii:qr P E.tI=some .i64)
  {flex null:Bool} {n size:Nat} (hn:n<=big) (hs:size<=8) (hU:U<=w.heap.size):vd P E E.sCounted U #[.bool flex,.bool null,.int .i64 n,.int .i64 size] (cnt flex null n size) w:=by
 refine qa.enter ht zS ?_
 intro a hsz hdf harg
 have e0:=harg 0 (.bool flex) zS
 have e1:=harg 1 (.bool null) zS
 have e2:=harg 2 (.int .i64 n) zS
 have e3:=harg 3 (.int .i64 size) zS
 unfold big at hn
 unfold wk
 refine vX (rA (dn ?_))
 have hA:∀ A:Act,A.tmps.size=28->A.defers=[]->(∀ k:Nat,k<4->A.eval (.tmp k)=a.eval (.tmp k))->flex=false->null=false->vc P (sq [(rg [(oQ 25 (.move (.tmp 2)) E.tI),
   (oQ 26 (.move (.tmp 3)) E.tI),
   (oQ 27 (.call { callee:=.value (.func E.sFixed),args:=#[(.tmp 25),(.tmp 26)],argTypes:=#[E.tI64,E.tI] }) E.tB),
   (oQ 8 (.assign (.tmp 27)) E.tB)]),.ret]) (Out P #[.tmp 8] fun v w'=>w'.ownsRow U E.tU8 1 v (cnt flex null n size).length ((cnt flex null n size).map bv)/\Below U w w') A w:=by
  intro A hs2 hd hk hf hn0
  subst hf;subst hn0
  have f2:=(hk 2 (by decide)).trans e2
  have f3:=(hk 3 (by decide)).trans e3
  refine vX (rM (rM ?_))
  refine q8 (args:=#[.int .i64 n,.int .i64 size]) ?_ (zJ (U:=U) (n:=(n:Int)) htf hB i8 i64 ii hs hU) ?_
  ·simp only[lM]
   simp (disch:=(try simp only[sP]);omega) only[eV,f2,f3]
  intro v w' hs
  refine rA (dn (vS (vT ?_)))
  exact ⟨by simp only[dF];exact hd,v,rO zE,hs⟩
 refine vS (qh ?_)
 refine vS (yE [0,1,2,3,4] rfl ?_)
 (refine rD rfl (wN rfl) ?_;refine rM ?_;refine dn (rT ?_))
 (refine rD rfl (wN rfl) ?_;refine rM ?_;refine dn (rT ?_))
 cases flex with
 | true =>
  (refine rD rfl (by rw[wS (b:=true) rfl rfl zM];rfl) ?_;refine rM ?_;refine dn (rT ?_))
  (refine rD rfl (wN rfl) ?_;(refine qZ ?_ ?_;(try exact zA)<;>(first | rfl | assumption));refine dn (rT ?_))
  (refine rD rfl (wN rfl) ?_;refine rA ?_;refine dn (rT ?_))
  refine qy ?_
  refine vS (vC (t:=null) zM ?_ ?_)
  ·intro hnl
   subst hnl
   refine vX ?_
   refine xz (s:=1) (vs:=[.int .u8 0]) hB ?_ rfl (by intro v hv;simp only[List.mem_cons,List.not_mem_nil,or_false] at hv;subst hv;rfl) zH zH ?_
   ·simp only[lM]
    rfl
   refine rA (dn (vS (vT ?_)))
   refine ⟨by simp only[dF];exact hdf,_,rO zM,?_,(Below.refl U w).alloc (o:=.cells _ _) hU⟩
   exact World.ownsRow_lit w _ 1 hU (by decide) (by decide)
  ·intro hnl
   subst hnl
   refine vX (rM (rA (dn ?_)))
   refine vS (vC (t:=true) zM ?_ (fun h=>by cases h))
   intro _
   have hw:IntKind.u64.wrap (IntKind.u64.wrap (n:Int)+1)=((n+1:Nat):Int):=by rw[zj,zj];omega
   refine vX (rM ?_)
   refine qL (by assumption) (by assumption) zM ?_
   refine xN zM zM ?_
   rw[hw]
   refine q8 (args:=#[.int .u64 ((n+1:Nat):Int)]) ?_ (yc (U:=U) htu hB i8 iu zH hU) ?_
   ·simp only[lM]
    exact zE
   intro v w' hs
   refine rA (dn (vS (vT ?_)))
   exact ⟨by simp only[dF];exact hdf,v,rO zE,hs⟩
 | false =>
  (refine qX rfl (by rw[wS (b:=false) rfl rfl zM];rfl) ?_)
  (refine rD rfl (wN rfl) ?_;(refine xx ?_ ?_;(try exact zA)<;>(first | rfl | assumption));refine dn (rT ?_))
  (refine rD rfl (wN rfl) ?_;refine rA ?_;refine dn (rT ?_))
  refine qy ?_
  refine vS (vC (t:=false) zM (fun h=>by cases h) ?_)
  intro _
  refine vX (rM (rA (dn ?_)))
  refine vS (vC (t:=false) zM (fun h=>by cases h) ?_)
  intro _
  refine vX (rM (rA (dn ?_)))
  refine vS (vC (t:=null) zM ?_ ?_)
  ·intro hnl
   subst hnl
   refine vX (rM ?_)
   refine q8 (args:=#[.int .i64 (-1),.int .i64 size]) ?_ (zJ (U:=U) (n:=-1) htf hB i8 i64 ii hs hU) ?_
   ·simp only[lM]
    simp (disch:=(try simp only[sP]);omega) only[eV,e3]
   intro v w' hs
   refine rA (dn (vS (vT ?_)))
   exact ⟨by simp only[dF];exact hdf,v,rO zE,hs⟩
  ·intro hnl
   refine vK (vN (vN (vN ?_)))
   exact hA _ (by simp only[zP];exact hsz) (by simp only[dF];exact hdf) (fun k hk=>by exact zE) rfl hnl
end
end Go.Km
namespace Go.Km
open Go Go.RowKit
attribute [local irreducible] vc rO_ qz qJ qF
mutual
inductive Tr where
 | mk (n:Int) (s:List UInt8) (nl:Bool) (l:Trs) (u:List (Nat × List UInt8))
inductive Trs where
 | nil
 | cons (t:Tr) (r:Trs)
end
mutual
inductive SF where
 | mk (kind fr to nul tag df el:Int) (sub:SFs)
inductive SFs where
 | nil
 | cons (f:SF) (r:SFs)
end
def Trs.len:Trs->Nat
 | .nil=>0
 | .cons _ r=>r.len+1
def Trs.get:Trs->Nat->Option Tr
 | .nil,_=>none
 | .cons t _,0=>some t
 | .cons _ r,i+1=>r.get i
def SFs.len:SFs->Nat
 | .nil=>0
 | .cons _ r=>r.len+1
def SFs.get:SFs->Nat->Option SF
 | .nil,_=>none
 | .cons t _,0=>some t
 | .cons _ r,i+1=>r.get i
def Tr.zero:Tr:=.mk 0 [] false .nil []
def Tr.at (t:Tr) (i:Nat):Tr:=match t with | .mk _ _ _ l _=>(l.get i).getD .zero
def NilS (v:Value):Prop:=∃ ad cap,v=.slice ad 0 cap
theorem nilS:NilS (.slice none 0 0):=⟨_,_,rfl⟩
def xM (w:World) (U:Nat) (v:Value) (l:List UInt8):Prop :=
 (NilS v/\l=[])\/∃ q o cap,v=.slice (some ⟨q,o,none⟩) l.length cap/\l.length<=cap/\q<U/\qb w q o (l.map bv)
def kD (w:World) (U:Nat) (v:Value) (u:List (Nat × List UInt8)):Prop :=
 (NilS v/\u=[])\/∃ q o cap,v=.slice (some ⟨q,o,none⟩) u.length cap/\u.length<=cap/\q<U ∧
  ∀ (i:Nat) (x:Nat × List UInt8),u[i]? = some x->∃ sv,x.1<4294967296/\qb w q (o+i*2) [.int .u32 x.1,sv]/\xM w U sv x.2
mutual
def Tr.Rep (w:World) (U:Nat):Tr->List Value->Prop
 | .mk n s nl l u,cs=>∃ sv lv uv,cs=[.int .i64 n,sv,.bool nl,lv,uv]/\xM w U sv s/\kD w U uv u ∧
   ((NilS lv/\l.len=0)\/∃ q o cap,lv=.slice (some ⟨q,o,none⟩) l.len cap/\l.len<=cap/\q<U/\l.Rep w U q o)
def Trs.Rep (w:World) (U q:Nat):Trs->Nat->Prop
 | .nil,_=>True
 | .cons t r,o=>(∃ c,qb w q o c/\t.Rep w U c)/\r.Rep w U q (o+5)
end
mutual
def SF.Rep (w:World) (U:Nat):SF->List Value->Prop
 | .mk kind fr to nul tag df el sub,cs=>∃ sv,cs=[.int .i64 kind,.int .i64 fr,.int .i64 to,.int .i64 nul,.int .i64 tag,.int .i64 df,.int .i64 el,sv] ∧
   ((sv=.slice none 0 0/\sub.len=0)\/∃ q o cap,sv=.slice (some ⟨q,o,none⟩) sub.len cap/\sub.len<=cap/\q<U/\sub.Rep w U q o)
def SFs.Rep (w:World) (U q:Nat):SFs->Nat->Prop
 | .nil,_=>True
 | .cons f r,o=>(∃ c,qb w q o c/\f.Rep w U c)/\r.Rep w U q (o+8)
end
theorem Tr.Rep.len {w:World} {U:Nat} {t:Tr} {cs:List Value} (h:t.Rep w U cs):cs.length=5:=by
 cases t with
 | mk n s nl l u=>obtain ⟨_,_,_,rfl,_⟩:=h;rfl
theorem SF.Rep.len {w:World} {U:Nat} {f:SF} {cs:List Value} (h:f.Rep w U cs):cs.length=8:=by
 cases f with
 | mk=>obtain ⟨_,rfl,_⟩:=h;rfl
theorem Trs.Rep.get {w:World} {U q:Nat}:∀ {l:Trs} {o:Nat},l.Rep w U q o->∀ {i:Nat} {t:Tr},l.get i=some t->∃ c,qb w q (o+i*5) c/\t.Rep w U c
 | .nil,_,_,_,_,h=>by cases h
 | .cons t r,o,⟨h1,h2⟩,i,u,h=>by
  cases i with
  | zero =>
   simp only[Trs.get,Option.some.injEq] at h
   subst h
   simpa using h1
  | succ i =>
   obtain ⟨c,h3,h4⟩:=Trs.Rep.get (l:=r) h2 (i:=i) h
   exact ⟨c,by rwa [show o+5+i*5=o+(i+1)*5 by omega] at h3,h4⟩
theorem SFs.Rep.get {w:World} {U q:Nat}:∀ {l:SFs} {o:Nat},l.Rep w U q o->∀ {i:Nat} {t:SF},l.get i=some t->∃ c,qb w q (o+i*8) c/\t.Rep w U c
 | .nil,_,_,_,_,h=>by cases h
 | .cons t r,o,⟨h1,h2⟩,i,u,h=>by
  cases i with
  | zero =>
   simp only[SFs.get,Option.some.injEq] at h
   subst h
   simpa using h1
  | succ i =>
   obtain ⟨c,h3,h4⟩:=SFs.Rep.get (l:=r) h2 (i:=i) h
   exact ⟨c,by rwa [show o+8+i*8=o+(i+1)*8 by omega] at h3,h4⟩
theorem Trs.get_lt:∀ (l:Trs) (i:Nat),i<l.len->∃ t,l.get i=some t
 | .nil,i,h=>by simp[Trs.len] at h
 | .cons t r,0,_=>⟨t,rfl⟩
 | .cons t r,i+1,h=>Trs.get_lt r i (by simp[Trs.len] at h;omega)
theorem Trs.get_ge:∀ (l:Trs) (i:Nat),l.len<=i->l.get i=none
 | .nil,i,h=>rfl
 | .cons t r,0,h=>by simp[Trs.len] at h
 | .cons t r,i+1,h=>Trs.get_ge r i (by simp[Trs.len] at h;omega)
theorem SFs.get_lt:∀ (l:SFs) (i:Nat),i<l.len->∃ t,l.get i=some t
 | .nil,i,h=>by simp[SFs.len] at h
 | .cons t r,0,_=>⟨t,rfl⟩
 | .cons t r,i+1,h=>SFs.get_lt r i (by simp[SFs.len] at h;omega)
theorem xM.below {w w':World} {U:Nat} {v:Value} {l:List UInt8} (h:xM w U v l) (hw:Below U w w'):xM w' U v l:=by
 rcases h with h | ⟨q,o,cap,h1,h2,h3,h4⟩
 ·exact .inl h
 ·exact .inr ⟨q,o,cap,h1,h2,h3,h4.below hw h3⟩
theorem kD.below {w w':World} {U:Nat} {v:Value} {u:List (Nat × List UInt8)} (h:kD w U v u) (hw:Below U w w'):kD w' U v u:=by
 rcases h with h | ⟨q,o,cap,h1,h2,h3,h4⟩
 ·exact .inl h
 ·refine .inr ⟨q,o,cap,h1,h2,h3,fun i x hx=>?_⟩
  obtain ⟨sv,h0,h5,h6⟩:=h4 i x hx
  exact ⟨sv,h0,h5.below hw h3,h6.below hw⟩
mutual
theorem Tr.Rep.below {w w':World} {U:Nat} (hw:Below U w w'):∀ {t:Tr} {cs:List Value},t.Rep w U cs->t.Rep w' U cs
 | .mk n s nl l u,cs,⟨sv,lv,uv,h1,h2,h3,h4⟩=>by
  refine ⟨sv,lv,uv,h1,h2.below hw,h3.below hw,?_⟩
  rcases h4 with h4 | ⟨q,o,cap,h5,h6,h7,h8⟩
  ·exact .inl h4
  ·exact .inr ⟨q,o,cap,h5,h6,h7,Trs.Rep.below hw h7 h8⟩
theorem Trs.Rep.below {w w':World} {U q:Nat} (hw:Below U w w') (hq:q<U):∀ {l:Trs} {o:Nat},l.Rep w U q o->l.Rep w' U q o
 | .nil,_,_=>trivial
 | .cons t r,o,⟨⟨c,h1,h2⟩,h3⟩=>⟨⟨c,h1.below hw hq,Tr.Rep.below hw h2⟩,Trs.Rep.below hw hq h3⟩
end
mutual
theorem SF.Rep.below {w w':World} {U:Nat} (hw:Below U w w'):∀ {t:SF} {cs:List Value},t.Rep w U cs->t.Rep w' U cs
 | .mk kind fr to nul tag df el sub,cs,⟨sv,h1,h4⟩=>by
  refine ⟨sv,h1,?_⟩
  rcases h4 with h4 | ⟨q,o,cap,h5,h6,h7,h8⟩
  ·exact .inl h4
  ·exact .inr ⟨q,o,cap,h5,h6,h7,SFs.Rep.below hw h7 h8⟩
theorem SFs.Rep.below {w w':World} {U q:Nat} (hw:Below U w w') (hq:q<U):∀ {l:SFs} {o:Nat},l.Rep w U q o->l.Rep w' U q o
 | .nil,_,_=>trivial
 | .cons t r,o,⟨⟨c,h1,h2⟩,h3⟩=>⟨⟨c,h1.below hw hq,SF.Rep.below hw h2⟩,SFs.Rep.below hw hq h3⟩
end
section
variable {P : Program} {a : Act} {w : World} {r : List Oper} {Q : Exit → Act → World → Prop}
theorem r_min {d x y t ty p af g k m n} (hx:a.eval x=.int k m) (hy:a.eval y=.int k n) (h:rO_ P Q r (a.put (some d) (.int k (if n<m then n else m))) w) :
  rO_ P Q (⟨some d,.call { callee:=.builtin .min,args:=#[x,y],argTypes:=t },ty,p,af,g⟩::r) a w:=by
 refine st ?_
 have hr:(Builtin.min_ t ty #[a.eval x,a.eval y]).run P w=.ok (.int k (if n<m then n else m)) w:=by
  rw[hx,hy]
  simp[Builtin.min_,Builtin.min2]
 simp only[Oper.wp,execOp,resolve,invoke,builtin,Sem.run_bind,Sem.run_pure,Result.andThen_ok,List.map_toArray,List.map_cons,List.map_nil,hr,Oper.upon_value]
 exact h
end
def offs (P:Program) (t:TypeId) (n:Nat):Bool:=(List.range n).all fun i=>qk P t i==some i
theorem ql {P:Program} {t:TypeId} {n i:Nat} (h:offs P t n=true) (hi:i<n):qk P t i=some i:=by
 have:=List.all_eq_true.1 h i (List.mem_range.2 hi)
 simpa using this
def SF.has:SF->Int->Bool
 | .mk _ fr to _ _ _ _ _,v=>decide (fr<=v)&&(decide (to<0)||decide (v<=to))
def SF.isNull:SF->Int->Tr->Bool
 | .mk _ _ _ nul _ _ _ _,v,.mk _ _ nl _ _=>nl&&decide (nul ≥ 0)&&decide (v ≥ nul)
section
variable {P : Program} {E : Env} {w : World} {U : Nat}
structure SEnv (P:Program) (E:Env):Prop where
 row:xe P E.tB E.tU8 1=true
 u8:qr P E.tU8=some .u8
 int:qr P E.tI=some .i64
 i64:qr P E.tI64=some .i64
 u32:qr P E.tW=some .u32
 u64:qr P E.tU64=some .u64
 oInt:qQ P E.tI=true
 oI64:qQ P E.tI64=true
 oU32:qQ P E.tW=true
 oU8:qQ P E.tU8=true
 oBool:qQ P E.tO=true
 oBytes:qQ P E.tB=true
 oTrees:qQ P E.tS=true
 oFlds:qQ P E.tFlds=true
 oUnks:qQ P E.tK=true
 fFld:offs P E.tFld 8=true
 fTree:offs P E.tT 5=true
 fUnk:offs P E.tUnk 2=true
 aFld:z7 P E.tFld=some 8
 aTree:z7 P E.tT=some 5
 aUnk:z7 P E.tUnk=some 2
 sFlds:xu P E.tFlds=some (E.tFld,8)
 rTrees:xe P E.tS E.tT 5=true
 rUnks:xe P E.tK E.tUnk 2=true
theorem s_has (H:SEnv P E) (ht:Text P E.sHas 2 20 #[.tmp 4] (c_sHas E)) {f:SF} {cs:List Value} {v:Int} (hr:f.Rep w U cs) (hU:U<=w.heap.size) :
  qa P E.sHas #[.agg cs.toArray,.int .i64 v] w fun r w'=>r=.bool (f.has v)/\Below U w w':=by
 refine qa.enter ht zS ?_
 intro a hsz hdf harg
 have e0:=harg 0 (.agg cs.toArray) zS
 have e1:=harg 1 (.int .i64 v) zS
 cases f with
 | mk kind fr to nul tag df el sub =>
 obtain ⟨sv,rfl,_⟩:=hr
 unfold c_sHas
 refine vX ?_
 refine xI (v:=.agg [Value.int .i64 kind,.int .i64 fr,.int .i64 to,.int .i64 nul,.int .i64 tag,.int .i64 df,.int .i64 el,sv].toArray) zA ?_
 refine rA (dn ?_)
 have hbl:Below U w (w.alloc (.cells (Value.agg [Value.int .i64 kind,.int .i64 fr,.int .i64 to,.int .i64 nul,.int .i64 tag,.int .i64 df,.int .i64 el,sv].toArray).cells E.tFld)):=(Below.refl U w).alloc (o:=.cells _ _) hU
 have c1:=qs w (Value.agg [Value.int .i64 kind,.int .i64 fr,.int .i64 to,.int .i64 nul,.int .i64 tag,.int .i64 df,.int .i64 el,sv].toArray).cells E.tFld (i:=1) (v:=.int .i64 fr) rfl
 have c2:=qs w (Value.agg [Value.int .i64 kind,.int .i64 fr,.int .i64 to,.int .i64 nul,.int .i64 tag,.int .i64 df,.int .i64 el,sv].toArray).cells E.tFld (i:=2) (v:=.int .i64 to) rfl
 refine vS (yE [0,1,2,3,4,5,6,7,8,9,10,11,12,13,14,15] rfl ?_)
 have fin:∀ (A:Act) (b:Bool),A.defers=[]->A.eval (.tmp 4)=.bool b->b=(SF.mk kind fr to nul tag df el sub).has v->vc P (sq [.ret]) (Out P #[.tmp 4] fun r w'=>r=.bool ((SF.mk kind fr to nul tag df el sub).has v)/\Below U w w') A (w.alloc (.cells (Value.agg [Value.int .i64 kind,.int .i64 fr,.int .i64 to,.int .i64 nul,.int .i64 tag,.int .i64 df,.int .i64 el,sv].toArray).cells E.tFld)):=by
  intro A b hd h4 hb
  refine vT ?_
  exact ⟨hd,.bool b,rO h4,by rw[hb],hbl⟩
 refine rD rfl (wN rfl) (rF (b:=w.heap.size) (o:=0) zE (ql H.fFld (by decide)) (dn (rT ?_)))
 refine rD rfl (wN rfl) (rL (b:=w.heap.size) (o:=1) (v:=.int .i64 fr) zM H.oInt c1 (dn (rT ?_)))
 (refine rD rfl (wN rfl) ?_;refine rM ?_;refine dn (rT ?_))
 refine rD rfl (wN rfl) (vD (k:=.i64) (m:=fr) (n:=v) zE zA (dn (rT ?_)))
 (refine rD rfl (wN rfl) ?_;refine rM ?_;refine dn (rT ?_))
 by_cases h1:fr<=v
 ·have d1:decide (fr<=v)=true:=by simpa using h1
  rw[d1]
  refine rD rfl (by rw[wS (b:=true) rfl rfl zM];rfl) (rF (b:=w.heap.size) (o:=0) zE (ql H.fFld (by decide)) (dn (rT ?_)))
  refine rD rfl (by rw[wS (b:=true) rfl rfl zM];rfl) (rL (b:=w.heap.size) (o:=2) (v:=.int .i64 to) zM H.oInt c2 (dn (rT ?_)))
  refine rD rfl (by rw[wS (b:=true) rfl rfl zM];rfl) (qV (k:=.i64) (m:=to) (n:=0) zE rfl (dn (rT ?_)))
  (refine rD rfl (by rw[wS (b:=true) rfl rfl zM];rfl) ?_;refine rM ?_;refine dn (rT ?_))
  by_cases h2:to<0
  ·have d2:decide (to<0)=true:=by simpa using h2
   rw[d2]
   (refine qX rfl (by rw[wS (b:=true) rfl rfl zM];rfl) ?_)
   (refine qX rfl (by rw[wS (b:=true) rfl rfl zM];rfl) ?_)
   (refine qX rfl (by rw[wS (b:=true) rfl rfl zM];rfl) ?_)
   (refine qX rfl (by rw[wS (b:=true) rfl rfl zM];rfl) ?_)
   (refine rD rfl (by rw[wS (b:=true) rfl rfl zM];rfl) ?_;(refine qZ ?_ ?_;(try exact zE)<;>(first | rfl | assumption));refine dn (rT ?_))
   (refine rD rfl (wN rfl) ?_;(refine qZ ?_ ?_;(try exact zE)<;>(first | rfl | assumption));refine dn (rT ?_))
   (refine rD rfl (wN rfl) ?_;refine rA ?_;refine dn (rT ?_))
   refine qy ?_
   exact fin _ true (by simp only[dF];exact hdf) zM (by simp[SF.has,h1,h2])
  ·have d2:decide (to<0)=false:=by simpa using h2
   rw[d2]
   (refine rD rfl (by rw[wS (b:=false) rfl rfl zM];rfl) ?_;refine rM ?_;refine dn (rT ?_))
   refine rD rfl (by rw[wS (b:=false) rfl rfl zM];rfl) (rF (b:=w.heap.size) (o:=0) zE (ql H.fFld (by decide)) (dn (rT ?_)))
   refine rD rfl (by rw[wS (b:=false) rfl rfl zM];rfl) (rL (b:=w.heap.size) (o:=2) (v:=.int .i64 to) zM H.oInt c2 (dn (rT ?_)))
   refine rD rfl (by rw[wS (b:=false) rfl rfl zM];rfl) (vD (k:=.i64) (m:=v) (n:=to) zA zE (dn (rT ?_)))
   (refine rD rfl (by rw[wS (b:=true) rfl rfl zM];rfl) ?_;(refine xx ?_ ?_;(try exact zE)<;>(first | rfl | assumption));refine dn (rT ?_))
   (refine rD rfl (wN rfl) ?_;(refine qZ ?_ ?_;(try exact zE)<;>(first | rfl | assumption));refine dn (rT ?_))
   (refine rD rfl (wN rfl) ?_;refine rA ?_;refine dn (rT ?_))
   refine qy ?_
   exact fin _ (decide (v<=to)) (by simp only[dF];exact hdf) zM (by simp[SF.has,h1,h2])
 ·have d1:decide (fr<=v)=false:=by simpa using h1
  rw[d1]
  (refine qX rfl (by rw[wS (b:=false) rfl rfl zM];rfl) ?_)
  (refine qX rfl (by rw[wS (b:=false) rfl rfl zM];rfl) ?_)
  (refine qX rfl (by rw[wS (b:=false) rfl rfl zM];rfl) ?_)
  (refine qX rfl (by rw[wS (b:=false) rfl rfl zM];rfl) ?_)
  (refine qX rfl (yC rfl rfl zM (by simp only[zP,hsz];decide)) ?_)
  (refine qX rfl (yC rfl rfl zM (by simp only[zP,hsz];decide)) ?_)
  (refine qX rfl (yC rfl rfl zM (by simp only[zP,hsz];decide)) ?_)
  (refine qX rfl (yC rfl rfl zM (by simp only[zP,hsz];decide)) ?_)
  (refine qX rfl (by rw[wS (b:=false) rfl rfl zM];rfl) ?_)
  (refine rD rfl (wN rfl) ?_;(refine xx ?_ ?_;(try exact zE)<;>(first | rfl | assumption));refine dn (rT ?_))
  (refine rD rfl (wN rfl) ?_;refine rA ?_;refine dn (rT ?_))
  refine qy ?_
  exact fin _ false (by simp only[dF];exact hdf) zM (by simp[SF.has,h1])
theorem s_null (H:SEnv P E) (ht:Text P E.sNull 3 20 #[.tmp 6] (c_sNull E)) {f:SF} {cs ts:List Value} {v:Int} {t:Tr} (hr:f.Rep w U cs) (hrt:t.Rep w U ts) (hU:U<=w.heap.size) :
  qa P E.sNull #[.agg cs.toArray,.int .i64 v,.agg ts.toArray] w fun r w'=>r=.bool (f.isNull v t)/\Below U w w':=by
 refine qa.enter ht zS ?_
 intro a hsz hdf harg
 have e0:=harg 0 (.agg cs.toArray) zS
 have e1:=harg 1 (.int .i64 v) zS
 have e2:=harg 2 (.agg ts.toArray) zS
 cases f with
 | mk kind fr to nul tag df el sub =>
 cases t with
 | mk n s nl l u =>
 obtain ⟨sv,rfl,_⟩:=hr
 obtain ⟨s1,s2,s3,rfl,_⟩:=hrt
 unfold c_sNull
 refine vX ?_
 refine xI (v:=.agg [Value.int .i64 kind,.int .i64 fr,.int .i64 to,.int .i64 nul,.int .i64 tag,.int .i64 df,.int .i64 el,sv].toArray) zA ?_
 refine xI (v:=.agg [Value.int .i64 n,s1,.bool nl,s2,s3].toArray) zA ?_
 refine rA (dn ?_)
 generalize hw1:w.alloc (.cells (Value.agg [Value.int .i64 kind,.int .i64 fr,.int .i64 to,.int .i64 nul,.int .i64 tag,.int .i64 df,.int .i64 el,sv].toArray).cells E.tFld)=w1
 have hb1:Below U w w1:=by rw[← hw1];exact (Below.refl U w).alloc (o:=.cells _ _) hU
 have hz1:w1.heap.size=w.heap.size+1:=by rw[← hw1];simp
 have c3:w1.cell? ⟨w.heap.size,3,none⟩=some (.int .i64 nul):=by rw[← hw1];exact qs w _ E.tFld (i:=3) rfl
 clear hw1
 generalize hw2:w1.alloc (.cells (Value.agg [Value.int .i64 n,s1,.bool nl,s2,s3].toArray).cells E.tT)=w2
 have hb2:Below U w w2:=by rw[← hw2];exact hb1.trans ((Below.refl U w1).alloc (o:=.cells _ _) zH)
 have d3:w2.cell? ⟨w.heap.size,3,none⟩=some (.int .i64 nul):=by rw[← hw2];exact (Eff.refl (fun _ _=>False) w1 |>.alloc _).cellSome c3 (fun h=>h)
 have d2:w2.cell? ⟨w1.heap.size,2,none⟩=some (.bool nl):=by rw[← hw2];exact qs w1 _ E.tT (i:=2) rfl
 clear hw2
 refine vS (yE [0,1,2,3,4,5,6,7,8,9,10,11,12,13] rfl ?_)
 have fin:∀ (A:Act) (b:Bool),A.defers=[]->A.eval (.tmp 6)=.bool b->b=(SF.mk kind fr to nul tag df el sub).isNull v (.mk n s nl l u)->vc P (sq [.ret]) (Out P #[.tmp 6] fun r w'=>r=.bool ((SF.mk kind fr to nul tag df el sub).isNull v (.mk n s nl l u))/\Below U w w') A w2:=by
  intro A b hd h4 hb
  refine vT ?_
  exact ⟨hd,.bool b,rO h4,by rw[hb],hb2⟩
 refine rD rfl (wN rfl) (rF (b:=w1.heap.size) (o:=0) zE (ql H.fTree (by decide)) (dn (rT ?_)))
 refine rD rfl (wN rfl) (rL (b:=w1.heap.size) (o:=2) (v:=.bool nl) zM H.oBool d2 (dn (rT ?_)))
 (refine rD rfl (wN rfl) ?_;refine rM ?_;refine dn (rT ?_))
 cases nl with
 | true =>
  refine rD rfl (by rw[wS (b:=true) rfl rfl zM];rfl) (rF (b:=w.heap.size) (o:=0) zE (ql H.fFld (by decide)) (dn (rT ?_)))
  refine rD rfl (by rw[wS (b:=true) rfl rfl zM];rfl) (rL (b:=w.heap.size) (o:=3) (v:=.int .i64 nul) zM H.oInt d3 (dn (rT ?_)))
  refine rD rfl (by rw[wS (b:=true) rfl rfl zM];rfl) (kX (k:=.i64) (m:=nul) (n:=0) zE rfl (dn (rT ?_)))
  (refine rD rfl (wN rfl) ?_;(refine qZ ?_ ?_;(try exact zE)<;>(first | rfl | assumption));refine dn (rT ?_))
  (refine rD rfl (wN rfl) ?_;refine rM ?_;refine dn (rT ?_))
  by_cases h1:nul ≥ 0
  ·have g1:decide (nul ≥ 0)=true:=by simpa using h1
   rw[g1]
   (refine rD rfl (by rw[wS (b:=true) rfl rfl zM];rfl) ?_;refine rM ?_;refine dn (rT ?_))
   refine rD rfl (by rw[wS (b:=true) rfl rfl zM];rfl) (rF (b:=w.heap.size) (o:=0) zE (ql H.fFld (by decide)) (dn (rT ?_)))
   refine rD rfl (by rw[wS (b:=true) rfl rfl zM];rfl) (rL (b:=w.heap.size) (o:=3) (v:=.int .i64 nul) zM H.oInt d3 (dn (rT ?_)))
   refine rD rfl (by rw[wS (b:=true) rfl rfl zM];rfl) (kX (k:=.i64) (m:=v) (n:=nul) zA zE (dn (rT ?_)))
   (refine rD rfl (wN rfl) ?_;(refine qZ ?_ ?_;(try exact zE)<;>(first | rfl | assumption));refine dn (rT ?_))
   (refine rD rfl (wN rfl) ?_;refine rA ?_;refine dn (rT ?_))
   refine qy ?_
   exact fin _ (decide (v ≥ nul)) (by simp only[dF];exact hdf) zM (by simp[SF.isNull,h1])
  ·have g1:decide (nul ≥ 0)=false:=by simpa using h1
   rw[g1]
   (refine qX rfl (by rw[wS (b:=false) rfl rfl zM];rfl) ?_)
   (refine qX rfl (by rw[wS (b:=false) rfl rfl zM];rfl) ?_)
   (refine qX rfl (by rw[wS (b:=false) rfl rfl zM];rfl) ?_)
   (refine qX rfl (by rw[wS (b:=false) rfl rfl zM];rfl) ?_)
   (refine rD rfl (wN rfl) ?_;(refine xx ?_ ?_;(try exact zE)<;>(first | rfl | assumption));refine dn (rT ?_))
   (refine rD rfl (wN rfl) ?_;refine rA ?_;refine dn (rT ?_))
   refine qy ?_
   exact fin _ false (by simp only[dF];exact hdf) zM (by simp[SF.isNull,h1])
 | false =>
  (refine qX rfl (by rw[wS (b:=false) rfl rfl zM];rfl) ?_)
  (refine qX rfl (by rw[wS (b:=false) rfl rfl zM];rfl) ?_)
  (refine qX rfl (by rw[wS (b:=false) rfl rfl zM];rfl) ?_)
  (refine rD rfl (wN rfl) ?_;(refine xx ?_ ?_;(try exact zE)<;>(first | rfl | assumption));refine dn (rT ?_))
  (refine rD rfl (wN rfl) ?_;refine rM ?_;refine dn (rT ?_))
  (refine qX rfl (by rw[wS (b:=false) rfl rfl zM];rfl) ?_)
  (refine qX rfl (by rw[wS (b:=false) rfl rfl zM];rfl) ?_)
  (refine qX rfl (by rw[wS (b:=false) rfl rfl zM];rfl) ?_)
  (refine qX rfl (by rw[wS (b:=false) rfl rfl zM];rfl) ?_)
  (refine rD rfl (wN rfl) ?_;(refine xx ?_ ?_;(try exact zE)<;>(first | rfl | assumption));refine dn (rT ?_))
  (refine rD rfl (wN rfl) ?_;refine rA ?_;refine dn (rT ?_))
  refine qy ?_
  exact fin _ false (by simp only[dF];exact hdf) zM (by simp[SF.isNull])
end
end Go.Km
namespace Go.Km
open Go Go.RowKit
attribute [local irreducible] vc rO_ qz qJ qF
section
variable {P : Program} {a : Act} {w : World} {r : List Oper} {Q : Exit → Act → World → Prop}
theorem kT {d t x y ty p af g e s ad len cap k} {h:Nat} (ht:xu P t=some (e,s)) (hx:a.eval x=.slice ad len cap) (hy:a.eval y=.int k (h:Int)) (hh:h<=cap)
  (hn:rO_ P Q r (a.put (some d) (.slice ad h cap)) w):rO_ P Q (⟨some d,.slice t x none (some y) none,ty,p,af,g⟩::r) a w:=by
 refine yh 0 h cap ht hx rfl ⟨k,hy⟩ rfl (Nat.zero_le _) hh (Nat.le_refl _) ?_
 have:(if cap=0 then ad else ad.map (·.add (0*s)))=ad:=by cases ad<;>simp[Addr.add_zero']
 rw[this]
 exact hn
def vx (P:Program) (t:TypeId):Option (List (Nat × Nat) × Array Value) :=
 match P.underlying t,P.info? t with
 | some (.struct fs),some it =>
  match it.zero,fs.toList.mapM (fun f=>(P.info? f.type).map fun i=>(f.offset,i.size)) with
  | some z,some pl=>some (pl,z.cells)
  | _,_=>none
 | _,_=>none
theorem run_buildL {t:TypeId} {pl:List (Nat × Nat)} {z cells:Array Value} {parts:Array (Nat × Value)} (h:vx P t=some (pl,z)) (hf:Instr.fill (pl.toArray[·]?) z parts.toList=some cells) :
  (Instr.build t parts).run P w=.ok (.agg cells) w:=by
 refine run_build w t parts cells ?_
 unfold vx at h
 split at h
 ·rename_i fs it hu hi
  split at h
  ·rename_i z' pl' hz hp
   simp only[Option.some.injEq,Prod.mk.injEq] at h
   obtain ⟨rfl,rfl⟩:=h
   unfold Program.built
   rw[hi,hu]
   simp only[hz,hp]
   exact hf
  ·cases h
 ·cases h
theorem z6 {d t ps ty p af g pl z cells} (h:vx P t=some (pl,z)) (hf:Instr.fill (pl.toArray[·]?) z (ps.map fun (x:Nat × Operand)=>(x.1,a.eval x.2)).toList=some cells)
  (hn:rO_ P Q r (a.put (some d) (.agg cells)) w):rO_ P Q (⟨some d,.build t ps,ty,p,af,g⟩::r) a w:=by
 refine st ?_
 have hr:(Instr.build t (ps.map fun (i,x)=>(i,a.eval x))).run P w=.ok (.agg cells) w:=run_buildL h hf
 simp only[Oper.wp,execOp,Sem.run_bind,hr,Sem.run_pure,Result.andThen_ok,Oper.upon_value]
 exact hn
theorem z8 {t:Nat} {T:TypeId} {b o:Nat} {cs:List Value} (h:a.eval (.tmp t)=.pointer (some ⟨b,o,none⟩)) (hT:z7 P T=some cs.length) (hc:qb w b o cs) :
  (results { (default:Func) with results:=#[.cell t T] } a.tmps).run P w=.ok (.agg cs.toArray) w:=by
 obtain ⟨h1,h2⟩:=gx hT
 have hl:(loadVar T ⟨b,o,none⟩).run P w=.ok (.agg cs.toArray) w:=by
  simp only[loadVar,Sem.run_bind,h1,Result.andThen_ok,if_true,h2,kM hc,Sem.run_pure]
 have h':a.tmps[t]?.getD undef=.pointer (some ⟨b,o,none⟩):=by simpa [Act.eval] using h
 simp[results,h',asAddr,hl]
end
section
variable {P : Program} {E : Env} {w : World} {U : Nat}
theorem s_first {f T e:Nat} {c:Code} (hT:xu P T=some (e,1)\/xu P T=some (e,5)) (hint:qr P E.tI=some .i64) {ad:Option Addr} {n cap:Nat} (hn:n<=cap)
  (ht:Text P f 1 8 #[.tmp 2] (sq [(rg [(oQ 2 (.assign (.const (.slice none 0 0))) T)]),
  (rg [(oQ 3 (.move (.tmp 0)) T),
   (oQ 4 (.move (.tmp 0)) T),
   (oQ 5 (.call { callee:=.builtin .len,args:=#[(.tmp 4)],argTypes:=#[T] }) E.tI),
   (oQ 6 (.call { callee:=.builtin .min,args:=#[(.tmp 5),(.const (.int .i64 32767))],argTypes:=#[E.tI,E.tI] }) E.tI),
   (oQ 7 (.slice T (.tmp 3) none (some (.tmp 6)) none) T),
   (oQ 2 (.assign (.tmp 7)) T)]),
  .ret])):qa P f #[.slice ad n cap] w fun v w'=>v=.slice ad (min n 32767) cap/\w'=w:=by
 refine qa.enter ht zS ?_
 intro a hsz hdf harg
 have e0:=harg 0 (.slice ad n cap) zS
 obtain ⟨s,hs⟩:∃ s,xu P T=some (e,s):=by rcases hT with h | h<;>exact ⟨_,h⟩
 refine vX (rA (dn (vX (rM (rM ?_)))))
 refine x7 (ad:=ad) (n:=n) (c:=cap) hs zA ?_
 refine r_min (k:=.i64) (m:=(n:Int)) (n:=32767) zE rfl ?_
 have hm:(if (32767:Int)<(n:Int) then (32767:Int) else (n:Int))=((min n 32767:Nat):Int):=by split<;>omega
 rw[hm]
 refine kT (ad:=ad) (cap:=cap) (k:=.i64) (h:=min n 32767) (len:=n) hs zA zE zH ?_
 refine rA (dn (vS (vT ?_)))
 exact ⟨by simp only[dF];exact hdf,_,rO zM,rfl,rfl⟩
structure SLay (P:Program) (E:Env):Prop where
 tree:vx P E.tT=some ([(0,1),(1,1),(2,1),(3,1),(4,1)],#[.int .i64 0,.slice none 0 0,.bool false,.slice none 0 0,.slice none 0 0])
 fld:vx P E.tFld=some ([(0,1),(1,1),(2,1),(3,1),(4,1),(5,1),(6,1),(7,1)],#[.int .i64 0,.int .i64 0,.int .i64 0,.int .i64 0,.int .i64 0,.int .i64 0,.int .i64 0,.slice none 0 0])
 msg:vx P E.tMsg=some ([(0,1),(1,1)],#[.slice none 0 0,.int .i64 0])
 unk:vx P E.tUnk=some ([(0,1),(1,1)],#[.int .u32 0,.slice none 0 0])
theorem xD {P:Program} {t:TypeId} {pl:List (Nat × Nat)} {z:Array Value} (h:vx P t=some (pl,z)):∃ v,qK P t=some v/\v.cells=z:=by
 unfold vx at h
 split at h
 ·rename_i fs it hu hi
  split at h
  ·rename_i z' pl' hz hp
   simp only[Option.some.injEq,Prod.mk.injEq] at h
   exact ⟨z',by simp[qK,hi,hz],h.2⟩
  ·cases h
 ·cases h
theorem Tr.zero_rep (w:World) (U:Nat):Tr.zero.Rep w U [.int .i64 0,.slice none 0 0,.bool false,.slice none 0 0,.slice none 0 0] :=
 ⟨_,_,_,rfl,.inl ⟨nilS,rfl⟩,.inl ⟨nilS,rfl⟩,.inl ⟨nilS,rfl⟩⟩
theorem xM.one {w:World} {U:Nat} {v:Value} {l:List UInt8} (h:xM w U v l):v.oneCell'=true:=by
 rcases h with ⟨⟨_,_,rfl⟩,_⟩ | ⟨q,o,cap,rfl,_⟩<;>rfl
theorem Tr.Rep.one {w:World} {U:Nat} {t:Tr} {cs:List Value} (h:t.Rep w U cs):∀ v ∈ cs,v.oneCell'=true:=by
 cases t with
 | mk n s nl l u =>
  obtain ⟨sv,lv,uv,rfl,h1,h2,h3⟩:=h
  have e1:=h1.one
  have e2:uv.oneCell'=true:=by rcases h2 with ⟨⟨_,_,rfl⟩,_⟩ | ⟨q,o,cap,rfl,_⟩<;>rfl
  have e3:lv.oneCell'=true:=by rcases h3 with ⟨⟨_,_,rfl⟩,_⟩ | ⟨q,o,cap,rfl,_⟩<;>rfl
  intro v hv
  simp only[List.mem_cons,List.not_mem_nil,or_false] at hv
  rcases hv with rfl | rfl | rfl | rfl | rfl<;>first | rfl | assumption
theorem SF.Rep.one {w:World} {U:Nat} {f:SF} {cs:List Value} (h:f.Rep w U cs):∀ v ∈ cs,v.oneCell'=true:=by
 cases f with
 | mk =>
  obtain ⟨sv,rfl,h3⟩:=h
  have e3:sv.oneCell'=true:=by rcases h3 with ⟨rfl,_⟩ | ⟨q,o,cap,rfl,_⟩<;>rfl
  intro v hv
  simp only[List.mem_cons,List.not_mem_nil,or_false] at hv
  rcases hv with rfl | rfl | rfl | rfl | rfl | rfl | rfl | rfl<;>first | rfl | assumption
theorem s_at (H:SEnv P E) (HL:SLay P E) (ht:Text P E.sAt 2 16 #[.cell 4 E.tT] (c_sAt E)) {t:Tr} {ts:List Value} {i:Nat} (hr:t.Rep w U ts) (hU:U<=w.heap.size) :
  qa P E.sAt #[.agg ts.toArray,.int .i64 i] w fun r w'=>∃ c,r=.agg c.toArray/\(t.at i).Rep w U c/\Below U w w':=by
 refine qa.enter ht zS ?_
 intro a hsz hdf harg
 have e0:=harg 0 (.agg ts.toArray) zS
 have e1:=harg 1 (.int .i64 i) zS
 obtain ⟨z,hz,hzc⟩:=xD HL.tree
 cases t with
 | mk n s nl l u =>
 obtain ⟨s1,lv,s3,rfl,_,_,hl⟩:=hr
 unfold c_sAt
 refine vX ?_
 refine xI (v:=.agg [Value.int .i64 n,s1,.bool nl,lv,s3].toArray) zA ?_
 refine qI hz ?_
 refine dn ?_
 rw[hzc]
 generalize hw1:w.alloc (.cells (Value.agg [Value.int .i64 n,s1,.bool nl,lv,s3].toArray).cells E.tT)=w1
 have hb1:Below U w w1:=by rw[← hw1];exact (Below.refl U w).alloc (o:=.cells _ _) hU
 have hz1:w1.heap.size=w.heap.size+1:=by rw[← hw1];simp
 have c3:w1.cell? ⟨w.heap.size,3,none⟩=some lv:=by rw[← hw1];exact qs w _ E.tT (i:=3) rfl
 clear hw1
 generalize hw2:w1.alloc (.cells #[.int .i64 0,.slice none 0 0,.bool false,.slice none 0 0,.slice none 0 0] E.tT)=w2
 have hb2:Below U w w2:=by rw[← hw2];exact hb1.trans ((Below.refl U w1).alloc (o:=.cells _ _) zH)
 have d3:w2.cell? ⟨w.heap.size,3,none⟩=some lv:=by rw[← hw2];exact (Eff.refl (fun _ _=>False) w1 |>.alloc _).cellSome c3 (fun h=>h)
 have hfree:∀ j,j<5->qt w2 w1.heap.size (0+j):=by
  intro j hj
  rw[← hw2,Nat.zero_add]
  exact qm w1 _ E.tT (by simpa using hj)
 have hz2:w2.heap.size=w1.heap.size+1:=by rw[← hw2];simp
 clear hw2
 have fin:∀ (A:Act) (c:List Value),A.defers=[]->A.eval (.tmp 4)=.pointer (some ⟨w1.heap.size,0,none⟩)->((Tr.mk n s nl l u).at i).Rep w U c->Out P #[.cell 4 E.tT] (fun r w'=>∃ c,r=.agg c.toArray/\((Tr.mk n s nl l u).at i).Rep w U c/\Below U w w') .ret A (setCells w2 w1.heap.size 0 c):=by
  intro A c hd h4 hc
  have hbs:Below U w (setCells w2 w1.heap.size 0 c):=hb2.trans ((qe w1.heap.size c w2 0).below zH (by rintro k i hk ⟨rfl,_,_⟩;omega))
  refine ⟨hd,.agg c.toArray,z8 h4 (by rw[hc.len];exact H.aTree) ?_,c,rfl,hc,hbs⟩
  intro j v hv
  exact qg w1.heap.size c w2 0 (fun j hj=>(hfree j (by rw[hc.len] at hj;exact hj)).1) j v hv
 have hlen:∃ ad cap,lv=.slice ad l.len cap/\(l.len=0\/∃ q o,ad=some ⟨q,o,none⟩/\q<U/\l.Rep w U q o):=by
  rcases hl with ⟨⟨ad,cap,rfl⟩,h0⟩ | ⟨q,o,cap,rfl,_,hq,hrep⟩
  ·exact ⟨ad,cap,by rw[h0],.inl h0⟩
  ·exact ⟨_,cap,rfl,.inr ⟨q,o,rfl,hq,hrep⟩⟩
 obtain ⟨ad,cap,rfl,had⟩:=hlen
 refine vS (vX (rM ?_))
 refine rF (b:=w.heap.size) (o:=0) zE (ql H.fTree (by decide)) ?_
 refine rL (b:=w.heap.size) (o:=3) zM H.oTrees d3 ?_
 refine x7 (ad:=ad) (n:=l.len) (c:=cap) (rB H.rTrees) zE ?_
 refine qV (k:=.i64) (m:=(i:Int)) (n:=(l.len:Int)) zA zE ?_
 refine dn ?_
 refine vS (vC (t:=decide ((i:Int)<(l.len:Int))) zM ?_ ?_)
 ·intro hlt
  have hlt':i<l.len:=by simpa using hlt
  obtain ⟨q,o,rfl,hq,hrep⟩:=had.resolve_left zH
  obtain ⟨t,hget⟩:=Trs.get_lt l i hlt'
  obtain ⟨c,hc,hrc⟩:=hrep.get hget
  have hat:(Tr.mk n s nl l u).at i=t:=by simp[Tr.at,hget]
  rw[hat] at fin ⊢
  refine vX ?_
  refine rF (b:=w.heap.size) (o:=0) zE (ql H.fTree (by decide)) ?_
  refine rL (b:=w.heap.size) (o:=3) zM H.oTrees d3 ?_
  refine rM ?_
  refine qA (k:=.i64) (j:=i) (b:=q) (o:=o) (len:=l.len) (cap:=cap) (rB H.rTrees) zE zA hlt' ?_
  refine qf (b:=q) (o:=o+i*5) (cs:=c) zE (by rw[hrc.len];exact H.aTree) (hc.below hb2 hq) ?_
  refine qu (b:=w1.heap.size) (o:=0) (cs:=c) zE zE hrc.one (by rw[hrc.len];exact H.aTree) (by rw[hrc.len];exact hfree) ?_
  refine dn (vS (vT ?_))
  exact fin _ c (by simp only[dF];exact hdf) zM hrc
 ·intro hge
  have hge':l.len<=i:=by simpa using hge
  have hat:(Tr.mk n s nl l u).at i=Tr.zero:=by simp[Tr.at,Trs.get_ge l i hge']
  rw[hat] at fin ⊢
  refine vK (vN (vX ?_))
  refine z6 (cells:=#[.int .i64 0,.slice none 0 0,.bool false,.slice none 0 0,.slice none 0 0]) HL.tree (by simp[Instr.fill]) ?_
  refine qu (b:=w1.heap.size) (o:=0) (cs:=[.int .i64 0,.slice none 0 0,.bool false,.slice none 0 0,.slice none 0 0]) zE zE (Tr.zero_rep w U).one H.aTree hfree ?_
  refine dn (vS (vT ?_))
  exact fin _ _ (by simp only[dF];exact hdf) zM (Tr.zero_rep w U)
end
end Go.Km
namespace Go.Km
open Go Go.RowKit
attribute [local irreducible] vc rO_ qz qJ qF
def xl (w:World) (v:Value) (l:List UInt8):Prop :=
 (v=.slice none 0 0/\l=[])\/∃ q o cap,v=.slice (some ⟨q,o,none⟩) l.length cap/\qb w q o (l.map bv)
theorem xl.of_own {w:World} {U:Nat} {e:TypeId} {v:Value} {l:List UInt8} (h:w.ownsRow U e 1 v l.length (l.map bv)):xl w v l:=by
 rcases h.2 with ⟨rfl,h0⟩ | ⟨g,cap,cur,rfl,hbg,hg,hnc,hcm,hcs,htake⟩
 ·exact .inl ⟨rfl,List.eq_nil_of_length_eq_zero h0⟩
 ·refine .inr ⟨g,0,cap,rfl,?_⟩
  intro j u hu
  have:=h.cells (g:=g) rfl j u hu
  rwa [Addr.add_lit] at this
theorem xl.form {w:World} {v:Value} {l:List UInt8} (h:xl w v l):∃ ad cap,v=.slice ad l.length cap:=by
 rcases h with ⟨rfl,rfl⟩ | ⟨q,o,cap,rfl,_⟩<;>exact ⟨_,_,rfl⟩
theorem xl.at {w:World} {v:Value} {l:List UInt8} (h:xl w v l) {i:Nat} (hi:i<l.length):∃ q o cap,v=.slice (some ⟨q,o,none⟩) l.length cap/\w.cell? ⟨q,o+i,none⟩=some (.int .u8 (l[i]).toNat):=by
 rcases h with ⟨rfl,rfl⟩ | ⟨q,o,cap,rfl,hc⟩
 ·simp at hi
 ·refine ⟨q,o,cap,rfl,?_⟩
  exact hc i (bv l[i]) (by simp[hi])
theorem cell_heap {w w':World} (h:w'.heap=w.heap) (p:Addr):w'.cell? p=w.cell? p:=by
 unfold World.cell?
 rw[h]
theorem xl.heap {w w':World} (h:w'.heap=w.heap) {v:Value} {l:List UInt8} (hr:xl w v l):xl w' v l:=by
 rcases hr with hr | ⟨q,o,cap,h1,h2⟩
 ·exact .inl hr
 ·exact .inr ⟨q,o,cap,h1,fun i u hu=>by rw[cell_heap h];exact h2 i u hu⟩
section
variable {P : Program} {a : Act} {w : World} {Q : Exit → Act → World → Prop}
theorem xd {ops:List Oper} (ord:List (Nat × Bool)) (S:World->Prop) (hm:P.follows .mixedOrders=true) (hs:Region.noSelect ops.toArray=true) (hl:ord.length=ops.length) (hB:ordB ops.toArray ord (Array.replicate ops.length false)=true)
  (hQ:∀ c a a' w,Q (.panic c) a w->Q (.panic c) a' w) (h:qF P ops Q S ord a { w with drawn:=w.drawn+1 }):vc P (rgd ops) Q a w:=vc_runD ord S hm hs hl hB hQ h
end
section
variable {P : Program} {E : Env} {w : World} {U : Nat}
set_option maxHeartbeats 600000 in
theorem vU (hrw:xe P E.tB E.tU8 1=true) (hU8:qQ P E.tU8=true) (hmix:P.follows .mixedOrders=true) (ht:Text P E.sSame 2 26 #[.tmp 4] (gl E)) {v1 v2:Value} {xs ys:List UInt8} (h1:xl w v1 xs) (h2:xl w v2 ys) (hb1:xs.length<=big) (hb2:ys.length<=big) :
  qa P E.sSame #[v1,v2] w fun r w'=>r=.bool (decide (xs=ys))/\Below U w w':=by
 unfold big at hb1 hb2
 refine qa.enter ht zS ?_
 intro a hsz hdf harg
 have e0:=harg 0 v1 zS
 have e1:=harg 1 v2 zS
 have hsl:=rB hrw
 obtain ⟨ad1,cap1,f1⟩:=h1.form
 obtain ⟨ad2,cap2,f2⟩:=h2.form
 unfold gl
 refine vX (rA (dn (vS (vX (rM ?_)))))
 refine x7 (ad:=ad1) (n:=xs.length) (c:=cap1) hsl (by simp (disch:=(try simp only[sP]);omega) only[eV,e0,f1]) ?_
 refine rM ?_
 refine x7 (ad:=ad2) (n:=ys.length) (c:=cap2) hsl (by simp (disch:=(try simp only[sP]);omega) only[eV,e1,f2]) ?_
 refine r_neq (k:=.i64) (m:=(xs.length:Int)) (n:=(ys.length:Int)) zE zE ?_
 refine dn ?_
 refine vS (vC (t:=((xs.length:Int) != (ys.length:Int))) zM ?_ ?_)
 ·intro hne
  have hne':¬ xs=ys:=by
   intro he
   subst he
   simp at hne
  refine vX (rA (dn (vS (vT ?_))))
  exact ⟨by simp only[dF];exact hdf,_,rO zM,by simp[hne'],Below.refl _ _⟩
 intro heq
 have hlen:xs.length=ys.length:=by simp only[bne_eq_false_iff_eq] at heq;omega
 refine vK (vN (vS (vX (rM ?_))))
 refine x7 (ad:=ad1) (n:=xs.length) (c:=cap1) hsl (by simp (disch:=(try simp only[sP]);omega) only[eV,e0,f1]) ?_
 refine rM (dn ?_)
 refine vS (qh (xG (fun m A W=>m<=xs.length/\A.tmps.size=26/\A.defers=[]/\A.eval (.tmp 0)=v1/\A.eval (.tmp 1)=v2/\A.eval (.tmp 12)=.int .i64 (xs.length:Int)/\A.eval (.tmp 13)=.int .i64 ((xs.length-m:Nat):Int) ∧
  W.heap=w.heap/\Below U w W/\∀ j (h:j<xs.length),j<xs.length-m->xs[j]=ys[j]'zH) xs.length ?_ ?_ ?_))
 ·refine ⟨Nat.le_refl _,by simp only[zP];exact hsz,by simp only[dF];exact hdf,zA,zA,zE,?_,rfl,Below.refl _ _,fun j h h'=>by omega⟩
  simp (disch:=(try simp only[sP]);omega) only[eV]
  simp
 ·rintro m A W ⟨hm,hs,hd,g0,g1,g12,g13,hheap,hbl,hall⟩
  have hi:xs.length-(m+1)<xs.length:=by omega
  generalize hii:xs.length-(m+1)=i at *
  have r1:=h1.heap hheap
  have r2:=h2.heap hheap
  obtain ⟨q1,o1,c1,k1,l1⟩:=r1.at hi
  obtain ⟨q2,o2,c2,k2,l2⟩:=r2.at (show i<ys.length by omega)
  obtain ⟨x8,hx8⟩:∃ x8:Nat,(xs[i]).toNat=x8:=⟨_,rfl⟩
  obtain ⟨y8,hy8⟩:∃ y8:Nat,(ys[i]'zH).toNat=y8:=⟨_,rfl⟩
  rw[hx8] at l1
  rw[hy8] at l2
  refine vX ?_
  refine qV (k:=.i64) (m:=(i:Int)) (n:=(xs.length:Int)) g13 g12 ?_
  refine dn ?_
  refine vS (vC (t:=true) ?_ ?_ (fun h=>by cases h))
  ·simp (disch:=(try simp only[sP]);omega) only[eV]
   simp only[Value.bool.injEq,decide_eq_true_eq]
   omega
  intro _
  refine vK ?_
  refine vS (qh (vX ?_))
  refine rM (rA (dn ?_))
  refine vS (xd [(0,true),(1,true),(2,true),(3,true),(4,true),(5,true),(6,true),(7,true),(8,true)] (fun W'=>W'.heap=W.heap) hmix (by kernel_rfl) rfl (by kernel_rfl) (fun _ _ _ _ h=>False.elim h) ?_)
  have hS:({ W with drawn:=W.drawn+1 }:World).heap=W.heap:=rfl
  have hs0:=hs
  refine dP rfl rfl rfl (wN rfl) (by simp only[zP,hs];decide) hS (fun w' hS'=>rM (dn ⟨rfl,rfl,rfl⟩)) ?_
  refine dP rfl rfl rfl (wN rfl) (by simp only[zP,hs];decide) hS (fun w' hS'=>rM (dn ⟨rfl,rfl,rfl⟩)) ?_
  refine dP rfl rfl rfl (wN rfl) (by simp only[zP,hs];decide) hS (fun w' hS'=>qA (k:=.i64) (j:=i) (b:=q1) (o:=o1) (len:=xs.length) (cap:=c1) hsl (by simp (disch:=(try simp only[sP]);omega) only[eV,g0,k1]) zA hi (dn ⟨rfl,rfl,rfl⟩)) ?_
  refine dP rfl rfl rfl (wN rfl) (by simp only[zP,hs];decide) hS (fun w' hS'=>rL (b:=q1) (o:=o1+i*1) zE hU8 (by rw[cell_heap hS',Nat.mul_one];exact l1) (dn ⟨rfl,rfl,rfl⟩)) ?_
  refine dP rfl rfl rfl (wN rfl) (by simp only[zP,hs];decide) hS (fun w' hS'=>rM (dn ⟨rfl,rfl,rfl⟩)) ?_
  refine dP rfl rfl rfl (wN rfl) (by simp only[zP,hs];decide) hS (fun w' hS'=>rM (dn ⟨rfl,rfl,rfl⟩)) ?_
  refine dP rfl rfl rfl (wN rfl) (by simp only[zP,hs];decide) hS (fun w' hS'=>qA (k:=.i64) (j:=i) (b:=q2) (o:=o2) (len:=ys.length) (cap:=c2) hsl (by simp (disch:=(try simp only[sP]);omega) only[eV,g1,k2]) zA zH (dn ⟨rfl,rfl,rfl⟩)) ?_
  refine dP rfl rfl rfl (wN rfl) (by simp only[zP,hs];decide) hS (fun w' hS'=>rL (b:=q2) (o:=o2+i*1) zE hU8 (by rw[cell_heap hS',Nat.mul_one];exact l2) (dn ⟨rfl,rfl,rfl⟩)) ?_
  refine dP rfl rfl rfl (wN rfl) (by simp only[zP,hs];decide) hS (fun w' hS'=>r_neq (k:=.u8) (m:=(x8:Int)) (n:=(y8:Int)) zE zE (dn ⟨rfl,rfl,rfl⟩)) ?_
  refine xC ?_
  have hbl':Below U w { W with drawn:=W.drawn+1 }:=⟨hbl.os,hbl.tape,hbl.output,hbl.size,hbl.block⟩
  refine vS (vC (t:=((x8:Int) != (y8:Int))) zM ?_ ?_)
  ·intro hne
   have hne':¬ xs=ys:=by
    intro he
    subst he
    rw[hx8] at hy8
    subst hy8
    simp at hne
   refine vX (rA (dn (vS (vT ?_))))
   exact ⟨by simp only[dF];exact hd,_,rO zM,by simp[hne'],hbl'⟩
  ·intro hq
   have hxy:xs[i]=ys[i]'zH:=by
    have:(xs[i]).toNat=(ys[i]'zH).toNat:=by
     simp only[bne_eq_false_iff_eq] at hq
     rw[hx8,hy8]
     omega
    exact UInt8.toNat_inj.1 this
   refine vK (vN (vX ?_))
   refine xN (k:=.i64) (m:=(i:Int)) (n:=1) zA rfl ?_
   refine rM (dn (vN ?_))
   refine ⟨by omega,by simp only[zP];exact hs,by simp only[dF];exact hd,zA,zA,zA,?_,hheap,hbl',fun j h h'=>?_⟩
   ·simp (disch:=(try simp only[sP]);omega) only[eV]
    rw[wrap_i64 zH zH]
    congr 1
    omega
   ·by_cases hj:j=i
    ·subst hj;exact hxy
    ·exact hall j h zH
 ·rintro A W ⟨hm,hs,hd,g0,g1,g12,g13,hheap,hbl,hall⟩
  have hxy:xs=ys:=List.ext_getElem hlen (fun j h h'=>hall j h zH)
  refine vX ?_
  refine qV (k:=.i64) (m:=((xs.length-0:Nat):Int)) (n:=(xs.length:Int)) g13 g12 ?_
  refine dn ?_
  refine vS (vC (t:=false) ?_ (fun h=>by cases h) ?_)
  ·simp (disch:=(try simp only[sP]);omega) only[eV]
   simp only[Value.bool.injEq,decide_eq_false_iff_not]
   omega
  intro _
  refine xb ?_
  simp only[Exit.then,Exit.inBlock,if_true]
  refine vN (vX (rA (dn (vS (vT ?_)))))
  exact ⟨by simp only[dF];exact hd,_,rO zM,by simp[hxy],hbl⟩
end
end Go.Km
namespace Go.Km
open Go Go.RowKit
attribute [local irreducible] vc rO_ qz qJ qF
abbrev RSt:=List UInt8 × Bool
def beN (l:List UInt8):Nat:=l.foldl (fun n b=>n*256+b.toNat) 0
def rdN (k:Nat) (st:RSt):Nat × RSt:=if st.1.length<k then (0,[],true) else (beN (st.1.take k),st.1.drop k,st.2)
def j0 (W:World) (sb:Nat) (v:Value) (l:List UInt8):Prop :=
 (v=.slice none 0 0/\l=[])\/∃ o cap,v=.slice (some ⟨sb,o,none⟩) l.length cap/\l.length<=cap/\qb W sb o (l.map bv)
structure RdS (W:World) (rb sb:Nat) (st:RSt):Prop where
 ne:rb≠sb
 lt:sb<W.heap.size
 cells:∃ v,qb W rb 0 [v,.bool st.2]/\j0 W sb v st.1
 f0:qt W rb 0
 f1:qt W rb 1
 len:st.1.length<=big
abbrev RM (rb:Nat):Nat->Nat->Prop:=fun k i=>k=rb/\i<2
theorem j0.one {W:World} {sb:Nat} {v:Value} {l:List UInt8} (h:j0 W sb v l):v.oneCell'=true:=by
 rcases h with ⟨rfl,_⟩ | ⟨o,cap,rfl,_⟩<;>rfl
theorem j0.form {W:World} {sb:Nat} {v:Value} {l:List UInt8} (h:j0 W sb v l):∃ ad cap,v=.slice ad l.length cap/\l.length<=cap:=by
 rcases h with ⟨rfl,rfl⟩ | ⟨o,cap,rfl,h,_⟩<;>exact ⟨_,_,rfl,by first | exact Nat.le_refl _ | exact h⟩
theorem j0.heap {W W':World} {sb:Nat} {v:Value} {l:List UInt8} (h:j0 W sb v l) (hk:W'.heap[sb]? = W.heap[sb]?):j0 W' sb v l:=by
 rcases h with h | ⟨o,cap,h1,h2,h3⟩
 ·exact .inl h
 ·refine .inr ⟨o,cap,h1,h2,fun i u hu=>?_⟩
  have:=h3 i u hu
  simp only[World.cell?] at this ⊢
  rw[hk]
  exact this
theorem j0.skip {W:World} {sb:Nat} {v:Value} {l:List UInt8} {ad:Option Addr} {cap n:Nat} (h:j0 W sb v l) (hv:v=.slice ad l.length cap) (hn:n<=l.length) :
  j0 W sb (.slice (if cap=n then ad else ad.map (·.add (n*1))) (l.length-n) (cap-n)) (l.drop n):=by
 rcases h with ⟨h1,h2⟩ | ⟨o,c,h1,h2,h3⟩
 ·subst h2
  rw[h1] at hv
  simp only[Value.slice.injEq,List.length_nil] at hv
  obtain ⟨rfl,_,rfl⟩:=hv
  have:n=0:=by simpa using hn
  subst this
  exact .inl ⟨by simp,by simp⟩
 ·rw[h1] at hv
  simp only[Value.slice.injEq,true_and] at hv
  obtain ⟨rfl,rfl⟩:=hv
  by_cases he:c=n
  ·subst he
   have hl:l.length=c:=by omega
   rw[if_pos rfl]
   refine .inr ⟨o,0,by rw[List.length_drop,Nat.sub_self],by rw[List.length_drop];omega,fun i u hu=>?_⟩
   rw[List.drop_eq_nil_of_le zH] at hu
   simp at hu
  ·rw[if_neg he]
   refine .inr ⟨o+n,c-n,?_,by rw[List.length_drop];omega,?_⟩
   ·rw[List.length_drop,Nat.mul_one]
    simp[Addr.add_lit]
   ·intro i u hu
    rw[List.map_drop,List.getElem?_drop] at hu
    have:=h3 _ u hu
    rwa [show o+(n+i)=o+n+i by omega] at this
theorem RdS.below {W W':World} {rb sb:Nat} {st:RSt} {B:Nat} (h:RdS W rb sb st) (hb:Below B W W') (h1:rb<B) (h2:sb<B):RdS W' rb sb st:=by
 obtain ⟨v,h3,h4⟩:=h.cells
 have hk:W'.heap[sb]? = W.heap[sb]?:=hb.block sb h2
 exact ⟨h.ne,Nat.lt_of_lt_of_le h.lt hb.size,⟨v,h3.below hb h1,h4.heap hk⟩,⟨by rw[hb.cell (p:=⟨rb,0,none⟩) h1];exact h.f0.1,by rw[hb.frozen (p:=⟨rb,0,none⟩) h1];exact h.f0.2⟩,
  ⟨by rw[hb.cell (p:=⟨rb,1,none⟩) h1];exact h.f1.1,by rw[hb.frozen (p:=⟨rb,1,none⟩) h1];exact h.f1.2⟩,h.len⟩
theorem RdS.rb_lt {W:World} {rb sb:Nat} {st:RSt} (h:RdS W rb sb st):rb<W.heap.size:=h.f0.lt
theorem RdS.set {W:World} {rb sb:Nat} {st:RSt} (h:RdS W rb sb st) {v:Value} {l:List UInt8} (hv:j0 W sb v l) (hl:l.length<=big):RdS (W.setCell ⟨rb,0,none⟩ v) rb sb (l,st.2)/\Eff (RM rb) W (W.setCell ⟨rb,0,none⟩ v):=by
 have hE:Eff (fun k i=>k=rb/\i=0) W (W.setCell ⟨rb,0,none⟩ v):=(Eff.refl _ W).setCell _ _ _ (fun _=>⟨rfl,rfl⟩)
 obtain ⟨v0,h3,h4⟩:=h.cells
 refine ⟨⟨h.ne,Nat.lt_of_lt_of_le h.lt hE.size,⟨v,?_,hv.heap (Below.heap_setCell W _ _ sb (Ne.symm h.ne))⟩,h.f0.eff hE,h.f1.eff hE,hl⟩,hE.mono (fun k i _ h=>⟨h.1,by omega⟩)⟩
 intro i u hu
 match i,hu with
 | 0,hu =>
  simp only[List.getElem?_cons_zero,Option.some.injEq] at hu
  subst hu
  exact qp v h.f0.1
 | 1,hu =>
  rw[xE _ (.inr zH)]
  exact h3 1 u hu
theorem RdS.fail {W:World} {rb sb:Nat} {st:RSt} (h:RdS W rb sb st):RdS ((W.setCell ⟨rb,1,none⟩ (.bool true)).setCell ⟨rb,0,none⟩ (.slice none 0 0)) rb sb ([],true)/\Eff (RM rb) W ((W.setCell ⟨rb,1,none⟩ (.bool true)).setCell ⟨rb,0,none⟩ (.slice none 0 0)):=by
 have hE:Eff (fun k i=>k=rb/\i=1) W (W.setCell ⟨rb,1,none⟩ (.bool true)):=(Eff.refl _ W).setCell _ _ _ (fun _=>⟨rfl,rfl⟩)
 obtain ⟨v0,h3,h4⟩:=h.cells
 have h1:RdS (W.setCell ⟨rb,1,none⟩ (.bool true)) rb sb (st.1,true):=by
  refine ⟨h.ne,Nat.lt_of_lt_of_le h.lt hE.size,⟨v0,?_,h4.heap (Below.heap_setCell W _ _ sb (Ne.symm h.ne))⟩,h.f0.eff hE,h.f1.eff hE,h.len⟩
  intro i u hu
  match i,hu with
  | 0,hu =>
   rw[xE _ (.inr zH)]
   exact h3 0 u hu
  | 1,hu =>
   simp only[List.getElem?_cons_succ,List.getElem?_cons_zero,Option.some.injEq] at hu
   subst hu
   exact qp _ h.f1.1
 have h2:=h1.set (v:=.slice none 0 0) (l:=[]) (.inl ⟨rfl,rfl⟩) (Nat.zero_le _)
 exact ⟨h2.1,(hE.mono (fun k i _ h=>⟨h.1,by omega⟩)).trans h2.2⟩
def NN (W:World) (rb:Nat):Prop:=∃ a n c y,qb W rb 0 [.slice (some a) n c,y]
theorem NN.below {W W':World} {rb B:Nat} (h:NN W rb) (hb:Below B W W') (h1:rb<B):NN W' rb:=by
 obtain ⟨a,n,c,y,h⟩:=h
 exact ⟨a,n,c,y,h.below hb h1⟩
theorem RdS.set_nn {W:World} {rb sb:Nat} {st:RSt} (h:RdS W rb sb st) {v:Value} {l:List UInt8} {ad:Option Addr} {cap n:Nat} (hs:j0 W sb v st.1) (hc:qb W rb 0 [v,.bool st.2]) (hv:v=.slice ad st.1.length cap) (hn:n<=st.1.length) (hp:0<n\/NN W rb) {k m:Nat} :
  NN (W.setCell ⟨rb,0,none⟩ (.slice (if cap=n then ad else ad.map (·.add (n*1))) k m)) rb:=by
 have hsome:∃ a,ad=some a:=by
  rcases hp with hp | ⟨a,n',c,y,hc'⟩
  ·rcases hs with ⟨_,h0⟩ | ⟨o,c,h1,_⟩
   ·rw[h0] at hn;simp at hn;omega
   ·rw[h1] at hv
    simp only[Value.slice.injEq] at hv
    exact ⟨_,hv.1.symm⟩
  ·have e1:=hc 0 v rfl
   have e2:=hc' 0 _ rfl
   rw[e1] at e2
   simp only[Option.some.injEq] at e2
   rw[hv] at e2
   simp only[Value.slice.injEq] at e2
   exact ⟨_,e2.1⟩
 obtain ⟨a,rfl⟩:=hsome
 obtain ⟨b,hb⟩:∃ b,(if cap=n then some a else (some a).map (·.add (n*1)))=some b:=by
  split
  ·exact ⟨_,rfl⟩
  ·exact ⟨_,rfl⟩
 rw[hb]
 refine ⟨b,k,m,.bool st.2,?_⟩
 intro i u hu
 match i,hu with
 | 0,hu =>
  simp only[List.getElem?_cons_zero,Option.some.injEq] at hu
  subst hu
  exact qp _ h.f0.1
 | 1,hu =>
  rw[xE _ (.inr zH)]
  exact hc 1 u hu
structure REnv (P:Program) (E:Env):Prop where
 row:xe P E.tB E.tU8 1=true
 u8:qr P E.tU8=some .u8
 int:qr P E.tI=some .i64
 oBytes:qQ P E.tB=true
 oBool:qQ P E.tO=true
 oU8:qQ P E.tU8=true
 f0:qk P E.tRd 0=some 0
 f1:qk P E.tRd 1=some 1
section
variable {P : Program} {E : Env}
theorem wL (H:REnv P E) {t X:Nat} {z:Operand} {zv:Value} {T:TypeId} {A:Act} {W:World} {rb sb:Nat} {st:RSt} {Q:Exit->Act->World->Prop} (ht:t+6<=A.tmps.size) (hX:X<A.tmps.size) (hX0:X≠0) (ht0:0<t) (hz:z=.const zv)
  (e0:A.eval (.tmp 0)=.pointer (some ⟨rb,0,none⟩)) (hr:RdS W rb sb st)
  (h:∀ A' W',A'.defers=A.defers->A'.eval (.tmp X)=zv->RdS W' rb sb ([],true)->Eff (RM rb) W W'->Q .ret A' W') :
  vc P (sq [(rg [(oQ t (.move (.tmp 0)) E.tPRd),(oQ (t+1) (.nilCheck (.tmp t)) 0),(oQ (t+2) (.fieldAddr E.tRd (.tmp (t+1)) 1) 0),⟨none,.store E.tO (.tmp (t+2)) (.const (.bool true)),0,"",#[],none⟩]),
   (rg [(oQ (t+3) (.move (.tmp 0)) E.tPRd),(oQ (t+4) (.nilCheck (.tmp (t+3))) 0),(oQ (t+5) (.fieldAddr E.tRd (.tmp (t+4)) 0) 0),⟨none,.store E.tB (.tmp (t+5)) (.const (.slice none 0 0)),0,"",#[],none⟩]),
   (rg [(oQ X (.assign z) T)]),.ret]) Q A W:=by
 have hf:=hr.fail
 refine vX (rM ?_)
 refine qY (ad:=⟨rb,0,none⟩) zA ?_
 refine rF (b:=rb) (o:=0) zE H.f1 ?_
 refine xq (b:=rb) (o:=0+1) (v:=.bool true) zE rfl rfl H.oBool (by simpa using hr.f1) ?_
 refine dn (vX (rM ?_))
 refine qY (ad:=⟨rb,0,none⟩) zA ?_
 refine rF (b:=rb) (o:=0) zE H.f0 ?_
 have hE:Eff (fun k i=>k=rb/\i=1) W (W.setCell ⟨rb,0+1,none⟩ (.bool true)):=(Eff.refl _ W).setCell _ _ _ (fun _=>⟨rfl,rfl⟩)
 refine xq (b:=rb) (o:=0+0) (v:=.slice none 0 0) zE rfl rfl H.oBytes (by simpa using hr.f0.eff hE) ?_
 refine dn (vX (rA (dn (vS (vT ?_)))))
 subst hz
 exact h _ _ (by simp only[dF]) zE hf.1 hf.2
theorem r_srcLen (H:REnv P E) {t:Nat} {A:Act} {W:World} {rb sb:Nat} {st:RSt} {r:List Oper} {Q:Exit->Act->World->Prop} (ht:t+5<=A.tmps.size) (ht0:0<t)
  (e0:A.eval (.tmp 0)=.pointer (some ⟨rb,0,none⟩)) (hr:RdS W rb sb st)
  (h:∀ A',A'.tmps.size=A.tmps.size->A'.defers=A.defers->(∀ k:Nat,k<t->A'.eval (.tmp k)=A.eval (.tmp k))->A'.eval (.tmp (t+4))=.int .i64 (st.1.length:Int)->rO_ P Q r A' W) :
  rO_ P Q ((oQ t (.move (.tmp 0)) E.tPRd)::(oQ (t+1) (.nilCheck (.tmp t)) 0)::(oQ (t+2) (.fieldAddr E.tRd (.tmp (t+1)) 0) 0)::(oQ (t+3) (.load E.tB (.tmp (t+2))) E.tB) ::
   (oQ (t+4) (.call { callee:=.builtin .len,args:=#[(.tmp (t+3))],argTypes:=#[E.tB] }) E.tI)::r) A W:=by
 obtain ⟨v,hc,hs⟩:=hr.cells
 obtain ⟨ad,cap,hv,_⟩:=hs.form
 refine rM ?_
 refine qY (ad:=⟨rb,0,none⟩) zA ?_
 refine rF (b:=rb) (o:=0) zE H.f0 ?_
 refine rL (b:=rb) (o:=0+0) (v:=v) zE H.oBytes (hc 0 v rfl) ?_
 refine x7 (ad:=ad) (n:=st.1.length) (c:=cap) (rB H.row) zA ?_
 exact h _ (by simp only[zP]) (by simp only[dF]) (fun k hk=>zE) zE
theorem vm (H:REnv P E) {t n:Nat} {A:Act} {W:World} {rb sb:Nat} {st:RSt} {r:List Oper} {Q:Exit->Act->World->Prop} (ht:t+8<=A.tmps.size) (ht0:0<t) (hn:n<=st.1.length)
  (e0:A.eval (.tmp 0)=.pointer (some ⟨rb,0,none⟩)) (hr:RdS W rb sb st)
  (h:∀ A' W',A'.tmps.size=A.tmps.size->A'.defers=A.defers->(∀ k:Nat,k<t->A'.eval (.tmp k)=A.eval (.tmp k))->RdS W' rb sb (st.1.drop n,st.2)->Eff (RM rb) W W'->(0<n\/NN W rb->NN W' rb)->rO_ P Q r A' W') :
  rO_ P Q ((oQ t (.move (.tmp 0)) E.tPRd)::(oQ (t+1) (.move (.tmp 0)) E.tPRd)::(oQ (t+2) (.nilCheck (.tmp (t+1))) 0)::(oQ (t+3) (.fieldAddr E.tRd (.tmp (t+2)) 0) 0) ::
   (oQ (t+4) (.load E.tB (.tmp (t+3))) E.tB)::(oQ (t+5) (.slice E.tB (.tmp (t+4)) (some (.const (.int .i64 (n:Int)))) none none) E.tB)::(oQ (t+6) (.nilCheck (.tmp t)) 0) ::
   (oQ (t+7) (.fieldAddr E.tRd (.tmp (t+6)) 0) 0)::⟨none,.store E.tB (.tmp (t+7)) (.tmp (t+5)),0,"",#[],none⟩::r) A W:=by
 obtain ⟨v,hc,hs⟩:=hr.cells
 obtain ⟨ad,cap,hv,hcap⟩:=hs.form
 have hsk:=hs.skip hv hn
 have hset:=hr.set hsk (by rw[List.length_drop];have:=hr.len;omega)
 refine rM (rM ?_)
 refine qY (ad:=⟨rb,0,none⟩) zA ?_
 refine rF (b:=rb) (o:=0) zE H.f0 ?_
 refine rL (b:=rb) (o:=0+0) (v:=v) zE H.oBytes (hc 0 v rfl) ?_
 refine yh (ad:=ad) (len:=st.1.length) (cap:=cap) n st.1.length cap (rB H.row) zA ⟨.i64,rfl⟩ ⟨rfl,rfl⟩ rfl hn hcap (Nat.le_refl _) ?_
 refine qY (ad:=⟨rb,0,none⟩) zA ?_
 refine rF (b:=rb) (o:=0) zE H.f0 ?_
 refine xq (b:=rb) (o:=0+0) zE zE hsk.one H.oBytes (by simpa using hr.f0) ?_
 exact h _ _ (by simp only[zP]) (by simp only[dF]) (fun k hk=>zE) hset.1 hset.2 (fun hp=>hr.set_nn (l:=[]) hs hc hv hn hp)
theorem r_skipT (H:REnv P E) {t n x:Nat} {kk:IntKind} {A:Act} {W:World} {rb sb:Nat} {st:RSt} {r:List Oper} {Q:Exit->Act->World->Prop} (ht:t+9<=A.tmps.size) (ht0:0<t) (hx:x<t) (hn:n<=st.1.length) (hxv:A.eval (.tmp x)=.int kk (n:Int))
  (e0:A.eval (.tmp 0)=.pointer (some ⟨rb,0,none⟩)) (hr:RdS W rb sb st)
  (h:∀ A' W',A'.tmps.size=A.tmps.size->A'.defers=A.defers->(∀ k:Nat,k<t->A'.eval (.tmp k)=A.eval (.tmp k))->RdS W' rb sb (st.1.drop n,st.2)->Eff (RM rb) W W'->(0<n\/NN W rb->NN W' rb)->rO_ P Q r A' W') :
  rO_ P Q ((oQ t (.move (.tmp 0)) E.tPRd)::(oQ (t+1) (.move (.tmp 0)) E.tPRd)::(oQ (t+2) (.nilCheck (.tmp (t+1))) 0)::(oQ (t+3) (.fieldAddr E.tRd (.tmp (t+2)) 0) 0) ::
   (oQ (t+4) (.load E.tB (.tmp (t+3))) E.tB)::(oQ (t+5) (.move (.tmp x)) E.tI)::(oQ (t+6) (.slice E.tB (.tmp (t+4)) (some (.tmp (t+5))) none none) E.tB)::(oQ (t+7) (.nilCheck (.tmp t)) 0) ::
   (oQ (t+8) (.fieldAddr E.tRd (.tmp (t+7)) 0) 0)::⟨none,.store E.tB (.tmp (t+8)) (.tmp (t+6)),0,"",#[],none⟩::r) A W:=by
 obtain ⟨v,hc,hs⟩:=hr.cells
 obtain ⟨ad,cap,hv,hcap⟩:=hs.form
 have hsk:=hs.skip hv hn
 have hset:=hr.set hsk (by rw[List.length_drop];have:=hr.len;omega)
 refine rM (rM ?_)
 refine qY (ad:=⟨rb,0,none⟩) zA ?_
 refine rF (b:=rb) (o:=0) zE H.f0 ?_
 refine rL (b:=rb) (o:=0+0) (v:=v) zE H.oBytes (hc 0 v rfl) ?_
 refine rM ?_
 refine yh (ad:=ad) (len:=st.1.length) (cap:=cap) n st.1.length cap (rB H.row) zA ⟨kk,zA⟩ ⟨rfl,rfl⟩ rfl hn hcap (Nat.le_refl _) ?_
 refine qY (ad:=⟨rb,0,none⟩) zA ?_
 refine rF (b:=rb) (o:=0) zE H.f0 ?_
 refine xq (b:=rb) (o:=0+0) zE zE hsk.one H.oBytes (by simpa using hr.f0) ?_
 exact h _ _ (by simp only[zP]) (by simp only[dF]) (fun k hk=>zE) hset.1 hset.2 (fun hp=>hr.set_nn (l:=[]) hs hc hv hn hp)
end
end Go.Km
namespace Go.Km
open Go Go.RowKit
attribute [local irreducible] vc rO_ qz qJ qF
theorem j5 (s:Nat) {m b K:Nat} (hK:2 ^ s=K) (hm:m<K):m ||| (b*K)=m+b*K:=by
 subst hK
 rw[← Nat.shiftLeft_eq,Nat.or_comm,← Nat.shiftLeft_add_eq_or_of_lt hm,Nat.add_comm]
def unsK (k:IntKind) (K:Nat):Bool:=(k==.u16&&K==65536)||(k==.u32&&K==4294967296)||(k==.u64&&K==18446744073709551616)
theorem unsK_wrap {k:IntKind} {K:Nat} (h:unsK k K=true) {n:Nat} (hn:n<K):k.wrap (n:Int)=(n:Int):=by
 simp only[unsK,Bool.or_eq_true,Bool.and_eq_true,beq_iff_eq] at h
 rcases h with (⟨rfl,rfl⟩ | ⟨rfl,rfl⟩) | ⟨rfl,rfl⟩
 ·have:IntKind.u16.wrap (n:Int)=(n:Int) % 65536:=by simp[IntKind.wrap,IntKind.bits,IntKind.signed]
  rw[this];omega
 ·rw[jI];omega
 ·rw[zj];omega
section
variable {P : Program} {E : Env} {a : Act} {w : World} {r : List Oper} {Q : Exit → Act → World → Prop}
theorem za {d s t x ty p af g k' K} {n:Nat} (hs:qr P s=some .u8) (ht:qr P t=some k') (hK:unsK k' K=true) (hx:a.eval x=.int .u8 (n:Int)) (hn:n<2 ^ 8) (h:rO_ P Q r (a.put (some d) (.int k' (n:Int))) w) :
  rO_ P Q (⟨some d,.convert s t x,ty,p,af,g⟩::r) a w:=by
 refine qL hs ht hx ?_
 have:n<K:=by
  simp only[unsK,Bool.or_eq_true,Bool.and_eq_true,beq_iff_eq] at hK
  rcases hK with (⟨_,rfl⟩ | ⟨_,rfl⟩) | ⟨_,rfl⟩<;>omega
 rw[unsK_wrap hK this]
 exact h
theorem jO {d xt x y yt ty p af g k K} {n c mm:Nat} (hK:unsK k K=true) (hx:a.eval x=.int k (n:Int)) (hy:y=.const (.int .u64 (c:Int))) (hm:2 ^ (min c k.bits)=mm) (hb:n*mm<K) (h:rO_ P Q r (a.put (some d) (.int k ((n*mm:Nat):Int))) w) :
  rO_ P Q (⟨some d,.binOp .shl xt x y yt,ty,p,af,g⟩::r) a w:=by
 subst hy
 refine r_shl hx rfl zS ?_
 have:(n:Int)*2 ^ (min ((c:Int).toNat) k.bits)=((n*mm:Nat):Int):=by
  rw[Int.toNat_natCast,← hm]
  push_cast
  rfl
 rw[this,unsK_wrap hK hb]
 exact h
theorem kU {d xt x y yt ty p af g k K} {m n v:Nat} (hK:unsK k K=true) (hx:a.eval x=.int k (m:Int)) (hy:a.eval y=.int k (n:Int)) (he:m ||| n=v) (hm:m<K) (hn:n<K) (h:rO_ P Q r (a.put (some d) (.int k (v:Int))) w) :
  rO_ P Q (⟨some d,.binOp .or xt x y yt,ty,p,af,g⟩::r) a w:=by
 refine yO (v:=.int k (v:Int)) hx hy zS ?_ h
 subst he
 simp only[unsK,Bool.or_eq_true,Bool.and_eq_true,beq_iff_eq] at hK
 rcases hK with (⟨rfl,rfl⟩ | ⟨rfl,rfl⟩) | ⟨rfl,rfl⟩
 ·show (pure (Value.int .u16 (bits .or .u16 (m:Int) (n:Int))):Sem Value)=_
  rw[u16_or_nat m n hm hn]
 ·show (pure (Value.int .u32 (bits .or .u32 (m:Int) (n:Int))):Sem Value)=_
  rw[u32_or_nat m n hm hn]
 ·show (pure (Value.int .u64 (bits .or .u64 (m:Int) (n:Int))):Sem Value)=_
  rw[u64_or_nat m n hm hn]
end
section
variable {P : Program} {E : Env}
theorem be_u16 (H:REnv P E) (hu:qr P E.tU16=some .u16) (hm:P.follows .mixedOrders=true) (ht:Text P E.bU16 2 18 #[.tmp 4] (c_bU16 E)) {b0 b1:UInt8} {l:List UInt8} {W:World} {sb o cap:Nat} (hl:(b0::b1::l).length<=cap) (hc:qb W sb o ((b0::b1::l).map bv)) (hsb:sb<W.heap.size) :
  qa P E.bU16 #[.agg #[],.slice (some ⟨sb,o,none⟩) (b0::b1::l).length cap] W fun v w'=>v=.int .u16 ((beN [b0,b1]:Nat):Int)/\Below W.heap.size W w':=by
 refine qa.enter ht zS ?_
 intro a hsz hdf harg
 have e0:=harg 0 (.agg #[]) zS
 have e1:=harg 1 (.slice (some ⟨sb,o,none⟩) (b0::b1::l).length cap) zS
 have hsl:=rB H.row
 have hb0:=b0.toNat_lt
 have hb1:=b1.toNat_lt
 unfold c_bU16
 refine vX ?_
 refine xI (v:=.agg #[]) zA ?_
 refine rA (dn ?_)
 have hb:Below W.heap.size W (W.alloc (.cells (Value.agg #[]).cells E.tBE)):=(Below.refl W.heap.size W).alloc (o:=.cells _ _) (Nat.le_refl _)
 have hc1:qb (W.alloc (.cells (Value.agg #[]).cells E.tBE)) sb o ((b0::b1::l).map bv):=hc.below hb hsb
 generalize W.alloc (.cells (Value.agg #[]).cells E.tBE)=V at *
 refine vX (rM ?_)
 refine qA (k:=.i64) (j:=1) (b:=sb) (o:=o) (len:=(b0::b1::l).length) (cap:=cap) hsl zA rfl (by simp only[List.length_cons];omega) ?_
 refine rL (b:=sb) (o:=o+1*1) (v:=bv b1) zE H.oU8 (hc1 1 _ rfl) ?_
 refine dn ?_
 have hS:(fun W':World=>qb W' sb o ((b0::b1::l).map bv)) { V with drawn:=V.drawn+1 }:=hc1
 refine vS (xd [(0,true),(1,true),(2,true),(3,true),(4,true),(5,true),(6,true),(7,true),(8,true),(9,true),(10,true)] (fun W'=>qb W' sb o ((b0::b1::l).map bv)) hm (by kernel_rfl) rfl (by kernel_rfl) (fun _ _ _ _ h=>False.elim h) ?_)
 refine dP rfl rfl rfl (wN rfl) (by simp only[zP,hsz];decide) hS (fun w' hS'=>rM (dn ⟨rfl,rfl,rfl⟩)) ?_
 refine dP rfl rfl rfl (wN rfl) (by simp only[zP,hsz];decide) hS (fun w' hS'=>qA (k:=.i64) (j:=1) (b:=sb) (o:=o) (len:=(b0::b1::l).length) (cap:=cap) hsl zA rfl (by simp only[List.length_cons];omega) (dn ⟨rfl,rfl,rfl⟩)) ?_
 refine dP rfl rfl rfl (wN rfl) (by simp only[zP,hsz];decide) hS (fun w' hS'=>rL (b:=sb) (o:=o+1*1) (v:=bv b1) zM H.oU8 (hS' 1 _ rfl) (dn ⟨rfl,rfl,rfl⟩)) ?_
 refine dP rfl rfl rfl (wN rfl) (by simp only[zP,hsz];decide) hS (fun w' hS'=>za (K:=65536) (n:=b1.toNat) H.u8 hu (by decide) zM hb1 (dn ⟨rfl,rfl,rfl⟩)) ?_
 refine dP rfl rfl rfl (wN rfl) (by simp only[zP,hsz];decide) hS (fun w' hS'=>rM (dn ⟨rfl,rfl,rfl⟩)) ?_
 refine dP rfl rfl rfl (wN rfl) (by simp only[zP,hsz];decide) hS (fun w' hS'=>qA (k:=.i64) (j:=0) (b:=sb) (o:=o) (len:=(b0::b1::l).length) (cap:=cap) hsl zA rfl (by simp only[List.length_cons];omega) (dn ⟨rfl,rfl,rfl⟩)) ?_
 refine dP rfl rfl rfl (wN rfl) (by simp only[zP,hsz];decide) hS (fun w' hS'=>rL (b:=sb) (o:=o+0*1) (v:=bv b0) zM H.oU8 (hS' 0 _ rfl) (dn ⟨rfl,rfl,rfl⟩)) ?_
 refine dP rfl rfl rfl (wN rfl) (by simp only[zP,hsz];decide) hS (fun w' hS'=>za (K:=65536) (n:=b0.toNat) H.u8 hu (by decide) zM hb0 (dn ⟨rfl,rfl,rfl⟩)) ?_
 refine dP rfl rfl rfl (wN rfl) (by simp only[zP,hsz];decide) hS (fun w' hS'=>jO (k:=.u16) (n:=b0.toNat) (c:=8) (mm:=256) (K:=65536) (by decide) zE rfl (by decide) zH (dn ⟨rfl,rfl,rfl⟩)) ?_
 refine dP rfl rfl rfl (wN rfl) (by simp only[zP,hsz];decide) hS (fun w' hS'=>kU (k:=.u16) (m:=b1.toNat) (n:=b0.toNat*256) (v:=b1.toNat+b0.toNat*256) (K:=65536) (by decide) zE zE (j5 8 (by decide) zH) zH zH (dn ⟨rfl,rfl,rfl⟩)) ?_
 refine dP rfl rfl rfl (wN rfl) (by simp only[zP,hsz];decide) hS (fun w' hS'=>rA (dn ⟨rfl,rfl,rfl⟩)) ?_
 refine xC ?_
 refine vS (vT ?_)
 refine ⟨by simp only[dF];exact hdf,_,rO zM,?_,⟨hb.os,hb.tape,hb.output,hb.size,hb.block⟩⟩
 simp only[Value.int.injEq,true_and,beN,List.foldl]
 omega
theorem be_u32 (H:REnv P E) (hu:qr P E.tW=some .u32) (hm:P.follows .mixedOrders=true) (ht:Text P E.bU32 2 30 #[.tmp 4] (c_bU32 E)) {b0 b1 b2 b3:UInt8} {l:List UInt8} {W:World} {sb o cap:Nat} (hl:(b0::b1::b2::b3::l).length<=cap) (hc:qb W sb o ((b0::b1::b2::b3::l).map bv)) (hsb:sb<W.heap.size) :
  qa P E.bU32 #[.agg #[],.slice (some ⟨sb,o,none⟩) (b0::b1::b2::b3::l).length cap] W fun v w'=>v=.int .u32 ((beN [b0,b1,b2,b3]:Nat):Int)/\Below W.heap.size W w':=by
 refine qa.enter ht zS ?_
 intro a hsz hdf harg
 have e0:=harg 0 (.agg #[]) zS
 have e1:=harg 1 (.slice (some ⟨sb,o,none⟩) (b0::b1::b2::b3::l).length cap) zS
 have hsl:=rB H.row
 have hb0:=b0.toNat_lt
 have hb1:=b1.toNat_lt
 have hb2:=b2.toNat_lt
 have hb3:=b3.toNat_lt
 unfold c_bU32
 refine vX ?_
 refine xI (v:=.agg #[]) zA ?_
 refine rA (dn ?_)
 have hb:Below W.heap.size W (W.alloc (.cells (Value.agg #[]).cells E.tBE)):=(Below.refl W.heap.size W).alloc (o:=.cells _ _) (Nat.le_refl _)
 have hc1:qb (W.alloc (.cells (Value.agg #[]).cells E.tBE)) sb o ((b0::b1::b2::b3::l).map bv):=hc.below hb hsb
 generalize W.alloc (.cells (Value.agg #[]).cells E.tBE)=V at *
 refine vX (rM ?_)
 refine qA (k:=.i64) (j:=3) (b:=sb) (o:=o) (len:=(b0::b1::b2::b3::l).length) (cap:=cap) hsl zA rfl (by simp only[List.length_cons];omega) ?_
 refine rL (b:=sb) (o:=o+3*1) (v:=bv b3) zE H.oU8 (hc1 3 _ rfl) ?_
 refine dn ?_
 have hS:(fun W':World=>qb W' sb o ((b0::b1::b2::b3::l).map bv)) { V with drawn:=V.drawn+1 }:=hc1
 refine vS (xd [(0,true),(1,true),(2,true),(3,true),(4,true),(5,true),(6,true),(7,true),(8,true),(9,true),(10,true),(11,true),(12,true),(13,true),(14,true),(15,true),(16,true),(17,true),(18,true),(19,true),(20,true),(21,true),(22,true)] (fun W'=>qb W' sb o ((b0::b1::b2::b3::l).map bv)) hm (by kernel_rfl) rfl (by kernel_rfl) (fun _ _ _ _ h=>False.elim h) ?_)
 refine dP rfl rfl rfl (wN rfl) (by simp only[zP,hsz];decide) hS (fun w' hS'=>rM (dn ⟨rfl,rfl,rfl⟩)) ?_
 refine dP rfl rfl rfl (wN rfl) (by simp only[zP,hsz];decide) hS (fun w' hS'=>qA (k:=.i64) (j:=3) (b:=sb) (o:=o) (len:=(b0::b1::b2::b3::l).length) (cap:=cap) hsl zA rfl (by simp only[List.length_cons];omega) (dn ⟨rfl,rfl,rfl⟩)) ?_
 refine dP rfl rfl rfl (wN rfl) (by simp only[zP,hsz];decide) hS (fun w' hS'=>rL (b:=sb) (o:=o+3*1) (v:=bv b3) zM H.oU8 (hS' 3 _ rfl) (dn ⟨rfl,rfl,rfl⟩)) ?_
 refine dP rfl rfl rfl (wN rfl) (by simp only[zP,hsz];decide) hS (fun w' hS'=>za (K:=4294967296) (n:=b3.toNat) H.u8 hu (by decide) zM hb3 (dn ⟨rfl,rfl,rfl⟩)) ?_
 refine dP rfl rfl rfl (wN rfl) (by simp only[zP,hsz];decide) hS (fun w' hS'=>rM (dn ⟨rfl,rfl,rfl⟩)) ?_
 refine dP rfl rfl rfl (wN rfl) (by simp only[zP,hsz];decide) hS (fun w' hS'=>qA (k:=.i64) (j:=2) (b:=sb) (o:=o) (len:=(b0::b1::b2::b3::l).length) (cap:=cap) hsl zA rfl (by simp only[List.length_cons];omega) (dn ⟨rfl,rfl,rfl⟩)) ?_
 refine dP rfl rfl rfl (wN rfl) (by simp only[zP,hsz];decide) hS (fun w' hS'=>rL (b:=sb) (o:=o+2*1) (v:=bv b2) zM H.oU8 (hS' 2 _ rfl) (dn ⟨rfl,rfl,rfl⟩)) ?_
 refine dP rfl rfl rfl (wN rfl) (by simp only[zP,hsz];decide) hS (fun w' hS'=>za (K:=4294967296) (n:=b2.toNat) H.u8 hu (by decide) zM hb2 (dn ⟨rfl,rfl,rfl⟩)) ?_
 refine dP rfl rfl rfl (wN rfl) (by simp only[zP,hsz];decide) hS (fun w' hS'=>jO (k:=.u32) (n:=b2.toNat) (c:=8) (mm:=256) (K:=4294967296) (by decide) zE rfl (by decide) zH (dn ⟨rfl,rfl,rfl⟩)) ?_
 refine dP rfl rfl rfl (wN rfl) (by simp only[zP,hsz];decide) hS (fun w' hS'=>kU (k:=.u32) (m:=b3.toNat) (n:=b2.toNat*256) (v:=b3.toNat+b2.toNat*256) (K:=4294967296) (by decide) zE zE (j5 8 (by decide) zH) zH zH (dn ⟨rfl,rfl,rfl⟩)) ?_
 refine dP rfl rfl rfl (wN rfl) (by simp only[zP,hsz];decide) hS (fun w' hS'=>rM (dn ⟨rfl,rfl,rfl⟩)) ?_
 refine dP rfl rfl rfl (wN rfl) (by simp only[zP,hsz];decide) hS (fun w' hS'=>qA (k:=.i64) (j:=1) (b:=sb) (o:=o) (len:=(b0::b1::b2::b3::l).length) (cap:=cap) hsl zA rfl (by simp only[List.length_cons];omega) (dn ⟨rfl,rfl,rfl⟩)) ?_
 refine dP rfl rfl rfl (wN rfl) (by simp only[zP,hsz];decide) hS (fun w' hS'=>rL (b:=sb) (o:=o+1*1) (v:=bv b1) zM H.oU8 (hS' 1 _ rfl) (dn ⟨rfl,rfl,rfl⟩)) ?_
 refine dP rfl rfl rfl (wN rfl) (by simp only[zP,hsz];decide) hS (fun w' hS'=>za (K:=4294967296) (n:=b1.toNat) H.u8 hu (by decide) zM hb1 (dn ⟨rfl,rfl,rfl⟩)) ?_
 refine dP rfl rfl rfl (wN rfl) (by simp only[zP,hsz];decide) hS (fun w' hS'=>jO (k:=.u32) (n:=b1.toNat) (c:=16) (mm:=65536) (K:=4294967296) (by decide) zE rfl (by decide) zH (dn ⟨rfl,rfl,rfl⟩)) ?_
 refine dP rfl rfl rfl (wN rfl) (by simp only[zP,hsz];decide) hS (fun w' hS'=>kU (k:=.u32) (m:=b3.toNat+b2.toNat*256) (n:=b1.toNat*65536) (v:=b3.toNat+b2.toNat*256+b1.toNat*65536) (K:=4294967296) (by decide) zE zE (j5 16 (by decide) zH) zH zH (dn ⟨rfl,rfl,rfl⟩)) ?_
 refine dP rfl rfl rfl (wN rfl) (by simp only[zP,hsz];decide) hS (fun w' hS'=>rM (dn ⟨rfl,rfl,rfl⟩)) ?_
 refine dP rfl rfl rfl (wN rfl) (by simp only[zP,hsz];decide) hS (fun w' hS'=>qA (k:=.i64) (j:=0) (b:=sb) (o:=o) (len:=(b0::b1::b2::b3::l).length) (cap:=cap) hsl zA rfl (by simp only[List.length_cons];omega) (dn ⟨rfl,rfl,rfl⟩)) ?_
 refine dP rfl rfl rfl (wN rfl) (by simp only[zP,hsz];decide) hS (fun w' hS'=>rL (b:=sb) (o:=o+0*1) (v:=bv b0) zM H.oU8 (hS' 0 _ rfl) (dn ⟨rfl,rfl,rfl⟩)) ?_
 refine dP rfl rfl rfl (wN rfl) (by simp only[zP,hsz];decide) hS (fun w' hS'=>za (K:=4294967296) (n:=b0.toNat) H.u8 hu (by decide) zM hb0 (dn ⟨rfl,rfl,rfl⟩)) ?_
 refine dP rfl rfl rfl (wN rfl) (by simp only[zP,hsz];decide) hS (fun w' hS'=>jO (k:=.u32) (n:=b0.toNat) (c:=24) (mm:=16777216) (K:=4294967296) (by decide) zE rfl (by decide) zH (dn ⟨rfl,rfl,rfl⟩)) ?_
 refine dP rfl rfl rfl (wN rfl) (by simp only[zP,hsz];decide) hS (fun w' hS'=>kU (k:=.u32) (m:=b3.toNat+b2.toNat*256+b1.toNat*65536) (n:=b0.toNat*16777216) (v:=b3.toNat+b2.toNat*256+b1.toNat*65536+b0.toNat*16777216) (K:=4294967296) (by decide) zE zE (j5 24 (by decide) zH) zH zH (dn ⟨rfl,rfl,rfl⟩)) ?_
 refine dP rfl rfl rfl (wN rfl) (by simp only[zP,hsz];decide) hS (fun w' hS'=>rA (dn ⟨rfl,rfl,rfl⟩)) ?_
 refine xC ?_
 refine vS (vT ?_)
 refine ⟨by simp only[dF];exact hdf,_,rO zM,?_,⟨hb.os,hb.tape,hb.output,hb.size,hb.block⟩⟩
 simp only[Value.int.injEq,true_and,beN,List.foldl]
 omega
theorem be_u64 (H:REnv P E) (hu:qr P E.tU64=some .u64) (hm:P.follows .mixedOrders=true) (ht:Text P E.bU64 2 54 #[.tmp 4] (c_bU64 E)) {b0 b1 b2 b3 b4 b5 b6 b7:UInt8} {l:List UInt8} {W:World} {sb o cap:Nat} (hl:(b0::b1::b2::b3::b4::b5::b6::b7::l).length<=cap) (hc:qb W sb o ((b0::b1::b2::b3::b4::b5::b6::b7::l).map bv)) (hsb:sb<W.heap.size) :
  qa P E.bU64 #[.agg #[],.slice (some ⟨sb,o,none⟩) (b0::b1::b2::b3::b4::b5::b6::b7::l).length cap] W fun v w'=>v=.int .u64 ((beN [b0,b1,b2,b3,b4,b5,b6,b7]:Nat):Int)/\Below W.heap.size W w':=by
 refine qa.enter ht zS ?_
 intro a hsz hdf harg
 have e0:=harg 0 (.agg #[]) zS
 have e1:=harg 1 (.slice (some ⟨sb,o,none⟩) (b0::b1::b2::b3::b4::b5::b6::b7::l).length cap) zS
 have hsl:=rB H.row
 have hb0:=b0.toNat_lt
 have hb1:=b1.toNat_lt
 have hb2:=b2.toNat_lt
 have hb3:=b3.toNat_lt
 have hb4:=b4.toNat_lt
 have hb5:=b5.toNat_lt
 have hb6:=b6.toNat_lt
 have hb7:=b7.toNat_lt
 unfold c_bU64
 refine vX ?_
 refine xI (v:=.agg #[]) zA ?_
 refine rA (dn ?_)
 have hb:Below W.heap.size W (W.alloc (.cells (Value.agg #[]).cells E.tBE)):=(Below.refl W.heap.size W).alloc (o:=.cells _ _) (Nat.le_refl _)
 have hc1:qb (W.alloc (.cells (Value.agg #[]).cells E.tBE)) sb o ((b0::b1::b2::b3::b4::b5::b6::b7::l).map bv):=hc.below hb hsb
 generalize W.alloc (.cells (Value.agg #[]).cells E.tBE)=V at *
 refine vX (rM ?_)
 refine qA (k:=.i64) (j:=7) (b:=sb) (o:=o) (len:=(b0::b1::b2::b3::b4::b5::b6::b7::l).length) (cap:=cap) hsl zA rfl (by simp only[List.length_cons];omega) ?_
 refine rL (b:=sb) (o:=o+7*1) (v:=bv b7) zE H.oU8 (hc1 7 _ rfl) ?_
 refine dn ?_
 have hS:(fun W':World=>qb W' sb o ((b0::b1::b2::b3::b4::b5::b6::b7::l).map bv)) { V with drawn:=V.drawn+1 }:=hc1
 refine vS (xd [(0,true),(1,true),(2,true),(3,true),(4,true),(5,true),(6,true),(7,true),(8,true),(9,true),(10,true),(11,true),(12,true),(13,true),(14,true),(15,true),(16,true),(17,true),(18,true),(19,true),(20,true),(21,true),(22,true),(23,true),(24,true),(25,true),(26,true),(27,true),(28,true),(29,true),(30,true),(31,true),(32,true),(33,true),(34,true),(35,true),(36,true),(37,true),(38,true),(39,true),(40,true),(41,true),(42,true),(43,true),(44,true),(45,true),(46,true)] (fun W'=>qb W' sb o ((b0::b1::b2::b3::b4::b5::b6::b7::l).map bv)) hm (by kernel_rfl) rfl (by kernel_rfl) (fun _ _ _ _ h=>False.elim h) ?_)
 refine dP rfl rfl rfl (wN rfl) (by simp only[zP,hsz];decide) hS (fun w' hS'=>rM (dn ⟨rfl,rfl,rfl⟩)) ?_
 refine dP rfl rfl rfl (wN rfl) (by simp only[zP,hsz];decide) hS (fun w' hS'=>qA (k:=.i64) (j:=7) (b:=sb) (o:=o) (len:=(b0::b1::b2::b3::b4::b5::b6::b7::l).length) (cap:=cap) hsl zA rfl (by simp only[List.length_cons];omega) (dn ⟨rfl,rfl,rfl⟩)) ?_
 refine dP rfl rfl rfl (wN rfl) (by simp only[zP,hsz];decide) hS (fun w' hS'=>rL (b:=sb) (o:=o+7*1) (v:=bv b7) zM H.oU8 (hS' 7 _ rfl) (dn ⟨rfl,rfl,rfl⟩)) ?_
 refine dP rfl rfl rfl (wN rfl) (by simp only[zP,hsz];decide) hS (fun w' hS'=>za (K:=18446744073709551616) (n:=b7.toNat) H.u8 hu (by decide) zM hb7 (dn ⟨rfl,rfl,rfl⟩)) ?_
 refine dP rfl rfl rfl (wN rfl) (by simp only[zP,hsz];decide) hS (fun w' hS'=>rM (dn ⟨rfl,rfl,rfl⟩)) ?_
 refine dP rfl rfl rfl (wN rfl) (by simp only[zP,hsz];decide) hS (fun w' hS'=>qA (k:=.i64) (j:=6) (b:=sb) (o:=o) (len:=(b0::b1::b2::b3::b4::b5::b6::b7::l).length) (cap:=cap) hsl zA rfl (by simp only[List.length_cons];omega) (dn ⟨rfl,rfl,rfl⟩)) ?_
 refine dP rfl rfl rfl (wN rfl) (by simp only[zP,hsz];decide) hS (fun w' hS'=>rL (b:=sb) (o:=o+6*1) (v:=bv b6) zM H.oU8 (hS' 6 _ rfl) (dn ⟨rfl,rfl,rfl⟩)) ?_
 refine dP rfl rfl rfl (wN rfl) (by simp only[zP,hsz];decide) hS (fun w' hS'=>za (K:=18446744073709551616) (n:=b6.toNat) H.u8 hu (by decide) zM hb6 (dn ⟨rfl,rfl,rfl⟩)) ?_
 refine dP rfl rfl rfl (wN rfl) (by simp only[zP,hsz];decide) hS (fun w' hS'=>jO (k:=.u64) (n:=b6.toNat) (c:=8) (mm:=256) (K:=18446744073709551616) (by decide) zE rfl (by decide) zH (dn ⟨rfl,rfl,rfl⟩)) ?_
 refine dP rfl rfl rfl (wN rfl) (by simp only[zP,hsz];decide) hS (fun w' hS'=>kU (k:=.u64) (m:=b7.toNat) (n:=b6.toNat*256) (v:=b7.toNat+b6.toNat*256) (K:=18446744073709551616) (by decide) zE zE (j5 8 (by decide) zH) zH zH (dn ⟨rfl,rfl,rfl⟩)) ?_
 refine dP rfl rfl rfl (wN rfl) (by simp only[zP,hsz];decide) hS (fun w' hS'=>rM (dn ⟨rfl,rfl,rfl⟩)) ?_
 refine dP rfl rfl rfl (wN rfl) (by simp only[zP,hsz];decide) hS (fun w' hS'=>qA (k:=.i64) (j:=5) (b:=sb) (o:=o) (len:=(b0::b1::b2::b3::b4::b5::b6::b7::l).length) (cap:=cap) hsl zA rfl (by simp only[List.length_cons];omega) (dn ⟨rfl,rfl,rfl⟩)) ?_
 refine dP rfl rfl rfl (wN rfl) (by simp only[zP,hsz];decide) hS (fun w' hS'=>rL (b:=sb) (o:=o+5*1) (v:=bv b5) zM H.oU8 (hS' 5 _ rfl) (dn ⟨rfl,rfl,rfl⟩)) ?_
 refine dP rfl rfl rfl (wN rfl) (by simp only[zP,hsz];decide) hS (fun w' hS'=>za (K:=18446744073709551616) (n:=b5.toNat) H.u8 hu (by decide) zM hb5 (dn ⟨rfl,rfl,rfl⟩)) ?_
 refine dP rfl rfl rfl (wN rfl) (by simp only[zP,hsz];decide) hS (fun w' hS'=>jO (k:=.u64) (n:=b5.toNat) (c:=16) (mm:=65536) (K:=18446744073709551616) (by decide) zE rfl (by decide) zH (dn ⟨rfl,rfl,rfl⟩)) ?_
 refine dP rfl rfl rfl (wN rfl) (by simp only[zP,hsz];decide) hS (fun w' hS'=>kU (k:=.u64) (m:=b7.toNat+b6.toNat*256) (n:=b5.toNat*65536) (v:=b7.toNat+b6.toNat*256+b5.toNat*65536) (K:=18446744073709551616) (by decide) zE zE (j5 16 (by decide) zH) zH zH (dn ⟨rfl,rfl,rfl⟩)) ?_
 refine dP rfl rfl rfl (wN rfl) (by simp only[zP,hsz];decide) hS (fun w' hS'=>rM (dn ⟨rfl,rfl,rfl⟩)) ?_
 refine dP rfl rfl rfl (wN rfl) (by simp only[zP,hsz];decide) hS (fun w' hS'=>qA (k:=.i64) (j:=4) (b:=sb) (o:=o) (len:=(b0::b1::b2::b3::b4::b5::b6::b7::l).length) (cap:=cap) hsl zA rfl (by simp only[List.length_cons];omega) (dn ⟨rfl,rfl,rfl⟩)) ?_
 refine dP rfl rfl rfl (wN rfl) (by simp only[zP,hsz];decide) hS (fun w' hS'=>rL (b:=sb) (o:=o+4*1) (v:=bv b4) zM H.oU8 (hS' 4 _ rfl) (dn ⟨rfl,rfl,rfl⟩)) ?_
 refine dP rfl rfl rfl (wN rfl) (by simp only[zP,hsz];decide) hS (fun w' hS'=>za (K:=18446744073709551616) (n:=b4.toNat) H.u8 hu (by decide) zM hb4 (dn ⟨rfl,rfl,rfl⟩)) ?_
 refine dP rfl rfl rfl (wN rfl) (by simp only[zP,hsz];decide) hS (fun w' hS'=>jO (k:=.u64) (n:=b4.toNat) (c:=24) (mm:=16777216) (K:=18446744073709551616) (by decide) zE rfl (by decide) zH (dn ⟨rfl,rfl,rfl⟩)) ?_
 refine dP rfl rfl rfl (wN rfl) (by simp only[zP,hsz];decide) hS (fun w' hS'=>kU (k:=.u64) (m:=b7.toNat+b6.toNat*256+b5.toNat*65536) (n:=b4.toNat*16777216) (v:=b7.toNat+b6.toNat*256+b5.toNat*65536+b4.toNat*16777216) (K:=18446744073709551616) (by decide) zE zE (j5 24 (by decide) zH) zH zH (dn ⟨rfl,rfl,rfl⟩)) ?_
 refine dP rfl rfl rfl (wN rfl) (by simp only[zP,hsz];decide) hS (fun w' hS'=>rM (dn ⟨rfl,rfl,rfl⟩)) ?_
 refine dP rfl rfl rfl (wN rfl) (by simp only[zP,hsz];decide) hS (fun w' hS'=>qA (k:=.i64) (j:=3) (b:=sb) (o:=o) (len:=(b0::b1::b2::b3::b4::b5::b6::b7::l).length) (cap:=cap) hsl zA rfl (by simp only[List.length_cons];omega) (dn ⟨rfl,rfl,rfl⟩)) ?_
 refine dP rfl rfl rfl (wN rfl) (by simp only[zP,hsz];decide) hS (fun w' hS'=>rL (b:=sb) (o:=o+3*1) (v:=bv b3) zM H.oU8 (hS' 3 _ rfl) (dn ⟨rfl,rfl,rfl⟩)) ?_
 refine dP rfl rfl rfl (wN rfl) (by simp only[zP,hsz];decide) hS (fun w' hS'=>za (K:=18446744073709551616) (n:=b3.toNat) H.u8 hu (by decide) zM hb3 (dn ⟨rfl,rfl,rfl⟩)) ?_
 refine dP rfl rfl rfl (wN rfl) (by simp only[zP,hsz];decide) hS (fun w' hS'=>jO (k:=.u64) (n:=b3.toNat) (c:=32) (mm:=4294967296) (K:=18446744073709551616) (by decide) zE rfl (by decide) zH (dn ⟨rfl,rfl,rfl⟩)) ?_
 refine dP rfl rfl rfl (wN rfl) (by simp only[zP,hsz];decide) hS (fun w' hS'=>kU (k:=.u64) (m:=b7.toNat+b6.toNat*256+b5.toNat*65536+b4.toNat*16777216) (n:=b3.toNat*4294967296) (v:=b7.toNat+b6.toNat*256+b5.toNat*65536+b4.toNat*16777216+b3.toNat*4294967296) (K:=18446744073709551616) (by decide) zE zE (j5 32 (by decide) zH) zH zH (dn ⟨rfl,rfl,rfl⟩)) ?_
 refine dP rfl rfl rfl (wN rfl) (by simp only[zP,hsz];decide) hS (fun w' hS'=>rM (dn ⟨rfl,rfl,rfl⟩)) ?_
 refine dP rfl rfl rfl (wN rfl) (by simp only[zP,hsz];decide) hS (fun w' hS'=>qA (k:=.i64) (j:=2) (b:=sb) (o:=o) (len:=(b0::b1::b2::b3::b4::b5::b6::b7::l).length) (cap:=cap) hsl zA rfl (by simp only[List.length_cons];omega) (dn ⟨rfl,rfl,rfl⟩)) ?_
 refine dP rfl rfl rfl (wN rfl) (by simp only[zP,hsz];decide) hS (fun w' hS'=>rL (b:=sb) (o:=o+2*1) (v:=bv b2) zM H.oU8 (hS' 2 _ rfl) (dn ⟨rfl,rfl,rfl⟩)) ?_
 refine dP rfl rfl rfl (wN rfl) (by simp only[zP,hsz];decide) hS (fun w' hS'=>za (K:=18446744073709551616) (n:=b2.toNat) H.u8 hu (by decide) zM hb2 (dn ⟨rfl,rfl,rfl⟩)) ?_
 refine dP rfl rfl rfl (wN rfl) (by simp only[zP,hsz];decide) hS (fun w' hS'=>jO (k:=.u64) (n:=b2.toNat) (c:=40) (mm:=1099511627776) (K:=18446744073709551616) (by decide) zE rfl (by decide) zH (dn ⟨rfl,rfl,rfl⟩)) ?_
 refine dP rfl rfl rfl (wN rfl) (by simp only[zP,hsz];decide) hS (fun w' hS'=>kU (k:=.u64) (m:=b7.toNat+b6.toNat*256+b5.toNat*65536+b4.toNat*16777216+b3.toNat*4294967296) (n:=b2.toNat*1099511627776) (v:=b7.toNat+b6.toNat*256+b5.toNat*65536+b4.toNat*16777216+b3.toNat*4294967296+b2.toNat*1099511627776) (K:=18446744073709551616) (by decide) zE zE (j5 40 (by decide) zH) zH zH (dn ⟨rfl,rfl,rfl⟩)) ?_
 refine dP rfl rfl rfl (wN rfl) (by simp only[zP,hsz];decide) hS (fun w' hS'=>rM (dn ⟨rfl,rfl,rfl⟩)) ?_
 refine dP rfl rfl rfl (wN rfl) (by simp only[zP,hsz];decide) hS (fun w' hS'=>qA (k:=.i64) (j:=1) (b:=sb) (o:=o) (len:=(b0::b1::b2::b3::b4::b5::b6::b7::l).length) (cap:=cap) hsl zA rfl (by simp only[List.length_cons];omega) (dn ⟨rfl,rfl,rfl⟩)) ?_
 refine dP rfl rfl rfl (wN rfl) (by simp only[zP,hsz];decide) hS (fun w' hS'=>rL (b:=sb) (o:=o+1*1) (v:=bv b1) zM H.oU8 (hS' 1 _ rfl) (dn ⟨rfl,rfl,rfl⟩)) ?_
 refine dP rfl rfl rfl (wN rfl) (by simp only[zP,hsz];decide) hS (fun w' hS'=>za (K:=18446744073709551616) (n:=b1.toNat) H.u8 hu (by decide) zM hb1 (dn ⟨rfl,rfl,rfl⟩)) ?_
 refine dP rfl rfl rfl (wN rfl) (by simp only[zP,hsz];decide) hS (fun w' hS'=>jO (k:=.u64) (n:=b1.toNat) (c:=48) (mm:=281474976710656) (K:=18446744073709551616) (by decide) zE rfl (by decide) zH (dn ⟨rfl,rfl,rfl⟩)) ?_
 refine dP rfl rfl rfl (wN rfl) (by simp only[zP,hsz];decide) hS (fun w' hS'=>kU (k:=.u64) (m:=b7.toNat+b6.toNat*256+b5.toNat*65536+b4.toNat*16777216+b3.toNat*4294967296+b2.toNat*1099511627776) (n:=b1.toNat*281474976710656) (v:=b7.toNat+b6.toNat*256+b5.toNat*65536+b4.toNat*16777216+b3.toNat*4294967296+b2.toNat*1099511627776+b1.toNat*281474976710656) (K:=18446744073709551616) (by decide) zE zE (j5 48 (by decide) zH) zH zH (dn ⟨rfl,rfl,rfl⟩)) ?_
 refine dP rfl rfl rfl (wN rfl) (by simp only[zP,hsz];decide) hS (fun w' hS'=>rM (dn ⟨rfl,rfl,rfl⟩)) ?_
 refine dP rfl rfl rfl (wN rfl) (by simp only[zP,hsz];decide) hS (fun w' hS'=>qA (k:=.i64) (j:=0) (b:=sb) (o:=o) (len:=(b0::b1::b2::b3::b4::b5::b6::b7::l).length) (cap:=cap) hsl zA rfl (by simp only[List.length_cons];omega) (dn ⟨rfl,rfl,rfl⟩)) ?_
 refine dP rfl rfl rfl (wN rfl) (by simp only[zP,hsz];decide) hS (fun w' hS'=>rL (b:=sb) (o:=o+0*1) (v:=bv b0) zM H.oU8 (hS' 0 _ rfl) (dn ⟨rfl,rfl,rfl⟩)) ?_
 refine dP rfl rfl rfl (wN rfl) (by simp only[zP,hsz];decide) hS (fun w' hS'=>za (K:=18446744073709551616) (n:=b0.toNat) H.u8 hu (by decide) zM hb0 (dn ⟨rfl,rfl,rfl⟩)) ?_
 refine dP rfl rfl rfl (wN rfl) (by simp only[zP,hsz];decide) hS (fun w' hS'=>jO (k:=.u64) (n:=b0.toNat) (c:=56) (mm:=72057594037927936) (K:=18446744073709551616) (by decide) zE rfl (by decide) zH (dn ⟨rfl,rfl,rfl⟩)) ?_
 refine dP rfl rfl rfl (wN rfl) (by simp only[zP,hsz];decide) hS (fun w' hS'=>kU (k:=.u64) (m:=b7.toNat+b6.toNat*256+b5.toNat*65536+b4.toNat*16777216+b3.toNat*4294967296+b2.toNat*1099511627776+b1.toNat*281474976710656) (n:=b0.toNat*72057594037927936) (v:=b7.toNat+b6.toNat*256+b5.toNat*65536+b4.toNat*16777216+b3.toNat*4294967296+b2.toNat*1099511627776+b1.toNat*281474976710656+b0.toNat*72057594037927936) (K:=18446744073709551616) (by decide) zE zE (j5 56 (by decide) zH) zH zH (dn ⟨rfl,rfl,rfl⟩)) ?_
 refine dP rfl rfl rfl (wN rfl) (by simp only[zP,hsz];decide) hS (fun w' hS'=>rA (dn ⟨rfl,rfl,rfl⟩)) ?_
 refine xC ?_
 refine vS (vT ?_)
 refine ⟨by simp only[dF];exact hdf,_,rO zM,?_,⟨hb.os,hb.tape,hb.output,hb.size,hb.block⟩⟩
 simp only[Value.int.injEq,true_and,beN,List.foldl]
 omega
end
end Go.Km
