/- spec.part: one field at one number of a tag. spec.part: the known tags. spec.part, with known tags. spec.part and spec.field of all shapes; known tags are numbers. spec.Default: trees in memory that are wholly new. spec.Default. spec.Default of all shapes. The spec's messages: literals of fields. The spec's messages: the functions that give them. The laws 'what the spec writes is read, and written back', 'what ends early is an error': over any program. The laws 'what the spec writes is read, and written back', second part: the law's body. A tree that came in, as the spec's functions take it. How long what the spec writes is; rows of laws over trees. A message's list of fields is what its functions give. The laws 'what ends early is an error': the law's body. What is kept within: read and written again; the spec's form of it. The laws over what is kept within: the spec's form; the laws' bodies. The laws over what is kept within: what ends early. -/
import Derived.Test.YtiafaedhhpjolaaGreatDoorKb03
import Derived.Test.YtiafaedhhpjolaaGreatDoorKb05
import Derived.Test.YtiafaedhhpjolaaGreatDoorKc00
set_option maxHeartbeats 4000000
set_option linter.unusedSimpArgs false
set_option linter.unusedVariables false
namespace Go.Km
open Go Go.RowKit
def zT (k:Nat) (r:Rec):Option (Nat × List UInt8):=if decide (r.1=((k:Nat):Int)) && !r.2.2.1 then some ((k:Nat),r.2.2.2) else none
def yG (k:Nat) (r:Rec):List UInt8:=match zT k r with | some x=>j8 x.1 x.2 | none=>[]
def wA (k:Nat) (r:Rec):Nat:=match zT k r with | some _=>1 | none=>0
section
variable {P : Program} {a : Act} {w : World} {Q : Exit → Act → World → Prop} {ops : List Oper} {S : World → Prop}
end
theorem noPanicS {P:Program} {a:Act} {w:World} {Q:Exit->Act->World->Prop} {c:Code} (h:vc P c (fun e a w=>(∀ k,e≠.panic k)/\Q e a w) a w):vc P c Q a w:=qW _ h (fun e a w h=>h.2)
def KeepT (a a':Act):Prop:=∀ j:Nat,(j=0\/j=1\/j=2\/j=7\/j=9\/j=14\/j=51\/j=52\/j=55\/j=56\/j=57)->a'.eval (.tmp j)=a.eval (.tmp j)
attribute [local irreducible] vc rO_ qz qJ qF
section
variable {P : Program} {E : Env} {w : World} {U : Nat}
set_option maxHeartbeats 2000000 in
theorem s_tagOne (H:SEnv P E) (HL:SLay P E) (HT:STexts P E) {ver:Int} {fx:Bool} {f:SF} {t:Tr} {ts cs:List Value} {zs:List UInt8} {b C c0 k i q o len cap:Nat} {B:Act} {V:World} {Q:Exit->Act->World->Prop}
  (hs:B.tmps.size=132) (hd:B.defers=[]) (g1:B.eval (.tmp 1)=.int .i64 ver) (g2:B.eval (.tmp 2)=.bool fx) (g7:B.eval (.tmp 7)=.pointer (some ⟨b,0,none⟩)) (g14:B.eval (.tmp 14)=.int .i64 (k:Int)) (g55:B.eval (.tmp 55)=.slice (some ⟨q,o,none⟩) len cap) (g57:B.eval (.tmp 57)=.int .i64 (i:Int)) (g11:B.eval (.tmp 11)=.int .i64 (c0:Int))
  (hi:i<len) (hq:qb V q (o+i*8) cs) (hrc:f.Rep V U cs) (hts:qb V b 0 ts) (hrt:t.Rep V U ts) (hUC:U<=C) (hCV:C<=V.heap.size) (hbC:b<C) (hk:k<65536) (hc0:c0<=big) (hown:V.ownsRow C E.tU8 1 (B.eval (.tmp 10)) zs.length (zs.map bv))
  (hnum:f.tag=(k:Int)->f.num=true) (hfc:ws P E ver fx f) (hbig:(zs++yG k (f.tag,f.has ver,f.usual (t.at i),f.wr ver fx (t.at i))).length<=big)
  (kn:∀ A' V',A'.tmps.size=132->A'.defers=[]->KeepT B A'->A'.eval (.tmp 11)=.int .i64 ((c0+wA k (f.tag,f.has ver,f.usual (t.at i),f.wr ver fx (t.at i)):Nat):Int)->Below C V V' →
   V'.ownsRow C E.tU8 1 (A'.eval (.tmp 10)) (zs++yG k (f.tag,f.has ver,f.usual (t.at i),f.wr ver fx (t.at i))).length ((zs++yG k (f.tag,f.has ver,f.usual (t.at i),f.wr ver fx (t.at i))).map bv)->Q .normal A' V') :
  vc P     (sq [(rg [(oQ 59 (.move (.tmp 57)) E.tI),
  (oQ 60 (.indexAddr E.tFlds (.tmp 55) (.tmp 57)) 0),
  (oQ 61 (.load E.tFld (.tmp 60)) E.tFld),
  (oQ 16 (.alloc E.tFld) 0),
  (oQ 15 (.assign (.tmp 59)) E.tI),
  ⟨none,.store E.tFld (.tmp 16) (.tmp 61),0,"",#[],none⟩]),
  (rgd [(oQ 62 (.fieldAddr E.tFld (.tmp 16) 4) 0),
  ⟨some 63,.load E.tI (.tmp 62),E.tI,"",#[⟨0,.data⟩],none⟩,
  (oQ 64 (.move (.tmp 14)) E.tI),
  ⟨some 65,.binOp .eql E.tI (.tmp 63) (.tmp 64) E.tI,E.tO,"",#[⟨1,.data⟩,⟨2,.data⟩],none⟩,
  ⟨some 66,.move (.tmp 65),E.tO,"",#[⟨3,.data⟩],none⟩,
  ⟨some 67,.load E.tFld (.tmp 16),E.tFld,"",#[⟨4,.guard⟩],some (4,true)⟩,
  ⟨some 68,.load E.tT (.tmp 7),E.tT,"",#[⟨4,.guard⟩],some (4,true)⟩,
  ⟨some 69,.move (.tmp 15),E.tI,"",#[⟨4,.guard⟩],some (4,true)⟩,
  ⟨some 70,.call { callee:=.value (.func E.sAt),args:=#[(.tmp 68),(.tmp 69)],argTypes:=#[E.tT,E.tI] },E.tT,"",#[⟨6,.data⟩,⟨7,.data⟩,⟨4,.chain⟩,⟨4,.guard⟩],some (4,true)⟩,
  ⟨some 71,.call { callee:=.value (.func E.sUsual),args:=#[(.tmp 67),(.tmp 70)],argTypes:=#[E.tFld,E.tT] },E.tO,"",#[⟨5,.data⟩,⟨8,.data⟩,⟨8,.chain⟩,⟨4,.guard⟩],some (4,true)⟩,
  ⟨some 72,.unOp .not E.tO (.tmp 71),E.tO,"",#[⟨9,.data⟩,⟨4,.guard⟩],some (4,true)⟩,
  ⟨some 73,.pick (.tmp 66) (.tmp 72) (.const (.bool false)),E.tO,"",#[⟨4,.data⟩,⟨10,.data⟩],none⟩]),
  (.cond (.tmp 73)
  (sq [(rgd [(oQ 74 (.load E.tFld (.tmp 16)) E.tFld),
  (oQ 75 (.move (.tmp 1)) E.tI),
  (oQ 76 (.move (.tmp 2)) E.tO),
  (oQ 77 (.load E.tT (.tmp 7)) E.tT),
  (oQ 78 (.move (.tmp 15)) E.tI),
  ⟨some 79,.call { callee:=.value (.func E.sAt),args:=#[(.tmp 77),(.tmp 78)],argTypes:=#[E.tT,E.tI] },E.tT,"",#[⟨3,.data⟩,⟨4,.data⟩],none⟩,
  ⟨some 80,.call { callee:=.value (.func E.sField),args:=#[(.tmp 74),(.tmp 75),(.tmp 76),(.tmp 79)],argTypes:=#[E.tFld,E.tI,E.tO,E.tT] },E.tB,"",#[⟨0,.data⟩,⟨1,.data⟩,⟨2,.data⟩,⟨5,.data⟩,⟨5,.chain⟩],none⟩,
  ⟨some 17,.assign (.tmp 80),E.tB,"",#[⟨6,.data⟩,⟨6,.chain⟩,⟨0,.phase⟩,⟨1,.phase⟩,⟨2,.phase⟩,⟨3,.phase⟩,⟨4,.phase⟩,⟨5,.phase⟩,⟨6,.phase⟩],none⟩]),
  (rg [(oQ 81 (.move (.tmp 10)) E.tB),
  (oQ 82 (.move (.tmp 14)) E.tI),
  (oQ 83 (.convert E.tI E.tU64 (.tmp 82)) E.tU64),
  (oQ 84 (.call { callee:=.value (.func E.sUvar),args:=#[(.tmp 83)],argTypes:=#[E.tU64] }) E.tB),
  (oQ 85 (.call { callee:=.builtin .append,args:=#[(.tmp 81),(.tmp 84)],argTypes:=#[E.tB,E.tB] }) E.tB),
  (oQ 86 (.move (.tmp 17)) E.tB),
  (oQ 87 (.call { callee:=.builtin .len,args:=#[(.tmp 86)],argTypes:=#[E.tB] }) E.tI),
  (oQ 88 (.convert E.tI E.tU64 (.tmp 87)) E.tU64),
  (oQ 89 (.call { callee:=.value (.func E.sUvar),args:=#[(.tmp 88)],argTypes:=#[E.tU64] }) E.tB),
  (oQ 90 (.call { callee:=.builtin .append,args:=#[(.tmp 85),(.tmp 89)],argTypes:=#[E.tB,E.tB] }) E.tB),
  (oQ 91 (.move (.tmp 17)) E.tB),
  (oQ 92 (.call { callee:=.builtin .append,args:=#[(.tmp 90),(.tmp 91)],argTypes:=#[E.tB,E.tB] }) E.tB),
  (oQ 10 (.assign (.tmp 92)) E.tB)]),
  (rg [(oQ 93 (.move (.tmp 11)) E.tI),
  (oQ 94 (.binOp .add E.tI (.tmp 93) (.const (.int .i64 1)) E.tI) E.tI),
  (oQ 11 (.assign (.tmp 94)) E.tI)])])
  .skip)]) Q B V:=by
 have hslB:=rB H.row
 have hUV:U<=V.heap.size:=Nat.le_trans hUC hCV
 obtain ⟨z,hz,hzc⟩:=xD HL.fld
 refine vX (rM ?_)
 refine qA (k:=.i64) (j:=i) (b:=q) (o:=o) (len:=len) (cap:=cap) H.sFlds zA zA hi ?_
 refine qf (b:=q) (o:=o+i*8) (cs:=cs) zE (by rw[hrc.len];exact H.aFld) hq ?_
 refine qI hz ?_
 refine rA ?_
 refine qu (b:=V.heap.size) (o:=0) (cs:=cs) zE zE hrc.one (by rw[hrc.len];exact H.aFld) ?_ ?_
 ·intro j hj
  rw[Nat.zero_add]
  exact qm V _ _ (by rw[hzc];rw[hrc.len] at hj;simpa using hj)
 refine dn ?_
 have hcell:qb (setCells (V.alloc (.cells z.cells E.tFld)) V.heap.size 0 cs) V.heap.size 0 cs:=by
  intro j v hv
  refine qg V.heap.size cs _ 0 (fun j hj=>?_) j _ hv
  rw[Nat.zero_add]
  exact (qm V z.cells E.tFld (by rw[hzc];rw[hrc.len] at hj;simpa using hj)).1
 have hb2:Below V.heap.size V (setCells (V.alloc (.cells z.cells E.tFld)) V.heap.size 0 cs):=by
  refine ((Below.refl V.heap.size V).alloc (o:=.cells _ _) (Nat.le_refl _)).trans ((qe V.heap.size cs _ 0).below zS (by rintro k i hk ⟨rfl,_,_⟩;omega))
 have hz2:V.heap.size<(setCells (V.alloc (.cells z.cells E.tFld)) V.heap.size 0 cs).heap.size:=by
  have:=(qe V.heap.size cs (V.alloc (.cells z.cells E.tFld)) 0).size
  simp at this
  omega
 have hc4:qb (setCells (V.alloc (.cells z.cells E.tFld)) V.heap.size 0 cs) V.heap.size 4 [.int .i64 f.tag]:=by
  intro j v hv
  cases j with
  | zero =>
   simp only[List.getElem?_cons_zero,Option.some.injEq] at hv
   subst hv
   have:=hcell 4 (.int .i64 f.tag) (by cases f with | mk=>obtain ⟨sv2,rfl,_⟩:=hrc;rfl)
   simpa using this
  | succ j=>simp at hv
 generalize setCells (V.alloc (.cells z.cells E.tFld)) V.heap.size 0 cs=V1 at hcell hb2 hz2 hc4 ⊢
 generalize hG:(((((B.put (some 59) _).put (some 60) _).put (some 61) _).put (some 16) _).put (some 15) _)=G
 have hsG:G.tmps.size=132:=by rw[← hG];simp only[zP];exact hs
 have hdG:G.defers=[]:=by rw[← hG];simp only[dF];exact hd
 have hkG:KeepT B G:=by rw[← hG];rintro j (rfl | rfl | rfl | rfl | rfl | rfl | rfl | rfl | rfl | rfl | rfl)<;>exact zE
 have k11:G.eval (.tmp 11)=.int .i64 (c0:Int):=by rw[← hG];exact zA
 have k10:G.eval (.tmp 10)=B.eval (.tmp 10):=by rw[← hG];exact zE
 have k15:G.eval (.tmp 15)=.int .i64 (i:Int):=by rw[← hG];exact zA
 have k16:G.eval (.tmp 16)=.pointer (some ⟨V.heap.size,0,none⟩):=by rw[← hG];exact zE
 have k1:G.eval (.tmp 1)=.int .i64 ver:=(hkG 1 zS).trans g1
 have k2:G.eval (.tmp 2)=.bool fx:=(hkG 2 zS).trans g2
 have k7:G.eval (.tmp 7)=.pointer (some ⟨b,0,none⟩):=(hkG 7 zS).trans g7
 have k14:G.eval (.tmp 14)=.int .i64 (k:Int):=(hkG 14 zS).trans g14
 rw[← k10] at hown
 clear hG
 have hbd:Below V1.heap.size V1 { V1 with drawn:=V1.drawn+1 }:=⟨rfl,rfl,rfl,Nat.le_refl _,fun _ _=>rfl⟩
 have mkS:∀ w2,Below V1.heap.size V1 w2->qb w2 V.heap.size 0 cs/\qb w2 V.heap.size 4 [.int .i64 f.tag]/\qb w2 b 0 ts:=fun w2 h2=>⟨hcell.below h2 hz2,hc4.below h2 hz2,(hts.below hb2 zH).below h2 zH⟩
 have hS:=mkS _ hbd
 have hS0:({ V1 with drawn:=V1.drawn+1 }:World).heap.size=V1.heap.size:=rfl
 by_cases htag:f.tag=(k:Int)
 ·have hb:(f.tag==(k:Int))=true:=by simpa using htag
  have hV1d:Below U V { V1 with drawn:=V1.drawn+1 }:=(hb2.mono hUV).trans (hbd.mono zH)
  have hUV1:U<=V1.heap.size:=by omega
  have hrc1:f.Rep { V1 with drawn:=V1.drawn+1 } V1.heap.size cs:=(hrc.below hV1d).mono hUV1
  have hrt1:t.Rep { V1 with drawn:=V1.drawn+1 } V1.heap.size ts:=(hrt.below hV1d).mono hUV1
  refine vS (noPanicS (xd [(0,true),(1,true),(2,true),(3,true),(4,true),(5,true),(6,true),(7,true),(8,false),(9,false),(10,true),(11,true)] (fun W'=>qb W' V.heap.size 0 cs/\qb W' V.heap.size 4 [.int .i64 f.tag]/\qb W' b 0 ts) HT.mixed (by kernel_rfl) rfl (by kernel_rfl) (fun c _ _ _ h=>absurd rfl (h.1 c)) ?_))
  refine dP rfl rfl rfl (wN rfl) (by simp only[zP,hsG];decide) hS (fun w' hS'=>rF (b:=V.heap.size) (o:=0) zA (ql H.fFld (by decide)) (dn ⟨rfl,rfl,rfl⟩)) ?_
  refine dP rfl rfl rfl (wN rfl) (by simp only[zP,hsG];decide) hS (fun w' hS'=>rL (b:=V.heap.size) (o:=0+4) (v:=.int .i64 f.tag) zM H.oInt (by simpa using hS'.2.1 0 _ rfl) (dn ⟨rfl,rfl,rfl⟩)) ?_
  refine dP rfl rfl rfl (wN rfl) (by simp only[zP,hsG];decide) hS (fun w' hS'=>rM (dn ⟨rfl,rfl,rfl⟩)) ?_
  refine dP rfl rfl rfl (wN rfl) (by simp only[zP,hsG];decide) hS (fun w' hS'=>xy (k:=.i64) (m:=f.tag) (n:=(k:Int)) zE zA (dn ⟨rfl,rfl,rfl⟩)) ?_
  rw[hb]
  refine dP rfl rfl rfl (wN rfl) (by simp only[zP,hsG];decide) hS (fun w' hS'=>rM (dn ⟨rfl,rfl,rfl⟩)) ?_
  refine dP rfl rfl rfl (by rw[wS (b:=true) rfl rfl zM];rfl) (by simp only[zP,hsG];decide) hS (fun w' hS'=>qf (b:=V.heap.size) (o:=0) (cs:=cs) zA (by rw[hrc.len];exact H.aFld) hS'.1 (dn ⟨rfl,rfl,rfl⟩)) ?_
  refine dP rfl rfl rfl (by rw[wS (b:=true) rfl rfl zM];rfl) (by simp only[zP,hsG];decide) hS (fun w' hS'=>qf (b:=b) (o:=0) (cs:=ts) zA (by rw[hrt.len];exact H.aTree) hS'.2.2 (dn ⟨rfl,rfl,rfl⟩)) ?_
  refine dP rfl rfl rfl (by rw[wS (b:=true) rfl rfl zM];rfl) (by simp only[zP,hsG];decide) hS (fun w' hS'=>rM (dn ⟨rfl,rfl,rfl⟩)) ?_
  refine qx rfl (by rw[wS (b:=true) rfl rfl zM];rfl) ?_
  refine q8 (args:=#[.agg ts.toArray,.int .i64 (i:Int)]) ?_ (s_at (U:=V1.heap.size) (i:=i) H HL HT.at' hrt1 (Nat.le_refl _)) ?_
  ·simp only[lM]
   simp (disch:=(try simp only[sP]);omega) only[eV,k15]
  rintro v3 w3 ⟨c2,rfl,hr2,hb4⟩
  have hV3:Below V1.heap.size V1 w3:=hbd.trans hb4
  refine dn (qw (mkS _ hV3) ?_)
  refine qx rfl (by rw[wS (b:=true) rfl rfl zM];rfl) ?_
  refine q8 (args:=#[.agg cs.toArray,.agg c2.toArray]) ?_ (s_usual (U:=V1.heap.size) H HT (hrc1.below hb4) (hr2.below hb4) hV3.size (hnum htag)) ?_
  ·simp only[lM]
   exact zE
  rintro v4 w4 ⟨rfl,hb5⟩
  have hV4:Below V1.heap.size V1 w4:=hV3.trans hb5
  refine dn (qw (mkS _ hV4) ?_)
  refine dP rfl rfl rfl (by rw[wS (b:=true) rfl rfl zM];rfl) (by simp only[zP,hsG];decide) (mkS _ hV4) (fun w' hS'=>zq (b:=f.usual (t.at i)) zE (dn ⟨rfl,rfl,rfl⟩)) ?_
  refine dP rfl rfl rfl (wN rfl) (by simp only[zP,hsG];decide) (mkS _ hV4) (fun w' hS'=>qZ zE (dn ⟨rfl,rfl,rfl⟩)) ?_
  refine xC ⟨(fun _ h=>by cases h),?_⟩
  generalize hA:Act.put _ (some 73) _=A
  have hsA:A.tmps.size=132:=by rw[← hA];simp only[zP];exact hsG
  have hdA:A.defers=[]:=by rw[← hA];simp only[dF];exact hdG
  have hkA:KeepT B A:=by
   intro j hj
   rw[← hkG j hj,← hA]
   rcases hj with rfl | rfl | rfl | rfl | rfl | rfl | rfl | rfl | rfl | rfl | rfl<;>exact zE
  have a11:A.eval (.tmp 11)=.int .i64 (c0:Int):=by rw[← hA];exact zA
  have a10:A.eval (.tmp 10)=G.eval (.tmp 10):=by rw[← hA];exact zE
  have a15:A.eval (.tmp 15)=.int .i64 (i:Int):=by rw[← hA];exact zA
  have a16:A.eval (.tmp 16)=.pointer (some ⟨V.heap.size,0,none⟩):=by rw[← hA];exact zA
  have a73:A.eval (.tmp 73)=.bool (!f.usual (t.at i)):=by rw[← hA];exact zE
  rw[← a10] at hown
  clear hA
  have hVV4:Below V.heap.size V w4:=hb2.trans (hV4.mono zH)
  have hown4:=qE hown hVV4
  refine vS (vC a73 ?_ ?_)
  ·intro hus
   have hus':f.usual (t.at i)=false:=by simpa using hus
   have hone:zT k (f.tag,f.has ver,f.usual (t.at i),f.wr ver fx (t.at i))=some (k,f.wr ver fx (t.at i)):=by
    unfold zT
    simp[htag,hus']
   have hput:yG k (f.tag,f.has ver,f.usual (t.at i),f.wr ver fx (t.at i))=j8 k (f.wr ver fx (t.at i)):=by unfold yG;rw[hone]
   have hcnt:wA k (f.tag,f.has ver,f.usual (t.at i),f.wr ver fx (t.at i))=1:=by unfold wA;rw[hone]
   rw[hput] at hbig
   rw[hput,hcnt] at kn
   have a1:A.eval (.tmp 1)=.int .i64 ver:=(hkA 1 zS).trans g1
   have a2:A.eval (.tmp 2)=.bool fx:=(hkA 2 zS).trans g2
   have a7:A.eval (.tmp 7)=.pointer (some ⟨b,0,none⟩):=(hkA 7 zS).trans g7
   have a14:A.eval (.tmp 14)=.int .i64 (k:Int):=(hkA 14 zS).trans g14
   have hwl:(j8 k (f.wr ver fx (t.at i))).length=(Go.Km.uvar k).length+(Go.Km.uvar (f.wr ver fx (t.at i)).length).length+(f.wr ver fx (t.at i)).length:=by simp only[j8,List.length_append]
   rw[List.length_append,hwl] at hbig
   generalize hfw:f.wr ver fx (t.at i)=fw at *
   have hbd4:Below w4.heap.size w4 { w4 with drawn:=w4.drawn+1 }:=⟨rfl,rfl,rfl,Nat.le_refl _,fun _ _=>rfl⟩
   have hV4z:=hV4.size
   have mkS4:∀ w2,Below w4.heap.size w4 w2->qb w2 V.heap.size 0 cs/\qb w2 V.heap.size 4 [.int .i64 f.tag]/\qb w2 b 0 ts:=fun w2 h2=>mkS w2 (hV4.trans (h2.mono hV4z))
   have hV4d:Below U V { w4 with drawn:=w4.drawn+1 }:=(hVV4.mono hUV).trans (hbd4.mono zH)
   have hUw4:U<=w4.heap.size:=by omega
   have hrc4:f.Rep { w4 with drawn:=w4.drawn+1 } w4.heap.size cs:=(hrc.below hV4d).mono hUw4
   have hrt4:t.Rep { w4 with drawn:=w4.drawn+1 } w4.heap.size ts:=(hrt.below hV4d).mono hUw4
   refine vS (noPanicS (xd [(0,true),(1,true),(2,true),(3,true),(4,true),(5,false),(6,false),(7,true)] (fun W'=>qb W' V.heap.size 0 cs/\qb W' V.heap.size 4 [.int .i64 f.tag]/\qb W' b 0 ts) HT.mixed (by kernel_rfl) rfl (by kernel_rfl) (fun c _ _ _ h=>absurd rfl (h.1 c)) ?_))
   have hS4:=mkS4 _ hbd4
   refine dP rfl rfl rfl (wN rfl) (by simp only[zP,hsA];decide) hS4 (fun w' hS'=>qf (b:=V.heap.size) (o:=0) (cs:=cs) zA (by rw[hrc.len];exact H.aFld) hS'.1 (dn ⟨rfl,rfl,rfl⟩)) ?_
   refine dP rfl rfl rfl (wN rfl) (by simp only[zP,hsA];decide) hS4 (fun w' hS'=>rM (dn ⟨rfl,rfl,rfl⟩)) ?_
   refine dP rfl rfl rfl (wN rfl) (by simp only[zP,hsA];decide) hS4 (fun w' hS'=>rM (dn ⟨rfl,rfl,rfl⟩)) ?_
   refine dP rfl rfl rfl (wN rfl) (by simp only[zP,hsA];decide) hS4 (fun w' hS'=>qf (b:=b) (o:=0) (cs:=ts) zA (by rw[hrt.len];exact H.aTree) hS'.2.2 (dn ⟨rfl,rfl,rfl⟩)) ?_
   refine dP rfl rfl rfl (wN rfl) (by simp only[zP,hsA];decide) hS4 (fun w' hS'=>rM (dn ⟨rfl,rfl,rfl⟩)) ?_
   refine qx rfl (wN rfl) ?_
   refine q8 (args:=#[.agg ts.toArray,.int .i64 (i:Int)]) ?_ (s_at (U:=w4.heap.size) (i:=i) H HL HT.at' hrt4 (Nat.le_refl _)) ?_
   ·simp only[lM]
    simp (disch:=(try simp only[sP]);omega) only[eV,a15]
   rintro v5 w5 ⟨c3,rfl,hr5,hb6⟩
   refine dn (qw (mkS4 _ (hbd4.trans hb6)) ?_)
   refine qx rfl (wN rfl) ?_
   refine q8 (args:=#[.agg cs.toArray,.int .i64 ver,.bool fx,.agg c3.toArray]) ?_ (hfc w4.heap.size w5 cs (t.at i) c3 hb6.size (hrc4.below hb6) (hr5.below hb6) (by rw[hfw];omega)) ?_
   ·simp only[lM]
    simp (disch:=(try simp only[sP]);omega) only[eV,a1,a2]
   rintro v6 w6 ⟨h6,hb7⟩
   rw[hfw] at h6
   have hW6:Below w4.heap.size w4 w6:=(hbd4.trans hb6).trans hb7
   refine dn (qw (mkS4 _ hW6) ?_)
   refine dP rfl rfl rfl (wN rfl) (by simp only[zP,hsA];decide) (mkS4 _ hW6) (fun w' hS'=>rA (dn ⟨rfl,rfl,rfl⟩)) ?_
   refine xC ⟨(fun _ h=>by cases h),?_⟩
   generalize hA:Act.put _ (some 17) _=A3
   have hsA3:A3.tmps.size=132:=by rw[← hA];simp only[zP];exact hsA
   have hdA3:A3.defers=[]:=by rw[← hA];simp only[dF];exact hdA
   have hkA3:KeepT B A3:=by
    intro j hj
    rw[← hkA j hj,← hA]
    rcases hj with rfl | rfl | rfl | rfl | rfl | rfl | rfl | rfl | rfl | rfl | rfl<;>exact zE
   have b11:A3.eval (.tmp 11)=.int .i64 (c0:Int):=by rw[← hA];exact zA
   have b10:A3.eval (.tmp 10)=A.eval (.tmp 10):=by rw[← hA];exact zE
   have b14:A3.eval (.tmp 14)=.int .i64 (k:Int):=(hkA3 14 zS).trans g14
   have b17:A3.eval (.tmp 17)=v6:=by rw[← hA];exact zE
   clear hA
   rw[← b10] at hown4
   have hown6:=qE hown4 hW6
   generalize hvt:A3.eval (.tmp 10)=vt at *
   have hvtlt:∀ g,vt.ownBlock=some g->g<w4.heap.size:=fun g hg=>xA hown4 hg
   have hCw4:C<=w4.heap.size:=by omega
   have hW6z:=hW6.size
   have hv6:∀ g,v6.ownBlock=some g->w4.heap.size<=g/\g<w6.heap.size:=fun g hg=>⟨by
    rcases h6.2 with ⟨h,_⟩ | ⟨g',cap,cur,h1,h2,_⟩
    ·rw[h] at hg;cases hg
    ·rw[h1] at hg
     simp only[Value.ownBlock,Option.some.injEq] at hg
     omega,xA h6 hg⟩
   refine vX (rM (rM ?_))
   refine qL (k:=.i64) (k':=.u64) (m:=(k:Int)) H.int H.u64 zA ?_
   have hwk:IntKind.u64.wrap (k:Int)=(k:Int):=by rw[zj];omega
   rw[hwk]
   refine q8 (args:=#[.int .u64 (k:Int)]) ?_ (yc (U:=w6.heap.size) HT.uvar H.row H.u8 H.u64 zH (Nat.le_refl _)) ?_
   ·simp only[lM]
    exact zE
   rintro v7 w7 ⟨h7,hb8⟩
   have hown7:=qE hown6 hb8
   have h67:=qE h6 hb8
   have hW7z:=hb8.size
   refine zl (sz:=1) (U:=C) (v:=vt) (m:=(Go.Km.uvar k).length) (news:=(Go.Km.uvar k).map bv) H.row zA zE hown7 zH (xJ hslB h7 (xm _)) zH ?_
   intro v8 w8 h8 hb9 hg9 hn9
   rw[← List.length_append,← List.map_append] at h8
   have h68:=ko h67 hg9 (fun g hg he=>by have:=hv6 g hg;have:=hvtlt g he;omega)
   have hv8:∀ g,v8.ownBlock=some g->g<w4.heap.size\/w6.heap.size<=g:=fun g hg=>by
    rcases hn9 g hg with h | h
    ·exact .inl (hvtlt g h)
    ·omega
   have hW8z:=hb9.size
   refine rM ?_
   obtain ⟨ad6,cap6,hf6⟩:=(xl.of_own h68).form
   refine x7 (ad:=ad6) (n:=fw.length) (c:=cap6) hslB (by simp (disch:=(try simp only[sP]);omega) only[eV,b17,hf6]) ?_
   refine qL (k:=.i64) (k':=.u64) (m:=(fw.length:Int)) H.int H.u64 zE ?_
   have hwk2:IntKind.u64.wrap (fw.length:Int)=(fw.length:Int):=by rw[zj];unfold big at hbig;omega
   rw[hwk2]
   refine q8 (args:=#[.int .u64 (fw.length:Int)]) ?_ (yc (U:=w8.heap.size) HT.uvar H.row H.u8 H.u64 (by unfold big at hbig;omega) (Nat.le_refl _)) ?_
   ·simp only[lM]
    exact zE
   rintro v9 w9 ⟨h9,hb10⟩
   have h89:=qE h8 hb10
   have h69:=qE h68 hb10
   have hW9z:=hb10.size
   refine zl (sz:=1) (U:=C) (v:=v8) (m:=(Go.Km.uvar fw.length).length) (news:=(Go.Km.uvar fw.length).map bv) H.row zE zE h89 zH (xJ hslB h9 (xm _)) (by rw[List.length_append];omega) ?_
   intro v10 w10 h10 hb11 hg11 hn11
   rw[← List.length_append,← List.map_append] at h10
   have h610:=ko h69 hg11 (fun g hg he=>by have:=hv6 g hg;have:=hv8 g he;omega)
   have hW10z:=hb11.size
   refine rM ?_
   refine xc (sz:=1) (U:=C) (m:=fw.length) (news:=fw.map bv) H.row zE zA h10 zH (xJ hslB h610 (xm _)) (by rw[List.length_append,List.length_append];omega) ?_
   intro v11 w11 h11 hb12
   rw[← List.length_append,← List.map_append] at h11
   refine rA (dn (vX (rM ?_)))
   refine xN (k:=.i64) (m:=(c0:Int)) (n:=1) zA rfl ?_
   refine rA (dn ?_)
   repeat (refine vN ?_)
   have hwi:IntKind.i64.wrap ((c0:Int)+1)=((c0+1:Nat):Int):=by unfold big at hc0;rw[wrap_i64 zH zH];rfl
   refine kn _ w11 (by simp only[zP];exact hsA3) (by simp only[dF];exact hdA3) ?_ ?_ ?_ ?_
   ·intro j hj
    rw[← hkA3 j hj]
    rcases hj with rfl | rfl | rfl | rfl | rfl | rfl | rfl | rfl | rfl | rfl | rfl<;>exact zE
   ·simp (disch:=(try simp only[sP]);omega) only[eV]
    rw[hwi]
   ·exact ((((((hVV4.mono hCV).trans (hW6.mono hCw4)).trans (hb8.mono zH)).trans hb9).trans (hb10.mono zH)).trans hb11).trans hb12
   ·rw[show Act.eval _ (.tmp 10)=v11 by exact zE]
    unfold j8
    rw[← List.append_assoc,← List.append_assoc]
    exact h11
  ·intro hus
   have hus':f.usual (t.at i)=true:=by simpa using hus
   have hone:zT k (f.tag,f.has ver,f.usual (t.at i),f.wr ver fx (t.at i))=none:=by
    unfold zT
    simp[hus']
   have hput:yG k (f.tag,f.has ver,f.usual (t.at i),f.wr ver fx (t.at i))=[]:=by unfold yG;rw[hone]
   have hcnt:wA k (f.tag,f.has ver,f.usual (t.at i),f.wr ver fx (t.at i))=0:=by unfold wA;rw[hone]
   rw[hput,hcnt,List.append_nil,Nat.add_zero] at kn
   exact vK (vN (kn A w4 hsA hdA hkA a11 (hVV4.mono hCV) hown4))
 ·have hb:(f.tag==(k:Int))=false:=by simpa using htag
  have hone:zT k (f.tag,f.has ver,f.usual (t.at i),f.wr ver fx (t.at i))=none:=by
   unfold zT
   simp[htag]
  have hput:yG k (f.tag,f.has ver,f.usual (t.at i),f.wr ver fx (t.at i))=[]:=by unfold yG;rw[hone]
  have hcnt:wA k (f.tag,f.has ver,f.usual (t.at i),f.wr ver fx (t.at i))=0:=by unfold wA;rw[hone]
  rw[hput,hcnt,List.append_nil,Nat.add_zero] at kn
  refine vS (noPanicS (xd [(0,true),(1,true),(2,true),(3,true),(4,true),(5,true),(6,true),(7,true),(8,true),(9,true),(10,true),(11,true)] (fun W'=>qb W' V.heap.size 0 cs/\qb W' V.heap.size 4 [.int .i64 f.tag]/\qb W' b 0 ts) HT.mixed (by kernel_rfl) rfl (by kernel_rfl) (fun c _ _ _ h=>absurd rfl (h.1 c)) ?_))
  refine dP rfl rfl rfl (wN rfl) (by simp only[zP,hsG];decide) hS (fun w' hS'=>rF (b:=V.heap.size) (o:=0) zA (ql H.fFld (by decide)) (dn ⟨rfl,rfl,rfl⟩)) ?_
  refine dP rfl rfl rfl (wN rfl) (by simp only[zP,hsG];decide) hS (fun w' hS'=>rL (b:=V.heap.size) (o:=0+4) (v:=.int .i64 f.tag) zM H.oInt (by simpa using hS'.2.1 0 _ rfl) (dn ⟨rfl,rfl,rfl⟩)) ?_
  refine dP rfl rfl rfl (wN rfl) (by simp only[zP,hsG];decide) hS (fun w' hS'=>rM (dn ⟨rfl,rfl,rfl⟩)) ?_
  refine dP rfl rfl rfl (wN rfl) (by simp only[zP,hsG];decide) hS (fun w' hS'=>xy (k:=.i64) (m:=f.tag) (n:=(k:Int)) zE zA (dn ⟨rfl,rfl,rfl⟩)) ?_
  rw[hb]
  refine dP rfl rfl rfl (wN rfl) (by simp only[zP,hsG];decide) hS (fun w' hS'=>rM (dn ⟨rfl,rfl,rfl⟩)) ?_
  refine d_no rfl rfl (by rw[wS (b:=false) rfl rfl zM];rfl) hS ?_
  refine d_no rfl rfl (by rw[wS (b:=false) rfl rfl zM];rfl) hS ?_
  refine d_no rfl rfl (by rw[wS (b:=false) rfl rfl zM];rfl) hS ?_
  refine d_no rfl rfl (by rw[wS (b:=false) rfl rfl zM];rfl) hS ?_
  refine d_no rfl rfl (by rw[wS (b:=false) rfl rfl zM];rfl) hS ?_
  refine d_no rfl rfl (by rw[wS (b:=false) rfl rfl zM];rfl) hS ?_
  refine dP rfl rfl rfl (wN rfl) (by simp only[zP,hsG];decide) hS (fun w' hS'=>xx zE (dn ⟨rfl,rfl,rfl⟩)) ?_
  refine xC ⟨(fun _ h=>by cases h),?_⟩
  refine vS (vC (t:=false) zM (fun h=>by cases h) (fun _=>?_))
  have hVV1:Below V.heap.size V { V1 with drawn:=V1.drawn+1 }:=hb2.trans (hbd.mono zH)
  refine vK (vN (kn _ _ (by simp only[zP];exact hsG) (by simp only[dF];exact hdG) ?_ zA (hVV1.mono hCV) ?_))
  ·intro j hj
   rw[← hkG j hj]
   rcases hj with rfl | rfl | rfl | rfl | rfl | rfl | rfl | rfl | rfl | rfl | rfl<;>exact zE
  ·rw[show Act.eval _ (.tmp 10)=G.eval (.tmp 10) by exact zE]
   exact qE hown hVV1
end
end Go.Km
namespace Go.Km
open Go Go.RowKit
attribute [local irreducible] vc rO_ qz qJ qF
def tgB (l:List (Nat × List UInt8)):List UInt8:=(l.map fun x=>j8 x.1 x.2).flatten
def zU (rs:List Rec) (kn:Nat):List (Nat × List UInt8):=(List.range kn).flatMap fun k=>rs.filterMap (zT k)
theorem vi (a b:List (Nat × List UInt8)):tgB (a++b)=tgB a++tgB b:=by unfold tgB;rw[List.map_append,List.flatten_append]
theorem uvarS_pos (n:Nat):1<=(Go.Km.uvar n).length:=by
 unfold Go.Km.uvar
 show 1<=(uvF 9 n).length
 simp only[uvF]
 split<;>simp
theorem tgB_len:∀ l,l.length<=(tgB l).length
 | []=>by simp
 | x::l=>by
  have:=tgB_len l
  have h2:=uvarS_pos x.1
  have h3:tgB (x::l)=j8 x.1 x.2++tgB l:=by simp[tgB]
  have h4:(j8 x.1 x.2).length=(Go.Km.uvar x.1).length+(Go.Km.uvar x.2.length).length+x.2.length:=by simp only[j8,List.length_append]
  rw[h3,List.length_append,h4,List.length_cons]
  omega
theorem y9 (rs:List Rec) (k:Nat):zU rs (k+1)=zU rs k++rs.filterMap (zT k):=by
 unfold zU
 rw[List.range_succ,List.flatMap_append]
 simp
theorem tgAll_le (rs:List Rec) {k n:Nat} (h:k<=n):(tgB (zU rs k)).length<=(tgB (zU rs n)).length:=by
 induction n with
 | zero =>
  have:k=0:=by omega
  subst this
  exact Nat.le_refl _
 | succ n ih =>
  rcases Nat.eq_or_lt_of_le h with rfl | h
  ·exact Nat.le_refl _
  ·rw[y9,vi,List.length_append]
   have:=ih zH
   omega
theorem tgTake (rs:List Rec) (k i:Nat) (hi:i<rs.length):tgB ((rs.take (i+1)).filterMap (zT k))=tgB ((rs.take i).filterMap (zT k))++yG k rs[i]/\((rs.take (i+1)).filterMap (zT k)).length=((rs.take i).filterMap (zT k)).length+wA k rs[i]:=by
 rw[List.take_succ_eq_append_getElem hi,List.filterMap_append]
 unfold yG wA
 cases h:zT k rs[i] with
 | none=>simp[h]
 | some x =>
  rw[vi]
  simp[h,tgB]
theorem tgTake_le (rs:List Rec) (k i:Nat):(tgB ((rs.take i).filterMap (zT k))).length<=(tgB (rs.filterMap (zT k))).length:=by
 have:rs=rs.take i++rs.drop i:=(List.take_append_drop i rs).symm
 conv=>rhs;rw[this]
 rw[List.filterMap_append,vi,List.length_append]
 omega
section
variable {P : Program} {E : Env} {w : World} {U : Nat}
set_option maxHeartbeats 2000000 in
theorem s_partM2 (H:SEnv P E) (HL:SLay P E) (HT:STexts P E) {fs:SFs} {sv uv v9:Value} {t:Tr} {ts:List Value} {ver:Int} {b:Nat} {A:Act} {W0:World} {Q:Exit->Act->World->Prop} {xs:List UInt8} {fx:Bool}
  (hs:A.tmps.size=132) (hd:A.defers=[]) (f0:A.eval (.tmp 0)=sv) (f1:A.eval (.tmp 1)=.int .i64 ver) (f2:A.eval (.tmp 2)=.bool fx) (f7:A.eval (.tmp 7)=.pointer (some ⟨b,0,none⟩)) (f9:A.eval (.tmp 9)=v9) (f10:A.eval (.tmp 10)=.slice none 0 0) (f11:A.eval (.tmp 11)=.int .i64 0)
  (hsf:SlF w U sv fs) (htg:∀ t ∈ fs.tags,t<65536) (hfl:fs.len<=big) (hbW:b<W0.heap.size) (hc:W0.cell? ⟨b,4,none⟩=some uv) (hts:qb W0 b 0 ts) (hrt:t.Rep w U ts) (hu:kD w U uv t.tags) (hU:U<=w.heap.size) (hw:Below U w W0) (hown:W0.ownsRow U E.tU8 1 v9 xs.length (xs.map bv))
  (hnum:∀ i f,fs.get i=some f->0<=f.tag->f.num=true) (hfc:∀ i f,fs.get i=some f->ws P E ver fx f)
  {R:List UInt8} (hR:R=if fx then xs++Go.Km.uvar ((zU (fs.recs ver fx 0 t) (known fs.tags)).length+(unk (known fs.tags) t.tags).length)++(tgB (zU (fs.recs ver fx 0 t) (known fs.tags))++((unk (known fs.tags) t.tags).map fun x=>j8 x.1 (x.2.take 32767)).flatten) else xs) (hbig:R.length<=big)
  (hQ:∀ a' w',Out P #[.tmp 8] (fun v w'=>w'.ownsRow U E.tU8 1 v R.length (R.map bv)/\Below U w w') .ret a' w'->Q .ret a' w') :
  vc P (sq [
  (sq [(rg [(oQ 46 (.move (.tmp 2)) E.tO),
    (oQ 47 (.unOp .not E.tO (.tmp 46)) E.tO)]),
   (.cond (.tmp 47)
    (sq [(rg [(oQ 48 (.move (.tmp 9)) E.tB),
      (oQ 8 (.assign (.tmp 48)) E.tB)]),
     .ret])
    .skip)]),
  (sq [(rg [(oQ 49 (.move (.tmp 0)) E.tFlds),
    (oQ 50 (.call { callee:=.value (.func E.sKnown),args:=#[(.tmp 49)],argTypes:=#[E.tFlds] }) E.tW),
    (oQ 51 (.convert E.tW E.tI (.tmp 50)) E.tI),
    (oQ 52 (.move (.const (.int .i64 0))) E.tI)]),
   (.block 2 (.loop (sq [(rg [(oQ 53 (.binOp .lss E.tI (.tmp 52) (.tmp 51) E.tI) E.tO)]),
      (.cond (.tmp 53)
       .skip
       (.exit 2)),
      (.block 3 (sq [(rg [(oQ 54 (.move (.tmp 52)) E.tI),
         (oQ 14 (.assign (.tmp 54)) E.tI)]),
        (rg [(oQ 55 (.move (.tmp 0)) E.tFlds),
         (oQ 56 (.call { callee:=.builtin .len,args:=#[(.tmp 55)],argTypes:=#[E.tFlds] }) E.tI),
         (oQ 57 (.move (.const (.int .i64 0))) E.tI)]),
        (.block 4 (.loop (sq [(rg [(oQ 58 (.binOp .lss E.tI (.tmp 57) (.tmp 56) E.tI) 0)]),
           (.cond (.tmp 58)
            .skip
            (.exit 4)),
           (.block 5 (sq [(rg [(oQ 59 (.move (.tmp 57)) E.tI),
              (oQ 60 (.indexAddr E.tFlds (.tmp 55) (.tmp 57)) 0),
              (oQ 61 (.load E.tFld (.tmp 60)) E.tFld),
              (oQ 16 (.alloc E.tFld) 0),
              (oQ 15 (.assign (.tmp 59)) E.tI),
              ⟨none,.store E.tFld (.tmp 16) (.tmp 61),0,"",#[],none⟩]),
             (rgd [(oQ 62 (.fieldAddr E.tFld (.tmp 16) 4) 0),
              ⟨some 63,.load E.tI (.tmp 62),E.tI,"",#[⟨0,.data⟩],none⟩,
              (oQ 64 (.move (.tmp 14)) E.tI),
              ⟨some 65,.binOp .eql E.tI (.tmp 63) (.tmp 64) E.tI,E.tO,"",#[⟨1,.data⟩,⟨2,.data⟩],none⟩,
              ⟨some 66,.move (.tmp 65),E.tO,"",#[⟨3,.data⟩],none⟩,
              ⟨some 67,.load E.tFld (.tmp 16),E.tFld,"",#[⟨4,.guard⟩],some (4,true)⟩,
              ⟨some 68,.load E.tT (.tmp 7),E.tT,"",#[⟨4,.guard⟩],some (4,true)⟩,
              ⟨some 69,.move (.tmp 15),E.tI,"",#[⟨4,.guard⟩],some (4,true)⟩,
              ⟨some 70,.call { callee:=.value (.func E.sAt),args:=#[(.tmp 68),(.tmp 69)],argTypes:=#[E.tT,E.tI] },E.tT,"",#[⟨6,.data⟩,⟨7,.data⟩,⟨4,.chain⟩,⟨4,.guard⟩],some (4,true)⟩,
              ⟨some 71,.call { callee:=.value (.func E.sUsual),args:=#[(.tmp 67),(.tmp 70)],argTypes:=#[E.tFld,E.tT] },E.tO,"",#[⟨5,.data⟩,⟨8,.data⟩,⟨8,.chain⟩,⟨4,.guard⟩],some (4,true)⟩,
              ⟨some 72,.unOp .not E.tO (.tmp 71),E.tO,"",#[⟨9,.data⟩,⟨4,.guard⟩],some (4,true)⟩,
              ⟨some 73,.pick (.tmp 66) (.tmp 72) (.const (.bool false)),E.tO,"",#[⟨4,.data⟩,⟨10,.data⟩],none⟩]),
             (.cond (.tmp 73)
              (sq [(rgd [(oQ 74 (.load E.tFld (.tmp 16)) E.tFld),
                (oQ 75 (.move (.tmp 1)) E.tI),
                (oQ 76 (.move (.tmp 2)) E.tO),
                (oQ 77 (.load E.tT (.tmp 7)) E.tT),
                (oQ 78 (.move (.tmp 15)) E.tI),
                ⟨some 79,.call { callee:=.value (.func E.sAt),args:=#[(.tmp 77),(.tmp 78)],argTypes:=#[E.tT,E.tI] },E.tT,"",#[⟨3,.data⟩,⟨4,.data⟩],none⟩,
                ⟨some 80,.call { callee:=.value (.func E.sField),args:=#[(.tmp 74),(.tmp 75),(.tmp 76),(.tmp 79)],argTypes:=#[E.tFld,E.tI,E.tO,E.tT] },E.tB,"",#[⟨0,.data⟩,⟨1,.data⟩,⟨2,.data⟩,⟨5,.data⟩,⟨5,.chain⟩],none⟩,
                ⟨some 17,.assign (.tmp 80),E.tB,"",#[⟨6,.data⟩,⟨6,.chain⟩,⟨0,.phase⟩,⟨1,.phase⟩,⟨2,.phase⟩,⟨3,.phase⟩,⟨4,.phase⟩,⟨5,.phase⟩,⟨6,.phase⟩],none⟩]),
               (rg [(oQ 81 (.move (.tmp 10)) E.tB),
                (oQ 82 (.move (.tmp 14)) E.tI),
                (oQ 83 (.convert E.tI E.tU64 (.tmp 82)) E.tU64),
                (oQ 84 (.call { callee:=.value (.func E.sUvar),args:=#[(.tmp 83)],argTypes:=#[E.tU64] }) E.tB),
                (oQ 85 (.call { callee:=.builtin .append,args:=#[(.tmp 81),(.tmp 84)],argTypes:=#[E.tB,E.tB] }) E.tB),
                (oQ 86 (.move (.tmp 17)) E.tB),
                (oQ 87 (.call { callee:=.builtin .len,args:=#[(.tmp 86)],argTypes:=#[E.tB] }) E.tI),
                (oQ 88 (.convert E.tI E.tU64 (.tmp 87)) E.tU64),
                (oQ 89 (.call { callee:=.value (.func E.sUvar),args:=#[(.tmp 88)],argTypes:=#[E.tU64] }) E.tB),
                (oQ 90 (.call { callee:=.builtin .append,args:=#[(.tmp 85),(.tmp 89)],argTypes:=#[E.tB,E.tB] }) E.tB),
                (oQ 91 (.move (.tmp 17)) E.tB),
                (oQ 92 (.call { callee:=.builtin .append,args:=#[(.tmp 90),(.tmp 91)],argTypes:=#[E.tB,E.tB] }) E.tB),
                (oQ 10 (.assign (.tmp 92)) E.tB)]),
               (rg [(oQ 93 (.move (.tmp 11)) E.tI),
                (oQ 94 (.binOp .add E.tI (.tmp 93) (.const (.int .i64 1)) E.tI) E.tI),
                (oQ 11 (.assign (.tmp 94)) E.tI)])])
              .skip)])),
           (rg [(oQ 95 (.binOp .add E.tI (.tmp 57) (.const (.int .i64 1)) E.tI) E.tI),
            (oQ 57 (.move (.tmp 95)) E.tI)])])))])),
      (rg [(oQ 96 (.binOp .add E.tI (.tmp 52) (.const (.int .i64 1)) E.tI) E.tI),
       (oQ 52 (.move (.tmp 96)) E.tI)])])))]),
  (sq [(rg [(oQ 97 (.move (.tmp 0)) E.tFlds),
    (oQ 98 (.fieldAddr E.tT (.tmp 7) 4) 0),
    (oQ 99 (.load E.tK (.tmp 98)) E.tK),
    (oQ 100 (.call { callee:=.value (.func E.sUnknown),args:=#[(.tmp 97),(.tmp 99)],argTypes:=#[E.tFlds,E.tK] }) E.tK),
    (oQ 101 (.call { callee:=.builtin .len,args:=#[(.tmp 100)],argTypes:=#[E.tK] }) E.tI),
    (oQ 102 (.move (.const (.int .i64 0))) E.tI)]),
   (.block 6 (.loop (sq [(rg [(oQ 103 (.binOp .lss E.tI (.tmp 102) (.tmp 101) E.tI) 0)]),
      (.cond (.tmp 103)
       .skip
       (.exit 6)),
      (.block 7 (sq [(rg [(oQ 104 (.indexAddr E.tK (.tmp 100) (.tmp 102)) 0),
         (oQ 105 (.load E.tUnk (.tmp 104)) E.tUnk),
         (oQ 19 (.alloc E.tUnk) 0),
         ⟨none,.store E.tUnk (.tmp 19) (.tmp 105),0,"",#[],none⟩]),
        (rg [(oQ 106 (.fieldAddr E.tUnk (.tmp 19) 1) 0),
         (oQ 107 (.load E.tB (.tmp 106)) E.tB),
         (oQ 108 (.call { callee:=.value (.func E.sWhole),args:=#[(.tmp 107)],argTypes:=#[E.tB] }) E.tB),
         (oQ 20 (.assign (.tmp 108)) E.tB)]),
        (rg [(oQ 109 (.move (.tmp 10)) E.tB),
         (oQ 110 (.fieldAddr E.tUnk (.tmp 19) 0) 0),
         (oQ 111 (.load E.tW (.tmp 110)) E.tW),
         (oQ 112 (.convert E.tW E.tU64 (.tmp 111)) E.tU64),
         (oQ 113 (.call { callee:=.value (.func E.sUvar),args:=#[(.tmp 112)],argTypes:=#[E.tU64] }) E.tB),
         (oQ 114 (.call { callee:=.builtin .append,args:=#[(.tmp 109),(.tmp 113)],argTypes:=#[E.tB,E.tB] }) E.tB),
         (oQ 115 (.move (.tmp 20)) E.tB),
         (oQ 116 (.call { callee:=.builtin .len,args:=#[(.tmp 115)],argTypes:=#[E.tB] }) E.tI),
         (oQ 117 (.convert E.tI E.tU64 (.tmp 116)) E.tU64),
         (oQ 118 (.call { callee:=.value (.func E.sUvar),args:=#[(.tmp 117)],argTypes:=#[E.tU64] }) E.tB),
         (oQ 119 (.call { callee:=.builtin .append,args:=#[(.tmp 114),(.tmp 118)],argTypes:=#[E.tB,E.tB] }) E.tB),
         (oQ 120 (.move (.tmp 20)) E.tB),
         (oQ 121 (.call { callee:=.builtin .append,args:=#[(.tmp 119),(.tmp 120)],argTypes:=#[E.tB,E.tB] }) E.tB),
         (oQ 10 (.assign (.tmp 121)) E.tB)]),
        (rg [(oQ 122 (.move (.tmp 11)) E.tI),
         (oQ 123 (.binOp .add E.tI (.tmp 122) (.const (.int .i64 1)) E.tI) E.tI),
         (oQ 11 (.assign (.tmp 123)) E.tI)])])),
      (rg [(oQ 124 (.binOp .add E.tI (.tmp 102) (.const (.int .i64 1)) E.tI) E.tI),
       (oQ 102 (.move (.tmp 124)) E.tI)])])))]),
  (rg [(oQ 125 (.move (.tmp 9)) E.tB),
   (oQ 126 (.move (.tmp 11)) E.tI),
   (oQ 127 (.convert E.tI E.tU64 (.tmp 126)) E.tU64),
   (oQ 128 (.call { callee:=.value (.func E.sUvar),args:=#[(.tmp 127)],argTypes:=#[E.tU64] }) E.tB),
   (oQ 129 (.call { callee:=.builtin .append,args:=#[(.tmp 125),(.tmp 128)],argTypes:=#[E.tB,E.tB] }) E.tB),
   (oQ 130 (.move (.tmp 10)) E.tB),
   (oQ 131 (.call { callee:=.builtin .append,args:=#[(.tmp 129),(.tmp 130)],argTypes:=#[E.tB,E.tB] }) E.tB),
   (oQ 8 (.assign (.tmp 131)) E.tB)]),
  .ret]) Q A W0:=by
 have hUW0:U<=W0.heap.size:=Nat.le_trans hU hw.size
 refine vS (vX (rM ?_))
 refine zq (b:=fx) zA ?_
 refine dn ?_
 cases fx with
 | false =>
  simp only[Bool.false_eq_true,if_false] at hR
  subst hR
  refine vS (vC (t:=true) zM ?_ (fun h=>by cases h))
  intro _
  refine vX (rM (rA (dn (vS (vT ?_)))))
  exact hQ _ _ ⟨by simp only[dF];exact hd,v9,rO zA,hown,hw⟩
 | true =>
  simp only[if_true] at hR
  have hkn:known fs.tags<=65536:=known_lt (B:=65536) _ htg
  have hrl:(fs.recs ver true 0 t).length=fs.len:=SFs.recs_len ver true fs 0 t
  have hrg:∀ i f,fs.get i=some f->(fs.recs ver true 0 t)[i]? = some (f.tag,f.has ver,f.usual (t.at i),f.wr ver true (t.at i)):=by
   intro i f hf
   have:=SFs.recs_get ver true fs 0 i t f hf
   rwa [Nat.zero_add] at this
  generalize hrs:fs.recs ver true 0 t=rs at *
  generalize hknn:known fs.tags=kn at *
  have hTle:xs.length+(tgB (zU rs kn)).length<=big:=by
   rw[hR] at hbig
   simp only[List.length_append] at hbig
   omega
  refine vS (vC (t:=false) zM (fun h=>by cases h) ?_)
  intro _
  refine vK (vN (vS (vX (rM ?_))))
  refine q8 (args:=#[sv]) ?_ (s_known (U:=W0.heap.size) H HL HT ((hsf.below hw).mono hUW0) (Nat.le_refl _) htg hfl) ?_
  ·simp only[lM]
   simp (disch:=(try simp only[sP]);omega) only[eV,f0]
  rintro v W1 ⟨rfl,hb1⟩
  rw[hknn]
  refine qL (k:=.u32) (k':=.i64) (m:=((kn:Nat):Int)) H.u32 H.int zE ?_
  have hw0:IntKind.i64.wrap ((kn:Nat):Int)=(kn:Int):=by rw[wrap_i64 zH zH]
  rw[hw0]
  refine rM (dn ?_)
  have hC9:∀ g,v9.ownBlock=some g->g<W0.heap.size:=fun g hg=>xA hown hg
  obtain ⟨ad,cap,hsv⟩:∃ ad cap,sv=.slice ad fs.len cap:=by
   rcases hsf with ⟨rfl,h0⟩ | ⟨q,o,cap,rfl,_⟩
   ·exact ⟨none,0,by rw[h0]⟩
   ·exact ⟨_,cap,rfl⟩
  have hget:∀ V,Below U w V->∀ i f,fs.get i=some f->i<fs.len->∃ q o c,sv=.slice (some ⟨q,o,none⟩) fs.len cap/\q<U/\qb V q (o+i*8) c/\f.Rep V U c:=by
   intro V hV i f hf hi
   rcases hsf with ⟨rfl,h0⟩ | ⟨q,o,cap',h1,_,hq,hrep⟩
   ·omega
   ·obtain ⟨c,h2,h3⟩:=hrep.get hf
    rw[h1] at hsv
    simp only[Value.slice.injEq] at hsv
    obtain ⟨_,_,rfl⟩:=hsv
    exact ⟨q,o,c,h1,hq,h2.below hV hq,h3.below hV⟩
  refine vS (qh (xG (fun m B V=>m<=kn/\B.tmps.size=132/\B.defers=[]/\B.eval (.tmp 0)=sv/\B.eval (.tmp 1)=.int .i64 ver/\B.eval (.tmp 2)=.bool true/\B.eval (.tmp 7)=.pointer (some ⟨b,0,none⟩)/\B.eval (.tmp 9)=v9/\B.eval (.tmp 51)=.int .i64 (kn:Int)/\B.eval (.tmp 52)=.int .i64 ((kn-m:Nat):Int) ∧
   B.eval (.tmp 11)=.int .i64 (((zU rs (kn-m)).length:Nat):Int)/\W0.heap.size<=V.heap.size/\Below W0.heap.size W0 V/\V.ownsRow W0.heap.size E.tU8 1 (B.eval (.tmp 10)) (tgB (zU rs (kn-m))).length ((tgB (zU rs (kn-m))).map bv)) kn ?_ ?_ ?_))
  ·refine ⟨Nat.le_refl _,by simp only[zP];exact hs,by simp only[dF];exact hd,zA,zA,zA,zA,zA,zE,?_,?_,hb1.size,hb1,?_⟩
   ·simp (disch:=(try simp only[sP]);omega) only[eV]
    simp
   ·simp (disch:=(try simp only[sP]);omega) only[eV,f11]
    simp[zU]
   ·rw[show Act.eval _ (.tmp 10)=Value.slice none 0 0 by exact zA]
    simp only[Nat.sub_self]
    exact World.ownsRow_nil _ _ _ _
  ·rintro m B V ⟨hm,hsB,hdB,g0,g1,g2,g7,g9,g51,g52,g11,hWV,hbV,hownT⟩
   have hk:kn-(m+1)<kn:=by omega
   have hkm:kn-m=(kn-(m+1))+1:=by omega
   rw[hkm]
   generalize hkk:kn-(m+1)=k at *
   refine vX ?_
   refine qV (k:=.i64) (m:=(k:Int)) (n:=(kn:Int)) g52 g51 ?_
   refine dn ?_
   refine vS (vC (t:=true) ?_ ?_ (fun h=>by cases h))
   ·simp (disch:=(try simp only[sP]);omega) only[eV]
    simp only[Value.bool.injEq,decide_eq_true_eq]
    omega
   intro _
   refine vK ?_
   refine vS (qh (vX ?_))
   refine rM (rA (dn (vX (rM ?_))))
   refine x7 (ad:=ad) (n:=fs.len) (c:=cap) H.sFlds (by simp (disch:=(try simp only[sP]);omega) only[eV,g0,hsv]) ?_
   refine rM (dn ?_)
   refine vS (qh (xG (fun m2 B2 V2=>m2<=fs.len/\B2.tmps.size=132/\B2.defers=[]/\B2.eval (.tmp 0)=sv/\B2.eval (.tmp 1)=.int .i64 ver/\B2.eval (.tmp 2)=.bool true/\B2.eval (.tmp 7)=.pointer (some ⟨b,0,none⟩)/\B2.eval (.tmp 9)=v9/\B2.eval (.tmp 51)=.int .i64 (kn:Int)/\B2.eval (.tmp 52)=.int .i64 (k:Int)/\B2.eval (.tmp 14)=.int .i64 (k:Int) ∧
    B2.eval (.tmp 55)=sv/\B2.eval (.tmp 56)=.int .i64 (fs.len:Int)/\B2.eval (.tmp 57)=.int .i64 ((fs.len-m2:Nat):Int) ∧
    B2.eval (.tmp 11)=.int .i64 (((zU rs k).length+((rs.take (fs.len-m2)).filterMap (zT k)).length:Nat):Int)/\W0.heap.size<=V2.heap.size/\Below W0.heap.size W0 V2/\V2.ownsRow W0.heap.size E.tU8 1 (B2.eval (.tmp 10)) (tgB (zU rs k)++tgB ((rs.take (fs.len-m2)).filterMap (zT k))).length ((tgB (zU rs k)++tgB ((rs.take (fs.len-m2)).filterMap (zT k))).map bv)) fs.len ?_ ?_ ?_))
   ·refine ⟨Nat.le_refl _,by simp only[zP];exact hsB,by simp only[dF];exact hdB,zA,zA,zA,zA,zA,zA,zA,zA,zA,zE,?_,?_,hWV,hbV,?_⟩
    ·simp (disch:=(try simp only[sP]);omega) only[eV]
     simp
    ·simp (disch:=(try simp only[sP]);omega) only[eV,g11]
     simp
    ·rw[show Act.eval _ (.tmp 10)=B.eval (.tmp 10) by exact zE]
     simp only[Nat.sub_self,List.take_zero,List.filterMap_nil]
     rw[show tgB []=[] from rfl,List.append_nil]
     exact hownT
   ·rintro m2 B2 V2 ⟨hm2,hs2,hd2,q0,q1,q2,q7,q9,q51,q52,q14,q55,q56,q57,q11,hWV2,hbV2,hown2⟩
    have hi:fs.len-(m2+1)<fs.len:=by omega
    have him:fs.len-m2=(fs.len-(m2+1))+1:=by omega
    rw[him]
    generalize hii:fs.len-(m2+1)=i at *
    obtain ⟨f,hf⟩:=SFs.get_lt fs i hi
    have hbU:Below U w V2:=hw.trans (hbV2.mono hUW0)
    obtain ⟨q,o,c,hsv',hq,hcq,hrc⟩:=hget V2 hbU i f hf hi
    have hir:i<rs.length:=by omega
    have hri:rs[i]=(f.tag,f.has ver,f.usual (t.at i),f.wr ver true (t.at i)):=by
     have:=hrg i f hf
     rw[List.getElem?_eq_getElem hir] at this
     exact Option.some.inj this
    obtain ⟨htk,htl⟩:=tgTake rs k i hir
    have hle1:=tgTake_le rs k (i+1)
    have hle2:=tgAll_le rs (show k+1<=kn by omega)
    rw[y9,vi,List.length_append] at hle2
    rw[htk] at hle1
    rw[htk,htl,← List.append_assoc]
    rw[hri] at hle1 ⊢
    have hcnt:=tgB_len (zU rs k++(rs.take i).filterMap (zT k))
    rw[vi,List.length_append,List.length_append] at hcnt
    rw[List.length_append] at hle1
    refine vX ?_
    refine qV (k:=.i64) (m:=(i:Int)) (n:=(fs.len:Int)) q57 q56 ?_
    refine dn ?_
    refine vS (vC (t:=true) ?_ ?_ (fun h=>by cases h))
    ·simp (disch:=(try simp only[sP]);omega) only[eV]
     simp only[Value.bool.injEq,decide_eq_true_eq]
     omega
    intro _
    refine vK ?_
    refine vS (qh ?_)
    refine s_tagOne (ts:=ts) (t:=t) (f:=f) (cs:=c) (b:=b) (C:=W0.heap.size) (k:=k) (i:=i) (q:=q) (o:=o) (len:=fs.len) (cap:=cap) (U:=U) (ver:=ver) (fx:=true) (zs:=tgB (zU rs k)++tgB ((rs.take i).filterMap (zT k))) (c0:=(zU rs k).length+((rs.take i).filterMap (zT k)).length) H HL HT (by simp only[zP];exact hs2) (by simp only[dF];exact hd2) zA zA zA zA (by simp (disch:=(try simp only[sP]);omega) only[eV,q55,hsv']) zA zA hi hcq hrc (hts.below hbV2 hbW) (hrt.below hbU) hUW0 hWV2 hbW zH zH ?_ (fun h=>hnum i f hf zH) (hfc i f hf) ?_ ?_
    ·rw[show Act.eval _ (.tmp 10)=B2.eval (.tmp 10) by exact zE]
     exact hown2
    ·rw[List.length_append,List.length_append]
     omega
    ·intro A' V' b1' b2' b3 b4 b5 b6
     have hsz':=b5.size
     show vc P (sq [rg _]) _ A' V'
     refine vX ?_
     have h57:A'.eval (.tmp 57)=.int .i64 (i:Int):=by rw[b3 57 zS];exact zA
     refine xN (k:=.i64) (m:=(i:Int)) (n:=1) zA rfl ?_
     refine rM (dn (vN ?_))
     have hwi:IntKind.i64.wrap ((i:Int)+1)=((i+1:Nat):Int):=by unfold big at hfl;rw[wrap_i64 zH zH];rfl
     have keep:∀ j:Nat,j≠53->j≠58->(j=0\/j=1\/j=2\/j=7\/j=9\/j=14\/j=51\/j=52\/j=55\/j=56\/j=57)->A'.eval (.tmp j)=B2.eval (.tmp j):=fun j h1 h2 hj=>by
      rw[b3 j hj]
      rw[qi _ _ _ _ zH]
     refine ⟨by omega,by simp only[zP];exact b1',by simp only[dF];exact b2',(by simp (disch:=(try simp only[sP]);omega) only[eV,keep 0 (by decide) (by decide) zS,q0]),(by simp (disch:=(try simp only[sP]);omega) only[eV,keep 1 (by decide) (by decide) zS,q1]),(by simp (disch:=(try simp only[sP]);omega) only[eV,keep 2 (by decide) (by decide) zS,q2]),(by simp (disch:=(try simp only[sP]);omega) only[eV,keep 7 (by decide) (by decide) zS,q7]),(by simp (disch:=(try simp only[sP]);omega) only[eV,keep 9 (by decide) (by decide) zS,q9]),(by simp (disch:=(try simp only[sP]);omega) only[eV,keep 51 (by decide) (by decide) zS,q51]),(by simp (disch:=(try simp only[sP]);omega) only[eV,keep 52 (by decide) (by decide) zS,q52]),(by simp (disch:=(try simp only[sP]);omega) only[eV,keep 14 (by decide) (by decide) zS,q14]),(by simp (disch:=(try simp only[sP]);omega) only[eV,keep 55 (by decide) (by decide) zS,q55]),(by simp (disch:=(try simp only[sP]);omega) only[eV,keep 56 (by decide) (by decide) zS,q56]),?_,?_,Nat.le_trans hWV2 hsz',hbV2.trans b5,?_⟩
     ·simp (disch:=(try simp only[sP]);omega) only[eV]
      rw[hwi]
     ·simp (disch:=(try simp only[sP]);omega) only[eV,b4]
      rw[Nat.add_assoc]
     ·rw[show Act.eval _ (.tmp 10)=A'.eval (.tmp 10) by exact zE]
      exact b6
   ·rintro B2 V2 ⟨hm2,hs2,hd2,q0,q1,q2,q7,q9,q51,q52,q14,q55,q56,q57,q11,hWV2,hbV2,hown2⟩
    rw[Nat.sub_zero] at q57 q11 hown2
    rw[← hrl,List.take_length] at q11 hown2
    refine vX ?_
    refine qV (k:=.i64) (m:=(fs.len:Int)) (n:=(fs.len:Int)) q57 q56 ?_
    refine dn ?_
    refine vS (vC (t:=false) ?_ (fun h=>by cases h) ?_)
    ·simp (disch:=(try simp only[sP]);omega) only[eV]
     simp only[Value.bool.injEq,decide_eq_false_iff_not]
     omega
    intro _
    refine xb ?_
    simp only[Exit.then,Exit.inBlock,if_true]
    repeat (refine vN ?_)
    refine vX ?_
    refine xN (k:=.i64) (m:=(k:Int)) (n:=1) zA rfl ?_
    refine rM (dn (vN ?_))
    have hwi:IntKind.i64.wrap ((k:Int)+1)=((k+1:Nat):Int):=by rw[wrap_i64 zH zH];rfl
    refine ⟨by omega,by simp only[zP];exact hs2,by simp only[dF];exact hd2,zA,zA,zA,zA,zA,zA,?_,?_,hWV2,hbV2,?_⟩
    ·simp (disch:=(try simp only[sP]);omega) only[eV]
     rw[hwi]
    ·simp (disch:=(try simp only[sP]);omega) only[eV,q11]
     rw[y9,List.length_append]
    ·rw[show Act.eval _ (.tmp 10)=B2.eval (.tmp 10) by exact zE]
     rw[y9,vi]
     exact hown2
  ·rintro B V ⟨hm,hsB,hdB,g0,g1,g2,g7,g9,g51,g52,g11,hWV,hbV,hownT⟩
   rw[Nat.sub_zero] at g52 g11 hownT
   refine vX ?_
   refine qV (k:=.i64) (m:=(kn:Int)) (n:=(kn:Int)) g52 g51 ?_
   refine dn ?_
   refine vS (vC (t:=false) ?_ (fun h=>by cases h) ?_)
   ·simp (disch:=(try simp only[sP]);omega) only[eV]
    simp only[Value.bool.injEq,decide_eq_false_iff_not]
    omega
   intro _
   refine xb ?_
   simp only[Exit.then,Exit.inBlock,if_true]
   refine vN ?_
   have hcnt:=tgB_len (zU rs kn)
   have hcV:V.cell? ⟨b,4,none⟩=some uv:=by rw[hbV.cell (p:=⟨b,4,none⟩) hbW];exact hc
   refine s_partU2 (fs:=fs) (sv:=sv) (uv:=uv) (v9:=v9) (u:=t.tags) (b:=b) (C:=W0.heap.size) (c0:=(zU rs kn).length) (xs:=xs) (ys0:=tgB (zU rs kn)) (U:=U) (w:=w) H HL HT (by simp only[zP];exact hsB) (by simp only[dF];exact hdB) zA zA zA rfl zA zH hUW0 hWV hC9 hsf htg hfl hcV hu hU (hw.trans (hbV.mono hUW0)) (qE hown hbV) ?_ rfl ?_ ?_
   ·rw[show Act.eval _ (.tmp 10)=B.eval (.tmp 10) by exact zE]
    exact hownT
   ·rw[hknn,← hR];exact hbig
   ·rw[hknn,← hR];exact hQ
end
end Go.Km
namespace Go.Km
open Go Go.RowKit
attribute [local irreducible] vc rO_ qz qJ qF
theorem SFs.part_eq2 {v:Int} {fx:Bool} {fs:SFs} {t:Tr} :
  fs.part v fx t=if fx then ((fs.recs v fx 0 t).map Rec.out).flatten++Go.Km.uvar ((zU (fs.recs v fx 0 t) (known fs.tags)).length+(unk (known fs.tags) t.tags).length)++(tgB (zU (fs.recs v fx 0 t) (known fs.tags))++((unk (known fs.tags) t.tags).map fun x=>j8 x.1 (x.2.take 32767)).flatten) else ((fs.recs v fx 0 t).map Rec.out).flatten:=by
 cases t with
 | mk n s nl l u =>
 unfold SFs.part kC
 simp only[SFs.recs_tags,List.length_map,List.map_append,List.flatten_append,List.map_map,Tr.tags]
 rfl
section
variable {P : Program} {E : Env} {w : World} {U : Nat}
set_option maxHeartbeats 1000000 in
theorem s_part2 (H:SEnv P E) (HL:SLay P E) (HT:STexts P E) {ver:Int} {fx:Bool} {fs:SFs} (htg:∀ t ∈ fs.tags,t<65536) (hnum:∀ i f,fs.get i=some f->0<=f.tag->f.num=true) (hfl:fs.len<=big) (hfc:∀ i f,fs.get i=some f->ws P E ver fx f):vI P E ver fx fs:=by
 intro U w sv t ts hU hsf hrt hbig
 have hfl':fs.len<=big:=hfl
 unfold big at hfl
 refine qa.enter HT.part zS ?_
 intro a hsz hdf harg
 have e0:=harg 0 sv zS
 have e1:=harg 1 (.int .i64 ver) zS
 have e2:=harg 2 (.bool fx) zS
 have e3:=harg 3 (.agg ts.toArray) zS
 obtain ⟨z,hz,hzc⟩:=xD HL.fld
 unfold c_sPart
 refine vX ?_
 refine xI (v:=.agg ts.toArray) zA ?_
 refine rA (dn ?_)
 generalize hw1:w.alloc (.cells (Value.agg ts.toArray).cells E.tT)=W1
 have hb1:Below U w W1:=by rw[← hw1];exact (Below.refl U w).alloc (o:=.cells _ _) hU
 have hz1:W1.heap.size=w.heap.size+1:=by rw[← hw1];simp
 have c1:qb W1 w.heap.size 0 ts:=by
  intro i v hv
  rw[← hw1,Nat.zero_add]
  exact qs w _ E.tT (by simpa [Value.cells] using hv)
 clear hw1
 generalize hbb:w.heap.size=b at *
 have hUW1:U<=W1.heap.size:=by omega
 refine vX (rA (rA (dn (vX (rA (dn ?_))))))
 have hpe:=SFs.part_eq2 (v:=ver) (fx:=fx) (fs:=fs) (t:=t)
 have hrs0:fs.recs ver fx 0 t=fs.recs ver fx 0 t:=rfl
 generalize hrs:fs.recs ver fx 0 t=rs at hpe
 have hrl:rs.length=fs.len:=by rw[← hrs];exact SFs.recs_len ver fx fs 0 t
 have hrg:∀ i f,fs.get i=some f->rs[i]? = some (f.tag,f.has ver,f.usual (t.at i),f.wr ver fx (t.at i)):=by
  intro i f hf
  have:=SFs.recs_get ver fx fs 0 i t f hf
  rw[hrs,Nat.zero_add] at this
  exact this
 have hob:((rs.map Rec.out).flatten).length<=big:=by
  rw[hpe] at hbig
  split at hbig
  ·simp only[List.length_append] at hbig;omega
  ·exact hbig
 obtain ⟨ad,cap,hsv⟩:∃ ad cap,sv=.slice ad fs.len cap:=by
  rcases hsf with ⟨rfl,h0⟩ | ⟨q,o,cap,rfl,_⟩
  ·exact ⟨none,0,by rw[h0]⟩
  ·exact ⟨_,cap,rfl⟩
 have hget:∀ V,Below U w V->∀ i f,fs.get i=some f->i<fs.len->∃ q o c,sv=.slice (some ⟨q,o,none⟩) fs.len cap/\q<U/\qb V q (o+i*8) c/\f.Rep V U c:=by
  intro V hV i f hf hi
  rcases hsf with ⟨rfl,h0⟩ | ⟨q,o,cap',h1,_,hq,hrep⟩
  ·omega
  ·obtain ⟨c,h2,h3⟩:=hrep.get hf
   rw[h1] at hsv
   simp only[Value.slice.injEq] at hsv
   obtain ⟨_,_,rfl⟩:=hsv
   exact ⟨q,o,c,h1,hq,h2.below hV hq,h3.below hV⟩
 refine vS (vX (rM ?_))
 refine x7 (ad:=ad) (n:=fs.len) (c:=cap) H.sFlds (by simp (disch:=(try simp only[sP]);omega) only[eV,e0,hsv]) ?_
 refine rM (dn ?_)
 refine vS (qh (xG (fun m B V=>m<=fs.len/\B.tmps.size=132/\B.defers=[]/\B.eval (.tmp 0)=sv/\B.eval (.tmp 1)=.int .i64 ver/\B.eval (.tmp 2)=.bool fx/\B.eval (.tmp 7)=.pointer (some ⟨b,0,none⟩)/\B.eval (.tmp 10)=.slice none 0 0/\B.eval (.tmp 11)=.int .i64 0 ∧
  B.eval (.tmp 21)=sv/\B.eval (.tmp 22)=.int .i64 (fs.len:Int)/\B.eval (.tmp 23)=.int .i64 ((fs.len-m:Nat):Int)/\W1.heap.size<=V.heap.size/\Below W1.heap.size W1 V ∧
  ∃ xs:List UInt8,V.ownsRow W1.heap.size E.tU8 1 (B.eval (.tmp 9)) xs.length (xs.map bv)/\xs=((rs.take (fs.len-m)).map Rec.out).flatten) fs.len ?_ ?_ ?_))
 ·refine ⟨Nat.le_refl _,by simp only[zP];exact hsz,by simp only[dF];exact hdf,zA,zA,zA,zE,zE,zE,zA,zE,?_,Nat.le_refl _,Below.refl _ _,[],?_,by simp⟩
  ·simp (disch:=(try simp only[sP]);omega) only[eV]
   simp
  ·rw[show Act.eval _ (.tmp 9)=Value.slice none 0 0 by exact zE]
   exact World.ownsRow_nil _ _ _ _
 ·rintro m B V ⟨hm,hsB,hdB,g0,g1,g2,g7,g10,g11,g21,g22,g23,hWV,hbV,xs,hown,hxs⟩
  have hi:fs.len-(m+1)<fs.len:=by omega
  have him:fs.len-m=(fs.len-(m+1))+1:=by omega
  rw[him]
  generalize hii:fs.len-(m+1)=i at *
  obtain ⟨f,hf⟩:=SFs.get_lt fs i hi
  have hbVU:Below U w V:=hb1.trans (hbV.mono hUW1)
  obtain ⟨q,o,c,hsv',hq,hc,hrc⟩:=hget V hbVU i f hf hi
  have hir:i<rs.length:=by omega
  have hri:rs[i]=(f.tag,f.has ver,f.usual (t.at i),f.wr ver fx (t.at i)):=by
   have:=hrg i f hf
   rw[List.getElem?_eq_getElem hir] at this
   exact Option.some.inj this
  have hsucc:=y2 rs Rec.out i hir
  have hle:=gc rs Rec.out (i+1)
  rw[hsucc,← hxs,hri] at hle
  rw[hsucc,← hxs,hri]
  generalize hadd:Rec.out (f.tag,f.has ver,f.usual (t.at i),f.wr ver fx (t.at i))=add at *
  have ht5:qb V b 0 ts:=c1.below hbV zH
  have hUV:U<=V.heap.size:=Nat.le_trans hUW1 hWV
  refine vX ?_
  refine qV (k:=.i64) (m:=(i:Int)) (n:=(fs.len:Int)) g23 g22 ?_
  refine dn ?_
  refine vS (vC (t:=true) ?_ ?_ (fun h=>by cases h))
  ·simp (disch:=(try simp only[sP]);omega) only[eV]
   simp only[Value.bool.injEq,decide_eq_true_eq]
   omega
  intro _
  refine vK ?_
  refine vS (qh (vX ?_))
  refine rM ?_
  refine qA (k:=.i64) (j:=i) (b:=q) (o:=o) (len:=fs.len) (cap:=cap) H.sFlds (by simp (disch:=(try simp only[sP]);omega) only[eV,g21,hsv']) zA hi ?_
  refine qf (b:=q) (o:=o+i*8) (cs:=c) zE (by rw[hrc.len];exact H.aFld) hc ?_
  refine qI hz ?_
  refine rA ?_
  refine qu (b:=V.heap.size) (o:=0) (cs:=c) zE zE hrc.one (by rw[hrc.len];exact H.aFld) ?_ ?_
  ·intro j hj
   rw[Nat.zero_add]
   exact qm V _ _ (by rw[hzc];rw[hrc.len] at hj;simpa using hj)
  refine dn ?_
  have hcell:qb (setCells (V.alloc (.cells z.cells E.tFld)) V.heap.size 0 c) V.heap.size 0 c:=by
   intro j v hv
   refine qg V.heap.size c _ 0 (fun j hj=>?_) j _ hv
   rw[Nat.zero_add]
   exact (qm V z.cells E.tFld (by rw[hzc];rw[hrc.len] at hj;simpa using hj)).1
  have hb2:Below V.heap.size V (setCells (V.alloc (.cells z.cells E.tFld)) V.heap.size 0 c):=by
   refine ((Below.refl V.heap.size V).alloc (o:=.cells _ _) (Nat.le_refl _)).trans ((qe V.heap.size c _ 0).below zS (by rintro k i hk ⟨rfl,_,_⟩;omega))
  have hz2:V.heap.size<(setCells (V.alloc (.cells z.cells E.tFld)) V.heap.size 0 c).heap.size:=by
   have:=(qe V.heap.size c (V.alloc (.cells z.cells E.tFld)) 0).size
   simp at this
   omega
  have hc4:(setCells (V.alloc (.cells z.cells E.tFld)) V.heap.size 0 c).cell? ⟨V.heap.size,0+4,none⟩=some (.int .i64 f.tag):=by
   refine hcell 4 _ ?_
   cases f with
   | mk=>obtain ⟨sv2,rfl,_⟩:=hrc;rfl
  generalize setCells (V.alloc (.cells z.cells E.tFld)) V.heap.size 0 c=V1 at hcell hb2 hz2 hc4 ⊢
  have hrc1:=(hrc.below (hb2.mono hUV)).mono (U':=V1.heap.size) zH
  generalize hG:(((((B.put (some 24) _).put (some 25) _).put (some 26) _).put (some 27) _).put (some 13) _).put (some 12) _=G
  have hsG:G.tmps.size=132:=by rw[← hG];simp only[zP];exact hsB
  have hdG:G.defers=[]:=by rw[← hG];simp only[dF];exact hdB
  have k0:G.eval (.tmp 0)=sv:=by rw[← hG];exact zA
  have k1:G.eval (.tmp 1)=.int .i64 ver:=by rw[← hG];exact zA
  have k2:G.eval (.tmp 2)=.bool fx:=by rw[← hG];exact zA
  have k7:G.eval (.tmp 7)=.pointer (some ⟨b,0,none⟩):=by rw[← hG];exact zA
  have k9:G.eval (.tmp 9)=B.eval (.tmp 9):=by rw[← hG];exact zE
  have k10:G.eval (.tmp 10)=.slice none 0 0:=by rw[← hG];exact zA
  have k11:G.eval (.tmp 11)=.int .i64 0:=by rw[← hG];exact zA
  have k12:G.eval (.tmp 12)=.int .i64 (i:Int):=by rw[← hG];exact zA
  have k13:G.eval (.tmp 13)=.pointer (some ⟨V.heap.size,0,none⟩):=by rw[← hG];exact zE
  have k21:G.eval (.tmp 21)=sv:=by rw[← hG];exact zA
  have k22:G.eval (.tmp 22)=.int .i64 (fs.len:Int):=by rw[← hG];exact zA
  have k23:G.eval (.tmp 23)=.int .i64 (i:Int):=by rw[← hG];exact zA
  rw[← k9] at hown
  clear hG
  generalize hv9:G.eval (.tmp 9)=v9 at *
  have hwi:IntKind.i64.wrap ((i:Int)+1)=((i+1:Nat):Int):=by rw[wrap_i64 zH zH];rfl
  have fin:∀ (B':Act) (V':World) (ys:List UInt8) (x9:Value),B'.tmps.size=132->B'.defers=[]->B'.eval (.tmp 0)=sv->B'.eval (.tmp 1)=.int .i64 ver->B'.eval (.tmp 2)=.bool fx->B'.eval (.tmp 7)=.pointer (some ⟨b,0,none⟩)->B'.eval (.tmp 10)=.slice none 0 0->B'.eval (.tmp 11)=.int .i64 0 →
    B'.eval (.tmp 21)=sv->B'.eval (.tmp 22)=.int .i64 (fs.len:Int)->B'.eval (.tmp 23)=.int .i64 (i:Int)->B'.eval (.tmp 9)=x9->W1.heap.size<=V'.heap.size->Below W1.heap.size W1 V'->V'.ownsRow W1.heap.size E.tU8 1 x9 ys.length (ys.map bv)->ys=xs++add->∀ Q:Exit->Act->World->Prop,
    (∀ A',(m<=fs.len/\A'.tmps.size=132/\A'.defers=[]/\A'.eval (.tmp 0)=sv/\A'.eval (.tmp 1)=.int .i64 ver/\A'.eval (.tmp 2)=.bool fx/\A'.eval (.tmp 7)=.pointer (some ⟨b,0,none⟩)/\A'.eval (.tmp 10)=.slice none 0 0/\A'.eval (.tmp 11)=.int .i64 0 ∧
  A'.eval (.tmp 21)=sv/\A'.eval (.tmp 22)=.int .i64 (fs.len:Int)/\A'.eval (.tmp 23)=.int .i64 ((i+1:Nat):Int)/\W1.heap.size<=V'.heap.size/\Below W1.heap.size W1 V' ∧
  ∃ zs:List UInt8,V'.ownsRow W1.heap.size E.tU8 1 (A'.eval (.tmp 9)) zs.length (zs.map bv)/\zs=xs++add)->Q .normal A' V') →
    vc P (sq [(rg [(oQ 45 (.binOp .add E.tI (.tmp 23) (.const (.int .i64 1)) E.tI) E.tI),(oQ 23 (.move (.tmp 45)) E.tI)])]) Q B' V':=by
   intro B' V' ys x9 b0 b1 b2 b3 b4 b5 b6 b7 b8 b9 b10 b11 b12 b13 b14 b15 Q hQ
   refine vX ?_
   refine xN (k:=.i64) (m:=(i:Int)) (n:=1) zA rfl ?_
   refine rM (dn (vN ?_))
   refine hQ _ ⟨by omega,by simp only[zP];exact b0,by simp only[dF];exact b1,zA,zA,zA,zA,zA,zA,zA,zA,?_,b12,b13,ys,?_,b15⟩
   ·simp (disch:=(try simp only[sP]);omega) only[eV]
    rw[hwi]
   ·rw[show Act.eval _ (.tmp 9)=x9 by exact zA]
    exact b14
  refine vS (yE [0,1,2,3,4,5,6,7] rfl ?_)
  refine rD rfl (wN rfl) (rF (b:=V.heap.size) (o:=0) zA (ql H.fFld (by decide)) (dn (rT ?_)))
  refine rD rfl (wN rfl) (rL (b:=V.heap.size) (o:=0+4) zE H.oInt hc4 (dn (rT ?_)))
  refine rD rfl (wN rfl) (qV (k:=.i64) (m:=f.tag) (n:=0) zE rfl (dn (rT ?_)))
  by_cases hneg:f.tag<0
  rotate_left
  ·have hadd0:add=[]:=by rw[← hadd];simp[Rec.out,hneg]
   rw[show decide (f.tag<0)=false by simpa using hneg]
   (refine rD rfl (wN rfl) ?_;refine rM ?_;refine dn (rT ?_))
   (refine qX rfl (by rw[wS (b:=false) rfl rfl zM];rfl) ?_)
   (refine qX rfl (by rw[wS (b:=false) rfl rfl zM];rfl) ?_)
   (refine qX rfl (by rw[wS (b:=false) rfl rfl zM];rfl) ?_)
   refine rD rfl (wN rfl) (xx zE (dn (rT ?_)))
   refine qy ?_
   refine vS (vC (t:=false) zM (fun h=>by cases h) (fun _=>?_))
   refine vK (vN ?_)
   have hown1:=qE hown hb2
   exact fin _ V1 xs v9 (by simp only[zP];exact hsG) (by simp only[dF];exact hdG) zA zA zA zA zA zA zA zA zA zA (Nat.le_trans hWV hb2.size) (hbV.trans (hb2.mono hWV)) hown1 (by rw[hadd0,List.append_nil]) _ (fun A' h=>h)
  rw[show decide (f.tag<0)=true by simpa using hneg]
  (refine rD rfl (wN rfl) ?_;refine rM ?_;refine dn (rT ?_))
  refine rD rfl (by rw[wS (b:=true) rfl rfl zM];rfl) (qf (b:=V.heap.size) (o:=0) (cs:=c) zA (by rw[hrc.len];exact H.aFld) hcell (dn (rT ?_)))
  (refine rD rfl (by rw[wS (b:=true) rfl rfl zM];rfl) ?_;refine rM ?_;refine dn (rT ?_))
  refine rD rfl (by rw[wS (b:=true) rfl rfl zM];rfl) ?_
  refine q8 (args:=#[.agg c.toArray,.int .i64 ver]) ?_ (s_has (U:=V1.heap.size) (v:=ver) H HT.has hrc1 (Nat.le_refl _)) ?_
  ·simp only[lM]
   simp (disch:=(try simp only[sP]);omega) only[eV,k1]
  rintro v V2 ⟨rfl,hb3⟩
  refine dn (rT ?_)
  refine rD rfl (wN rfl) (qZ zE (dn (rT ?_)))
  refine qy ?_
  have hV2:Below V.heap.size V V2:=hb2.trans (hb3.mono zH)
  have hown2:=qE hown hV2
  have hcell2:qb V2 V.heap.size 0 c:=hcell.below hb3 zH
  have ht52:qb V2 b 0 ts:=ht5.below hV2 zH
  have hadd1:add=if f.has ver then f.wr ver fx (t.at i) else []:=by rw[← hadd];simp[Rec.out,hneg]
  clear hadd
  subst hadd1
  generalize hh:f.has ver=hb at *
  refine vS (vC (t:=hb) zM ?_ ?_)
  ·intro hb'
   subst hb'
   simp only[if_true] at hle fin ⊢
   rw[List.length_append] at hle
   have hbd:Below V2.heap.size V2 { V2 with drawn:=V2.drawn+1 }:=⟨rfl,rfl,rfl,Nat.le_refl _,fun _ _=>rfl⟩
   have hVV2:V.heap.size<V2.heap.size:=Nat.lt_of_lt_of_le hz2 hb3.size
   have mkS:∀ w2,Below V2.heap.size V2 w2->qb w2 V.heap.size 0 c/\qb w2 b 0 ts:=fun w2 h2=>⟨hcell2.below h2 hVV2,ht52.below h2 zH⟩
   have hS:=mkS _ hbd
   have hUV2:U<=V2.heap.size:=by omega
   have hV2d:Below U w { V2 with drawn:=V2.drawn+1 }:=(hbVU.trans (hV2.mono hUV)).trans (hbd.mono hUV2)
   have hrc2:f.Rep { V2 with drawn:=V2.drawn+1 } V2.heap.size c:=(hrc.below ((hV2.mono hUV).trans (hbd.mono hUV2))).mono hUV2
   have hrt2:t.Rep { V2 with drawn:=V2.drawn+1 } V2.heap.size ts:=(hrt.below hV2d).mono hUV2
   refine xd [(0,true),(1,true),(2,true),(3,true),(4,true),(5,true),(6,false),(7,false),(8,false),(9,true)] (fun W'=>qb W' V.heap.size 0 c/\qb W' b 0 ts) HT.mixed (by kernel_rfl) rfl (by kernel_rfl) (fun _ _ _ _ h=>False.elim h) ?_
   refine dP rfl rfl rfl (wN rfl) (by simp only[zP,hsG];decide) hS (fun w' hS'=>rM (dn ⟨rfl,rfl,rfl⟩)) ?_
   refine dP rfl rfl rfl (wN rfl) (by simp only[zP,hsG];decide) hS (fun w' hS'=>qf (b:=V.heap.size) (o:=0) (cs:=c) zA (by rw[hrc.len];exact H.aFld) hS'.1 (dn ⟨rfl,rfl,rfl⟩)) ?_
   refine dP rfl rfl rfl (wN rfl) (by simp only[zP,hsG];decide) hS (fun w' hS'=>rM (dn ⟨rfl,rfl,rfl⟩)) ?_
   refine dP rfl rfl rfl (wN rfl) (by simp only[zP,hsG];decide) hS (fun w' hS'=>rM (dn ⟨rfl,rfl,rfl⟩)) ?_
   refine dP rfl rfl rfl (wN rfl) (by simp only[zP,hsG];decide) hS (fun w' hS'=>qf (b:=b) (o:=0) (cs:=ts) zA (by rw[hrt.len];exact H.aTree) hS'.2 (dn ⟨rfl,rfl,rfl⟩)) ?_
   refine dP rfl rfl rfl (wN rfl) (by simp only[zP,hsG];decide) hS (fun w' hS'=>rM (dn ⟨rfl,rfl,rfl⟩)) ?_
   refine qx rfl (wN rfl) ?_
   refine q8 (args:=#[.agg ts.toArray,.int .i64 (i:Int)]) ?_ (s_at (U:=V2.heap.size) (i:=i) H HL HT.at' hrt2 (Nat.le_refl _)) ?_
   ·simp only[lM]
    simp (disch:=(try simp only[sP]);omega) only[eV,k12]
   rintro v3 w3 ⟨c2,rfl,hr2,hb4⟩
   refine dn (qw (mkS _ (hbd.trans hb4)) ?_)
   refine qx rfl (wN rfl) ?_
   refine q8 (args:=#[.agg c.toArray,.int .i64 ver,.bool fx,.agg c2.toArray]) ?_ (hfc i f hf V2.heap.size w3 c (t.at i) c2 hb4.size (hrc2.below hb4) (hr2.below hb4) zH) ?_
   ·simp only[lM]
    simp (disch:=(try simp only[sP]);omega) only[eV,k1,k2]
   rintro v4 w4 ⟨h4,hb5⟩
   have hV4:Below V2.heap.size V2 w4:=(hbd.trans hb4).trans hb5
   refine dn (qw (mkS _ hV4) ?_)
   refine qx rfl (wN rfl) ?_
   have hown4:=qE hown2 hV4
   have hWV2:W1.heap.size<=V2.heap.size:=by omega
   refine zl (sz:=1) (U:=W1.heap.size) (v:=v9) (m:=(f.wr ver fx (t.at i)).length) (news:=(f.wr ver fx (t.at i)).map bv) H.row zA zE hown4 (Nat.le_trans hWV2 hV4.size) (xJ (rB H.row) h4 (xm _)) zH ?_
   intro v6 w6 h6 hb6 hg6 _
   rw[← List.length_append,← List.map_append] at h6
   have hS4:=mkS _ hV4
   have hVw4:V.heap.size<w4.heap.size:=Nat.lt_of_lt_of_le hVV2 hV4.size
   have hS6:qb w6 V.heap.size 0 c/\qb w6 b 0 ts:=⟨hS4.1.grown hg6 hVw4 (fun he=>by have:=xA hown he.symm;omega),hS4.2.below hb6 zH⟩
   refine dn (qw hS6 ?_)
   refine dP rfl rfl rfl (wN rfl) (by simp only[zP,hsG];decide) hS6 (fun w' hS'=>rA (dn ⟨rfl,rfl,rfl⟩)) ?_
   refine xC ?_
   refine vN ?_
   have hV6:Below W1.heap.size V w6:=((hV2.mono hWV).trans (hV4.mono hWV2)).trans hb6
   exact fin _ w6 (xs++f.wr ver fx (t.at i)) v6 (by simp only[zP];exact hsG) (by simp only[dF];exact hdG) zA zA zA zA zA zA zA zA zA zE (Nat.le_trans hWV hV6.size) (hbV.trans hV6) h6 rfl _ (fun A' h=>h)
  ·intro hb'
   subst hb'
   simp only[Bool.false_eq_true,if_false,List.append_nil] at fin ⊢
   refine vK (vN ?_)
   exact fin _ V2 xs v9 (by simp only[zP];exact hsG) (by simp only[dF];exact hdG) zA zA zA zA zA zA zA zA zA zA (Nat.le_trans hWV hV2.size) (hbV.trans (hV2.mono hWV)) hown2 rfl _ (fun A' h=>h)
 ·rintro B V ⟨hm,hsB,hdB,g0,g1,g2,g7,g10,g11,g21,g22,g23,hWV,hbV,xs,hown,hxs⟩
  rw[Nat.sub_zero,← hrl,List.take_length] at hxs
  rw[Nat.sub_zero] at g23
  refine vX ?_
  refine qV (k:=.i64) (m:=(fs.len:Int)) (n:=(fs.len:Int)) g23 g22 ?_
  refine dn ?_
  refine vS (vC (t:=false) ?_ (fun h=>by cases h) ?_)
  ·simp (disch:=(try simp only[sP]);omega) only[eV]
   simp only[Value.bool.injEq,decide_eq_false_iff_not]
   omega
  intro _
  refine xb ?_
  simp only[Exit.then,Exit.inBlock,if_true]
  refine vN ?_
  cases t with
  | mk n s nl l u =>
  obtain ⟨s1,lv,uv,hts,_,hub,_⟩:=id hrt
  have d4:V.cell? ⟨b,4,none⟩=some uv:=by
   have:=c1.below hbV zH 4 uv (by rw[hts];rfl)
   simpa using this
  refine s_partM2 (w:=w) (U:=U) (fs:=fs) (sv:=sv) (uv:=uv) (t:=.mk n s nl l u) (ts:=ts) (ver:=ver) (b:=b) (fx:=fx) H HL HT (by simp only[zP];exact hsB) (by simp only[dF];exact hdB) zA zA zA zA rfl zA zA hsf htg hfl' zH d4 (c1.below hbV zH) hrt hub (by rw[hbb];exact hU) (hb1.trans (hbV.mono hUW1)) (xs:=xs) ?_ hnum hfc (R:=fs.part ver fx (.mk n s nl l u)) ?_ hbig (fun a' w' h=>h)
  ·rw[show Act.eval _ (.tmp 9)=B.eval (.tmp 9) by exact zE]
   exact jM hown hUW1
  ·rw[hpe,← hxs,hrs]
end
end Go.Km
namespace Go.Km
open Go Go.RowKit
mutual
def SF.good:SF->Bool
 | .mk kind fr to nul tag df el sub=>(SF.mk kind fr to nul tag df el sub).kindOk&&(decide (tag<0)||(decide (tag<65536)&&(SF.mk kind fr to nul tag df el sub).num))&&decide (sub.len<=65536)&&sub.good
def SFs.good:SFs->Bool
 | .nil=>true
 | .cons f r=>f.good&&r.good
end
theorem SFs.good_tags:∀ fs:SFs,fs.good=true->∀ t ∈ fs.tags,t<65536
 | .nil,_,t,h=>by simp[SFs.tags] at h
 | .cons (.mk kind fr to nul tag df el sub) r,hg,t,h=>by
  simp only[SFs.good,SF.good,Bool.and_eq_true,Bool.or_eq_true,decide_eq_true_eq] at hg
  simp only[SFs.tags,List.mem_cons] at h
  rcases h with rfl | h
  ·rcases hg.1.1.1.2 with h | h
   ·omega
   ·exact h.1
  ·exact SFs.good_tags r hg.2 t h
theorem SFs.good_num:∀ fs:SFs,fs.good=true->∀ i f,fs.get i=some f->0<=f.tag->f.num=true
 | .nil,_,i,f,h,_=>by cases h
 | .cons (.mk kind fr to nul tag df el sub) r,hg,0,f,h,h0=>by
  simp only[SFs.good,SF.good,Bool.and_eq_true,Bool.or_eq_true,decide_eq_true_eq] at hg
  simp only[SFs.get,Option.some.injEq] at h
  subst h
  have h0:0<=tag:=h0
  rcases hg.1.1.1.2 with h | h
  ·omega
  ·exact h.2
 | .cons (.mk kind fr to nul tag df el sub) r,hg,i+1,f,h,h0=>by
  simp only[SFs.good,Bool.and_eq_true] at hg
  exact SFs.good_num r hg.2 i f h h0
section
variable {P : Program} {E : Env}
mutual
theorem fieldsC (H:SEnv P E) (HL:SLay P E) (HT:STexts P E) (hz8:qK P E.tU8=some (.int .u8 0)) (ver:Int) (fx:Bool):∀ (fs:SFs),fs.good=true->∀ i f,fs.get i=some f->ws P E ver fx f
 | .nil,_,i,f,h=>by cases h
 | .cons g r,hg,0,f,h=>by
  simp only[SFs.good,Bool.and_eq_true] at hg
  simp only[SFs.get,Option.some.injEq] at h
  subst h
  exact fieldC H HL HT hz8 ver fx g hg.1
 | .cons g r,hg,i+1,f,h=>by
  simp only[SFs.good,Bool.and_eq_true] at hg
  exact fieldsC H HL HT hz8 ver fx r hg.2 i f h
theorem fieldC (H:SEnv P E) (HL:SLay P E) (HT:STexts P E) (hz8:qK P E.tU8=some (.int .u8 0)) (ver:Int) (fx:Bool):∀ (f:SF),f.good=true->ws P E ver fx f
 | .mk kind fr to nul tag df el sub,hg=>by
  simp only[SF.good,Bool.and_eq_true,decide_eq_true_eq] at hg
  exact s_field H HT hz8 hg.1.1.1 (s_part2 H HL HT (SFs.good_tags sub hg.2) (SFs.good_num sub hg.2) (by show sub.len<=big;unfold big;omega) (fieldsC H HL HT hz8 ver fx sub hg.2))
end
theorem partC (H:SEnv P E) (HL:SLay P E) (HT:STexts P E) (hz8:qK P E.tU8=some (.int .u8 0)) {ver:Int} {fx:Bool} {fs:SFs} (hg:fs.good=true) (hl:fs.len<=65536):vI P E ver fx fs :=
 s_part2 H HL HT (SFs.good_tags fs hg) (SFs.good_num fs hg) (by unfold big;omega) (fieldsC H HL HT hz8 ver fx fs hg)
end
end Go.Km
namespace Go.Km
open Go Go.RowKit
attribute [local irreducible] vc rO_ qz qJ qF
section
variable {P : Program} {a : Act} {w : World} {r : List Oper} {Q : Exit → Act → World → Prop}
end
mutual
def Tr.RepD (w:World) (S:Nat->Prop):Tr->List Value->Prop
 | .mk n s nl l u,cs=>s=[]/\u=[]/\∃ lv,cs=[.int .i64 n,.slice none 0 0,.bool nl,lv,.slice none 0 0] ∧
   ((lv=.slice none 0 0/\l.len=0)\/∃ q cap,lv=.slice (some ⟨q,0,none⟩) l.len cap/\l.len<=cap/\S q/\l.RepD w S q 0)
def Trs.RepD (w:World) (S:Nat->Prop) (q:Nat):Trs->Nat->Prop
 | .nil,_=>True
 | .cons t r,o=>(∃ c,qb w q o c/\t.RepD w S c)/\r.RepD w S q (o+5)
end
theorem qb.same {w w':World} {q o:Nat} {cs:List Value} (h:qb w q o cs) (he:w'.heap[q]? = w.heap[q]?):qb w' q o cs:=by
 intro i v hv
 have:=h i v hv
 simp only[World.cell?] at this ⊢
 rw[he]
 exact this
mutual
theorem Tr.RepD.keep {w w':World} {S S':Nat->Prop} (hk:∀ q,S q->w'.heap[q]? = w.heap[q]?) (hS:∀ q,S q->S' q):∀ {t:Tr} {cs:List Value},t.RepD w S cs->t.RepD w' S' cs
 | .mk n s nl l u,cs,⟨h1,h2,lv,h3,h4⟩=>by
  refine ⟨h1,h2,lv,h3,?_⟩
  rcases h4 with h4 | ⟨q,cap,h5,h6,h7,h8⟩
  ·exact .inl h4
  ·exact .inr ⟨q,cap,h5,h6,hS q h7,Trs.RepD.keep hk hS h7 h8⟩
theorem Trs.RepD.keep {w w':World} {S S':Nat->Prop} (hk:∀ q,S q->w'.heap[q]? = w.heap[q]?) (hS:∀ q,S q->S' q) {q:Nat} (hq:S q):∀ {l:Trs} {o:Nat},l.RepD w S q o->l.RepD w' S' q o
 | .nil,_,_=>trivial
 | .cons t r,o,⟨⟨c,h1,h2⟩,h3⟩=>⟨⟨c,h1.same (hk q hq),Tr.RepD.keep hk hS h2⟩,Trs.RepD.keep hk hS hq h3⟩
end
mutual
theorem Tr.RepD.rep {w:World} {S:Nat->Prop} {U:Nat} (hS:∀ q,S q->q<U):∀ {t:Tr} {cs:List Value},t.RepD w S cs->t.Rep w U cs
 | .mk n s nl l u,cs,⟨h1,h2,lv,h3,h4⟩=>by
  refine ⟨.slice none 0 0,lv,.slice none 0 0,h3,.inl ⟨nilS,h1⟩,.inl ⟨nilS,h2⟩,?_⟩
  rcases h4 with ⟨rfl,h4⟩ | ⟨q,cap,h5,h6,h7,h8⟩
  ·exact .inl ⟨nilS,h4⟩
  ·exact .inr ⟨q,0,cap,h5,h6,hS q h7,Trs.RepD.rep hS h8⟩
theorem Trs.RepD.rep {w:World} {S:Nat->Prop} {U q:Nat} (hS:∀ q,S q->q<U):∀ {l:Trs} {o:Nat},l.RepD w S q o->l.Rep w U q o
 | .nil,_,_=>trivial
 | .cons t r,o,⟨⟨c,h1,h2⟩,h3⟩=>⟨⟨c,h1,Tr.RepD.rep hS h2⟩,Trs.RepD.rep hS h3⟩
end
theorem Tr.RepD.len {w:World} {S:Nat->Prop} {t:Tr} {cs:List Value} (h:t.RepD w S cs):cs.length=5:=by
 cases t with
 | mk n s nl l u=>obtain ⟨_,_,_,rfl,_⟩:=h;rfl
theorem Tr.RepD.one {w:World} {S:Nat->Prop} {t:Tr} {cs:List Value} (h:t.RepD w S cs):∀ v ∈ cs,v.oneCell'=true:=by
 cases t with
 | mk n s nl l u =>
  obtain ⟨_,_,lv,rfl,h3⟩:=h
  have e3:lv.oneCell'=true:=by rcases h3 with ⟨rfl,_⟩ | ⟨q,cap,rfl,_⟩<;>rfl
  intro v hv
  simp only[List.mem_cons,List.not_mem_nil,or_false] at hv
  rcases hv with rfl | rfl | rfl | rfl | rfl<;>first | rfl | assumption
theorem qt.below {w w':World} {B b o:Nat} (h:qt w b o) (hb:Below B w w') (hB:b<B):qt w' b o :=
 ⟨by rw[hb.cell (p:=⟨b,o,none⟩) hB];exact h.1,by rw[hb.frozen (p:=⟨b,o,none⟩) hB];exact h.2⟩
end Go.Km
namespace Go.Km
open Go Go.RowKit
attribute [local irreducible] vc rO_ qz qJ qF
def SF.kind:SF->Int
 | .mk kind _ _ _ _ _ _ _=>kind
def SF.df:SF->Int
 | .mk _ _ _ _ _ df _ _=>df
def SF.nul:SF->Int
 | .mk _ _ _ nul _ _ _ _=>nul
section
variable {P : Program} {E : Env} {w : World} {U : Nat}
end
end Go.Km
namespace Go.Km
open Go Go.RowKit
section
variable {P : Program} {E : Env}
end
end Go.Km
namespace Go.Km
open Go Go.RowKit
attribute [local irreducible] vc rO_ qz qJ qF
abbrev FE:=SF × Option FuncId
def SF.parts:SF->Option Operand->List (Nat × Operand)
 | .mk kind fr to nul tag df el _,x=>[(0,.const (.int .i64 kind))]++(if fr=0 then [] else [(1,.const (.int .i64 fr))])++[(2,.const (.int .i64 to)),(3,.const (.int .i64 nul)),(4,.const (.int .i64 tag))] ++
   (if df=0 then [] else [(5,.const (.int .i64 df))])++(if el=0 then [] else [(6,.const (.int .i64 el))])++(match x with | none=>[] | some x=>[(7,x)])
def y5 (E:Env):List FE->Nat->List Oper
 | [],_=>[]
 | (f,none)::r,t=>we t E.tFld (f.parts none).toArray::y5 E r (t+1)
 | (f,some g)::r,t=>xi (some t) g #[] #[] E.tFlds::we (t+1) E.tFld (f.parts (some (.tmp t))).toArray::y5 E r (t+2)
def jd:List FE->Nat->List Nat
 | [],_=>[]
 | (_,none)::r,t=>t::jd r (t+1)
 | (_,some _)::r,t=>(t+1)::jd r (t+2)
def feT:List FE->Nat->Nat
 | [],t=>t
 | (_,none)::r,t=>feT r (t+1)
 | (_,some _)::r,t=>feT r (t+2)
def wV (E:Env) (d:Nat) (ss:List Nat):Oper:=zb d E.tFlds ss.length (ss.zipIdx.map fun x=>(x.2,Operand.tmp x.1)).toArray
def c_lit (E:Env) (l:List FE):Code :=
 sq [rg [qc 0 (.const (.slice none 0 0)) E.tFlds],rg (y5 E l 1++[wV E (feT l 1) (jd l 1),qc 0 (.tmp (feT l 1)) E.tFlds]),.ret]
def c_spec (E:Env) (l:List FE) (flex:Int):Code :=
 let T:=feT l 1
 sq [rg [yn 0 E.tMsg],rg (y5 E l 1++[wV E T (jd l 1),we (T+1) E.tMsg #[(1,.const (.int .i64 flex)),(0,.tmp T)],zf E.tMsg (.tmp 0) (.tmp (T+1))]),.ret]
def toSFs:List FE->SFs
 | []=>.nil
 | f::r=>.cons f.1 (toSFs r)
theorem toSFs_len:∀ l,(toSFs l).len=l.length
 | []=>rfl
 | f::r=>by simp[toSFs,SFs.len,toSFs_len r]
def LitC (P:Program) (g:FuncId) (fs:SFs):Prop:=∀ w,qa P g #[] w fun v w'=>SlF w' w'.heap.size v fs/\Below w.heap.size w w'
def vb (P:Program) (l:List FE):Prop:=∀ f ∈ l,match f.2 with | none=>f.1.sub=.nil | some g=>LitC P g f.1.sub
def vJ (A:Act) (W:World):List Nat->List FE->Prop
 | [],[]=>True
 | s::ss,f::fs=>(∃ cells:List Value,A.eval (.tmp s)=.agg cells.toArray/\f.1.Rep W W.heap.size cells)/\vJ A W ss fs
 | _,_=>False
theorem fill_fld (kind fr to nul tag df el:Int) (sub:SFs) (ρ:Operand->Value) (hρ:∀ v,ρ (.const v)=v) (x:Option Operand) (sv:Value) (hx:match x with | none=>sv=.slice none 0 0 | some x=>ρ x=sv) (h1:sv.cells=#[sv]) :
  Instr.fill (([(0,1),(1,1),(2,1),(3,1),(4,1),(5,1),(6,1),(7,1)]:List (Nat × Nat)).toArray[·]?) #[.int .i64 0,.int .i64 0,.int .i64 0,.int .i64 0,.int .i64 0,.int .i64 0,.int .i64 0,.slice none 0 0]
   ((((SF.mk kind fr to nul tag df el sub).parts x).toArray.map fun (y:Nat × Operand)=>(y.1,ρ y.2))).toList=some #[.int .i64 kind,.int .i64 fr,.int .i64 to,.int .i64 nul,.int .i64 tag,.int .i64 df,.int .i64 el,sv]:=by
 have hc:∀ n:Int,(Value.int .i64 n).cells=#[.int .i64 n]:=fun _=>rfl
 cases x with
 | none =>
  simp only at hx
  subst hx
  by_cases h1:fr=0<;>by_cases h2:df=0<;>by_cases h3:el=0<;>simp[SF.parts,h1,h2,h3,Instr.fill,hρ,hc]
 | some x =>
  simp only at hx
  by_cases h4:fr=0<;>by_cases h2:df=0<;>by_cases h3:el=0<;>simp[SF.parts,h4,h2,h3,Instr.fill,hρ,hc,hx,h1]
theorem vJ.keep {A A':Act} {W W':World} (hW:Below W.heap.size W W'):∀ {ss:List Nat} {l:List FE},(∀ s ∈ ss,A'.eval (.tmp s)=A.eval (.tmp s))->vJ A W ss l->vJ A' W' ss l
 | [],[],_,_=>trivial
 | s::ss,f::l,hs,⟨⟨c,h1,h2⟩,h3⟩=>⟨⟨c,by rw[hs s zS];exact h1,(h2.below hW).mono hW.size⟩,vJ.keep hW (fun s h=>hs s (by simp[h])) h3⟩
 | [],_::_,_,h=>h.elim
 | _::_,[],_,h=>h.elim
theorem feT_ge (l:List FE) (t:Nat):t<=feT l t:=by
 induction l generalizing t with
 | nil=>exact Nat.le_refl _
 | cons x r ih=>rcases x with ⟨f,_ | g⟩<;>simp only[feT]<;>first | (have:=ih (t+1);omega) | (have:=ih (t+2);omega)
section
variable {P : Program} {E : Env}
theorem fe_run (HL:SLay P E):∀ (l:List FE) {t:Nat} {rest:List Oper} {Q:Exit->Act->World->Prop} {A:Act} {W:World},vb P l->feT l t<=A.tmps.size →
  (∀ A' W',A'.tmps.size=A.tmps.size->A'.defers=A.defers->(∀ k:Nat,k<t->A'.eval (.tmp k)=A.eval (.tmp k))->Below W.heap.size W W'->vJ A' W' (jd l t) l->rO_ P Q rest A' W')->rO_ P Q (y5 E l t++rest) A W
 | [],t,rest,Q,A,W,_,_,h=>h A W rfl rfl (fun _ _=>rfl) (Below.refl _ _) trivial
 | (.mk kind fr to nul tag df el sub,none)::r,t,rest,Q,A,W,hS,ht,h=>by
  have hs:=hS _ (List.mem_cons_self ..)
  simp only[SF.sub] at hs
  have hTr:=feT_ge r (t+1)
  simp only[feT] at ht
  refine z6 (cells:=#[.int .i64 kind,.int .i64 fr,.int .i64 to,.int .i64 nul,.int .i64 tag,.int .i64 df,.int .i64 el,.slice none 0 0]) HL.fld (fill_fld kind fr to nul tag df el sub A.eval (fun _=>rfl) none _ rfl rfl) ?_
  refine fe_run HL r (fun f hf=>hS f (List.mem_cons_of_mem _ hf)) (by simp only[zP];exact ht) ?_
  intro A' W' a1 a2 a3 a4 a5
  refine h A' W' (by rw[a1];simp only[zP]) (by rw[a2];simp only[dF]) (fun k hk=>?_) a4 ⟨⟨[.int .i64 kind,.int .i64 fr,.int .i64 to,.int .i64 nul,.int .i64 tag,.int .i64 df,.int .i64 el,.slice none 0 0],?_,?_⟩,a5⟩
  ·rw[a3 k zH]
   exact zE
  ·rw[a3 t zH]
   exact zE
  ·refine ⟨_,rfl,.inl ⟨rfl,?_⟩⟩
   rw[hs]
   rfl
 | (.mk kind fr to nul tag df el sub,some g)::r,t,rest,Q,A,W,hS,ht,h=>by
  have hs:=hS _ (List.mem_cons_self ..)
  simp only[SF.sub] at hs
  have hTr:=feT_ge r (t+2)
  simp only[feT] at ht
  refine q8 (args:=#[]) zS (hs W) ?_
  rintro v W1 ⟨hsl,hb1⟩
  have hv1:v.cells=#[v]:=by rcases hsl with ⟨rfl,_⟩ | ⟨q,o,cap,rfl,_⟩<;>rfl
  refine z6 (cells:=#[.int .i64 kind,.int .i64 fr,.int .i64 to,.int .i64 nul,.int .i64 tag,.int .i64 df,.int .i64 el,v]) HL.fld (fill_fld kind fr to nul tag df el sub (A.put (some t) v).eval (fun _=>rfl) (some (.tmp t)) v zE hv1) ?_
  refine fe_run HL r (fun f hf=>hS f (List.mem_cons_of_mem _ hf)) (by simp only[zP];exact ht) ?_
  intro A' W' a1 a2 a3 a4 a5
  refine h A' W' (by rw[a1];simp only[zP]) (by rw[a2];simp only[dF]) (fun k hk=>?_) (hb1.trans (a4.mono hb1.size)) ⟨⟨[.int .i64 kind,.int .i64 fr,.int .i64 to,.int .i64 nul,.int .i64 tag,.int .i64 df,.int .i64 el,v],?_,?_⟩,a5⟩
  ·rw[a3 k zH]
   exact zE
  ·rw[a3 (t+1) zH]
   exact zE
  ·refine ⟨v,rfl,?_⟩
   exact (hsl.below a4).mono a4.size
end
end Go.Km
namespace Go.Km
open Go Go.RowKit
attribute [local irreducible] vc rO_ qz qJ qF
def Reps (W:World) (U:Nat):List (List Value)->List FE->Prop
 | [],[]=>True
 | c::cs,f::l=>f.1.Rep W U c/\Reps W U cs l
 | _,_=>False
theorem Reps.len {W:World} {U:Nat}:∀ {cs:List (List Value)} {l:List FE},Reps W U cs l->cs.length=l.length/\∀ c ∈ cs,c.length=8
 | [],[],_=>⟨rfl,by simp⟩
 | c::cs,f::l,⟨h1,h2⟩=>by
  obtain ⟨h3,h4⟩:=Reps.len h2
  refine ⟨by simp[h3],fun x hx=>?_⟩
  rcases List.mem_cons.1 hx with rfl | hx
  ·exact h1.len
  ·exact h4 x hx
 | [],_::_,h=>h.elim
 | _::_,[],h=>h.elim
theorem Reps.below {W W':World} {U U':Nat} (hW:Below U W W') (hU:U<=U'):∀ {cs:List (List Value)} {l:List FE},Reps W U cs l->Reps W' U' cs l
 | [],[],_=>trivial
 | c::cs,f::l,⟨h1,h2⟩=>⟨(h1.below hW).mono hU,Reps.below hW hU h2⟩
 | [],_::_,h=>h.elim
 | _::_,[],h=>h.elim
theorem vJ.cells {A:Act} {W:World}:∀ {ss:List Nat} {l:List FE},vJ A W ss l->∃ cs:List (List Value),(ss.map fun s=>A.eval (.tmp s))=cs.map (fun c=>Value.agg c.toArray)/\Reps W W.heap.size cs l
 | [],[],_=>⟨[],rfl,trivial⟩
 | s::ss,f::l,⟨⟨c,h1,h2⟩,h3⟩=>by
  obtain ⟨cs,h4,h5⟩:=vJ.cells h3
  exact ⟨c::cs,by simp only[List.map_cons,h1,h4],h2,h5⟩
 | [],_::_,h=>h.elim
 | _::_,[],h=>h.elim
theorem sfs_rep {w:World} {U q:Nat}:∀ {cs:List (List Value)} {l:List FE} {o:Nat},Reps w U cs l->qb w q o cs.flatten->(toSFs l).Rep w U q o
 | [],[],o,_,_=>trivial
 | c::cs,f::l,o,⟨h1,h2⟩,hc=>by
  have h8:=h1.len
  simp only[List.flatten_cons] at hc
  refine ⟨⟨c,?_,h1⟩,sfs_rep h2 ?_⟩
  ·have:=hc.tk (n:=c.length)
   rwa [List.take_left] at this
  ·have:=hc.dp (n:=c.length)
   rwa [List.drop_left,h8] at this
 | [],_::_,_,h,_=>h.elim
 | _::_,[],_,h,_=>h.elim
mutual
theorem SF.Rep.other {w w':World} {U b:Nat} (hk:∀ k,k≠b->w'.heap[k]? = w.heap[k]?) (hb:∀ i,7<=i->w.cell? ⟨b,i,none⟩=none):∀ {f:SF} {cs:List Value},f.Rep w U cs->f.Rep w' U cs
 | .mk kind fr to nul tag df el sub,cs,⟨sv,h1,h2⟩=>by
  refine ⟨sv,h1,?_⟩
  rcases h2 with h2 | ⟨q,o,cap,h3,h4,h5,h6⟩
  ·exact .inl h2
  ·exact .inr ⟨q,o,cap,h3,h4,h5,SFs.Rep.other hk hb h6⟩
theorem SFs.Rep.other {w w':World} {U b q:Nat} (hk:∀ k,k≠b->w'.heap[k]? = w.heap[k]?) (hb:∀ i,7<=i->w.cell? ⟨b,i,none⟩=none):∀ {l:SFs} {o:Nat},l.Rep w U q o->l.Rep w' U q o
 | .nil,_,_=>trivial
 | .cons f r,o,⟨⟨c,h1,h2⟩,h3⟩=>by
  have h8:=h2.len
  have hq:q≠b:=by
   rintro rfl
   have:=h1.get (i:=7) zH
   rw[hb (o+7) zH] at this
   cases this
  exact ⟨⟨c,h1.same (hk q hq),SF.Rep.other hk hb h2⟩,SFs.Rep.other hk hb h3⟩
end
section
variable {P : Program} {E : Env}
theorem r_sliceOf (hB:xe P E.tFlds E.tFld 8=true) {d:Nat} {ss:List Nat} {l:List FE} {r:List Oper} {Q:Exit->Act->World->Prop} {A:Act} {W:World} (hv:vJ A W ss l) (hn0:0<l.length) (hn:l.length<=65536)
  (h:∀ W',Below W.heap.size W W'->SlF W' W'.heap.size (.slice (some ⟨W.heap.size,0,none⟩) l.length l.length) (toSFs l)->rO_ P Q r (A.put (some d) (.slice (some ⟨W.heap.size,0,none⟩) l.length l.length)) W') :
  rO_ P Q (wV E d ss::r) A W:=by
 obtain ⟨cs,h1,h2⟩:=hv.cells
 obtain ⟨h3,h4⟩:=h2.len
 have hsl:ss.length=l.length:=by
  have:=congrArg List.length h1
  simp only[List.length_map] at this
  omega
 unfold wV
 rw[hsl]
 refine xz (vs:=cs.map (fun c=>Value.agg c.toArray)) (s:=8) hB ?_ (by rw[List.length_map];exact h3) ?_ zH hn0 ?_
 ·rw[← h1]
  simp[List.zipIdx_map,List.map_map,Function.comp_def]
 ·intro v hv
  obtain ⟨c,hc,rfl⟩:=List.mem_map.1 hv
  simpa [Value.cells] using h4 c hc
 have hfl:((cs.map (fun c=>Value.agg c.toArray)).flatMap fun v=>v.cells.toList)=cs.flatten:=by
  rw[List.flatMap_map]
  simp[Value.cells,List.flatMap]
 rw[hfl]
 have hb:Below W.heap.size W (W.alloc (.cells cs.flatten.toArray E.tFld)):=(Below.refl W.heap.size W).alloc (o:=.cells _ _) (Nat.le_refl _)
 refine h _ hb (.inr ⟨W.heap.size,0,l.length,by rw[toSFs_len],by rw[toSFs_len];exact Nat.le_refl _,by simp,?_⟩)
 refine sfs_rep (h2.below hb zS) ?_
 intro i v hv
 rw[Nat.zero_add]
 exact qs W _ E.tFld (by simpa using hv)
theorem c_lit_ok (HL:SLay P E) (hB:xe P E.tFlds E.tFld 8=true) {g:FuncId} {np nt:Nat} {l:List FE} (ht:Text P g np nt #[.tmp 0] (c_lit E l)) (hnt:feT l 1+1<=nt) (hn0:0<l.length) (hn:l.length<=65536) (hS:vb P l):LitC P g (toSFs l):=by
 intro w
 refine qa.enter ht zS ?_
 intro a hsz hdf harg
 have hT:=feT_ge l 1
 unfold c_lit
 refine vX (rA (dn ?_))
 refine vS (vR ?_ ?_)
 ·intro o ho
  rcases List.mem_append.1 ho with h | h
  ·have:∀ (l:List FE) (t:Nat),∀ o ∈ y5 E l t,o.guard=none:=by
    intro l
    induction l with
    | nil=>intro t o h;simp[y5] at h
    | cons x r ih =>
     intro t o h
     rcases x with ⟨f,_ | g⟩
     ·simp only[y5,List.mem_cons] at h
      rcases h with rfl | h
      ·rfl
      ·exact ih _ o h
     ·simp only[y5,List.mem_cons] at h
      rcases h with rfl | rfl | h
      ·rfl
      ·rfl
      ·exact ih _ o h
   exact this l 1 o h
  ·simp only[List.mem_cons,List.not_mem_nil,or_false] at h
   rcases h with rfl | rfl<;>rfl
 refine fe_run HL l hS (by simp only[zP];omega) ?_
 intro A' W' a1 a2 a3 a4 a5
 simp only[zP,dF] at a1 a2
 refine r_sliceOf hB a5 hn0 hn ?_
 intro W2 hb2 hs2
 refine rA (dn (vS (vT ?_)))
 refine ⟨by simp only[dF];rw[a2];exact hdf,.slice (some ⟨W'.heap.size,0,none⟩) l.length l.length,rO ?_,hs2,a4.trans (hb2.mono a4.size)⟩
 exact zE
def SpecC (P:Program) (f:FuncId) (fs:SFs) (flex:Int):Prop:=∀ w,qa P f #[] w fun v w'=>∃ sv,v=.agg #[sv,.int .i64 flex]/\SlF w' w'.heap.size sv fs/\Below w.heap.size w w'
theorem c_spec_ok (HL:SLay P E) (hB:xe P E.tFlds E.tFld 8=true) (hM:z7 P E.tMsg=some 2) {f:FuncId} {np nt:Nat} {l:List FE} {flex:Int} (ht:Text P f np nt #[.cell 0 E.tMsg] (c_spec E l flex)) (hnt:feT l 1+2<=nt) (hn0:0<l.length) (hn:l.length<=65536) (hS:vb P l):SpecC P f (toSFs l) flex:=by
 intro w
 refine qa.enter ht zS ?_
 intro a hsz hdf harg
 have hT:=feT_ge l 1
 obtain ⟨z,hz,hzc⟩:=xD HL.msg
 unfold c_spec
 refine vX ?_
 refine qI hz ?_
 refine dn ?_
 rw[hzc]
 have hb0:Below w.heap.size w (w.alloc (.cells #[.slice none 0 0,.int .i64 0] E.tMsg)):=(Below.refl w.heap.size w).alloc (o:=.cells _ _) (Nat.le_refl _)
 have hfr:∀ i,i<2->qt (w.alloc (.cells #[.slice none 0 0,.int .i64 0] E.tMsg)) w.heap.size i:=fun i hi=>qm w _ E.tMsg (by simpa using hi)
 have hz0:w.heap.size<(w.alloc (.cells #[.slice none 0 0,.int .i64 0] E.tMsg)).heap.size:=by simp
 have h2c:∀ i,7<=i->(w.alloc (.cells #[.slice none 0 0,.int .i64 0] E.tMsg)).cell? ⟨w.heap.size,i,none⟩=none:=fun i hi=>by
  rw[World.cell?_alloc_new]
  exact Array.getElem?_eq_none (by simp;omega)
 generalize w.alloc (.cells #[.slice none 0 0,.int .i64 0] E.tMsg)=W at *
 generalize hwb:w.heap.size=wb at *
 refine vS (vR ?_ ?_)
 ·intro o ho
  rcases List.mem_append.1 ho with h | h
  ·have:∀ (l:List FE) (t:Nat),∀ o ∈ y5 E l t,o.guard=none:=by
    intro l
    induction l with
    | nil=>intro t o h;simp[y5] at h
    | cons x r ih =>
     intro t o h
     rcases x with ⟨f,_ | g⟩
     ·simp only[y5,List.mem_cons] at h
      rcases h with rfl | h
      ·rfl
      ·exact ih _ o h
     ·simp only[y5,List.mem_cons] at h
      rcases h with rfl | rfl | h
      ·rfl
      ·rfl
      ·exact ih _ o h
   exact this l 1 o h
  ·simp only[List.mem_cons,List.not_mem_nil,or_false] at h
   rcases h with rfl | rfl | rfl<;>rfl
 refine fe_run HL l hS (by simp only[zP];omega) ?_
 intro A' W' a1 a2 a3 a4 a5
 simp only[zP,dF] at a1 a2
 refine r_sliceOf hB a5 hn0 hn ?_
 intro W2 hb2 hs2
 have h0:A'.eval (.tmp 0)=.pointer (some ⟨wb,0,none⟩):=by
  rw[a3 0 zH]
  exact zE
 generalize hsv:Value.slice (some ⟨W'.heap.size,0,none⟩) l.length l.length=sv at *
 have hsv1:sv.cells=#[sv]:=by rw[← hsv];rfl
 have hsvo:sv.oneCell'=true:=by rw[← hsv];rfl
 refine z6 (cells:=#[sv,.int .i64 flex]) HL.msg ?_ ?_
 ·have e1:(A'.put (some (feT l 1)) sv).eval (.tmp (feT l 1))=sv:=by exact zE
  have hc:∀ n:Int,(Value.int .i64 n).cells=#[.int .i64 n]:=fun _=>rfl
  simp[Instr.fill,e1,hsv1,xg,hc]
 have hbW2:Below W.heap.size W W2:=a4.trans (hb2.mono a4.size)
 refine qu (b:=wb) (o:=0) (cs:=[sv,.int .i64 flex]) zA zE (by intro v hv;simp only[List.mem_cons,List.not_mem_nil,or_false] at hv;rcases hv with rfl | rfl;exact hsvo;rfl) hM ?_ ?_
 ·intro j hj
  rw[Nat.zero_add]
  exact (hfr j hj).below hbW2 hz0
 refine dn (vS (vT ?_))
 have hE:=qe wb [sv,.int .i64 flex] W2 0
 have hzz:=hE.size
 refine ⟨by simp only[dF];rw[a2];exact hdf,.agg #[sv,.int .i64 flex],z8 (b:=wb) (o:=0) (cs:=[sv,.int .i64 flex]) zA hM ?_,sv,rfl,?_,?_⟩
 ·intro j v hv
  refine qg wb _ W2 0 (fun j hj=>?_) j v hv
  rw[Nat.zero_add]
  exact ((hfr j hj).below hbW2 hz0).1
 ·rcases hs2 with ⟨h,_⟩ | ⟨q,o,cap,h1,h2,h3,h4⟩
  ·rw[← hsv] at h;cases h
  ·refine .inr ⟨q,o,cap,h1,h2,by omega,SFs.Rep.mono hzz (SFs.Rep.other (b:=wb) (fun k hk=>?_) (fun i hi=>?_) h4)⟩
   ·rcases Nat.lt_or_ge k W2.heap.size with h | h
    ·exact hE.blockEq h (fun i hh=>hk hh.1)
    ·have e:(setCells W2 wb 0 [sv,.int .i64 flex]).heap.size=W2.heap.size:=by simp[setCells]
     rw[Array.getElem?_eq_none h,Array.getElem?_eq_none (by rw[e];exact h)]
   ·rw[hbW2.cell (p:=⟨wb,i,none⟩) hz0]
    exact h2c i hi
 ·exact (hb0.trans (hbW2.mono zH)).trans (hE.below (by have:=hbW2.size;omega) (by rintro k i hk ⟨h,_⟩;omega))
end
end Go.Km
namespace Go.Km
open Go Go.RowKit
attribute [local irreducible] vc rO_ qz qJ qF
structure ML where
 implMax:FuncId
 spec:FuncId
 again:FuncId
 law:FuncId
 fits2:FuncId
 fits3:FuncId
 fits4:FuncId
 tTup:TypeId
def c_fits2 (E:Env) (A:ML):Code :=
 (sq [(rg [(oQ 1 (.box E.tT (.tmp 0)) 0),
   (oQ 2 (.assign (.const (.bool false))) E.tO)]),
  (sq [(rg [(oQ 3 (.fieldAddr E.tT (.tmp 1) 1) 0),
    (oQ 4 (.load E.tB (.tmp 3)) E.tB),
    (oQ 5 (.call { callee:=.builtin .len,args:=#[(.tmp 4)],argTypes:=#[E.tB] }) E.tI),
    (oQ 6 (.binOp .gtr E.tI (.tmp 5) (.const (.int .i64 2147483647)) E.tI) E.tO)]),
   (.cond (.tmp 6)
    (sq [(rg [(oQ 2 (.assign (.const (.bool false))) E.tO)]),
     .ret])
    .skip)]),
  (sq [(rg [(oQ 7 (.fieldAddr E.tT (.tmp 1) 3) 0),
    (oQ 8 (.load E.tS (.tmp 7)) E.tS),
    (oQ 9 (.call { callee:=.builtin .len,args:=#[(.tmp 8)],argTypes:=#[E.tS] }) E.tI),
    (oQ 10 (.binOp .gtr E.tI (.tmp 9) (.const (.int .i64 2147483647)) E.tI) E.tO)]),
   (.cond (.tmp 10)
    (sq [(rg [(oQ 2 (.assign (.const (.bool false))) E.tO)]),
     .ret])
    .skip)]),
  (sq [(rg [(oQ 11 (.fieldAddr E.tT (.tmp 1) 4) 0),
    (oQ 12 (.load E.tK (.tmp 11)) E.tK),
    (oQ 13 (.call { callee:=.value (.func A.fits3),args:=#[(.tmp 12)],argTypes:=#[E.tK] }) E.tO),
    (oQ 14 (.unOp .not E.tO (.tmp 13)) E.tO)]),
   (.cond (.tmp 14)
    (sq [(rg [(oQ 2 (.assign (.const (.bool false))) E.tO)]),
     .ret])
    .skip)]),
  (rg [(oQ 2 (.assign (.const (.bool true))) E.tO)]),
  .ret])
def gu (E:Env) (A:ML):Code :=
 (sq [(rg [(oQ 2 (.assign (.const (.bool false))) E.tO)]),
  (sq [(rg [(oQ 5 (.move (.tmp 0)) E.tK),
    (oQ 6 (.call { callee:=.builtin .len,args:=#[(.tmp 5)],argTypes:=#[E.tK] }) E.tI),
    (oQ 7 (.binOp .gtr E.tI (.tmp 6) (.const (.int .i64 2147483647)) E.tI) E.tO)]),
   (.cond (.tmp 7)
    (sq [(rg [(oQ 2 (.assign (.const (.bool false))) E.tO)]),
     .ret])
    .skip)]),
  (sq [(rg [(oQ 8 (.move (.tmp 0)) E.tK),
    (oQ 9 (.call { callee:=.builtin .len,args:=#[(.tmp 8)],argTypes:=#[E.tK] }) E.tI),
    (oQ 10 (.move (.const (.int .i64 0))) E.tI)]),
   (.block 0 (.loop (sq [(rg [(oQ 11 (.binOp .lss E.tI (.tmp 10) (.tmp 9) E.tI) 0)]),
      (.cond (.tmp 11)
       .skip
       (.exit 0)),
      (.block 1 (sq [(rg [(oQ 12 (.indexAddr E.tK (.tmp 8) (.tmp 10)) 0),
         (oQ 13 (.load E.tUnk (.tmp 12)) E.tUnk),
         (oQ 4 (.alloc E.tUnk) 0),
         ⟨none,.store E.tUnk (.tmp 4) (.tmp 13),0,"",#[],none⟩]),
        (rg [(oQ 14 (.load E.tUnk (.tmp 4)) E.tUnk),
         (oQ 15 (.call { callee:=.value (.func A.fits4),args:=#[(.tmp 14)],argTypes:=#[E.tUnk] }) E.tO),
         (oQ 16 (.unOp .not E.tO (.tmp 15)) E.tO)]),
        (.cond (.tmp 16)
         (sq [(rg [(oQ 2 (.assign (.const (.bool false))) E.tO)]),
          .ret])
         .skip)])),
      (rg [(oQ 17 (.binOp .add E.tI (.tmp 10) (.const (.int .i64 1)) E.tI) E.tI),
       (oQ 10 (.move (.tmp 17)) E.tI)])])))]),
  (rg [(oQ 2 (.assign (.const (.bool true))) E.tO)]),
  .ret])
def vw (E:Env) (A:ML):Code :=
 (sq [(rg [(oQ 1 (.box E.tUnk (.tmp 0)) 0),
   (oQ 2 (.assign (.const (.bool false))) E.tO)]),
  (sq [(rg [(oQ 3 (.fieldAddr E.tUnk (.tmp 1) 1) 0),
    (oQ 4 (.load E.tB (.tmp 3)) E.tB),
    (oQ 5 (.call { callee:=.builtin .len,args:=#[(.tmp 4)],argTypes:=#[E.tB] }) E.tI),
    (oQ 6 (.binOp .gtr E.tI (.tmp 5) (.const (.int .i64 2147483647)) E.tI) E.tO)]),
   (.cond (.tmp 6)
    (sq [(rg [(oQ 2 (.assign (.const (.bool false))) E.tO)]),
     .ret])
    .skip)]),
  (rg [(oQ 2 (.assign (.const (.bool true))) E.tO)]),
  .ret])
def c_againL (E:Env) (A:ML):Code :=
 (sq [(rg [(oQ 3 (.box E.tT (.tmp 1)) 0),
   (oQ 4 (.assign (.const (.bool false))) E.tO)]),
  (sq [(rg [(oQ 9 (.load E.tT (.tmp 3)) E.tT),
    (oQ 10 (.call { callee:=.value (.func A.fits2),args:=#[(.tmp 9)],argTypes:=#[E.tT] }) E.tO),
    (oQ 11 (.unOp .not E.tO (.tmp 10)) E.tO)]),
   (.cond (.tmp 11)
    (sq [(rg [(oQ 4 (.assign (.const (.bool true))) E.tO)]),
     .ret])
    .skip)]),
  (rg [(oQ 12 (.call { callee:=.value (.func A.implMax),args:=#[],argTypes:=#[] }) E.tI),
   (oQ 5 (.assign (.tmp 12)) E.tI)]),
  (sq [(rg [(oQ 13 (.move (.tmp 5)) E.tI),
    (oQ 14 (.binOp .lss E.tI (.tmp 13) (.const (.int .i64 0)) E.tI) E.tO)]),
   (.cond (.tmp 14)
    (sq [(rg [(oQ 4 (.assign (.const (.bool false))) E.tO)]),
     .ret])
    .skip)]),
  (rgd [(oQ 15 (.call { callee:=.value (.func A.spec),args:=#[],argTypes:=#[] }) E.tMsg),
   (oQ 16 (.move (.tmp 0)) E.tU8),
   (oQ 17 (.move (.tmp 5)) E.tI),
   ⟨some 18,.call { callee:=.value (.func E.lVersion),args:=#[(.tmp 16),(.tmp 17)],argTypes:=#[E.tU8,E.tI] },E.tI,"",#[⟨1,.data⟩,⟨2,.data⟩,⟨0,.chain⟩],none⟩,
   (oQ 19 (.load E.tT (.tmp 3)) E.tT),
   ⟨some 20,.call { callee:=.value (.func E.sWrite),args:=#[(.tmp 15),(.tmp 18),(.tmp 19)],argTypes:=#[E.tMsg,E.tI,E.tT] },E.tB,"",#[⟨0,.data⟩,⟨3,.data⟩,⟨4,.data⟩,⟨3,.chain⟩],none⟩,
   ⟨some 6,.assign (.tmp 20),E.tB,"",#[⟨5,.data⟩,⟨5,.chain⟩,⟨0,.phase⟩,⟨1,.phase⟩,⟨2,.phase⟩,⟨3,.phase⟩,⟨4,.phase⟩,⟨5,.phase⟩],none⟩]),
  (rg [(oQ 22 (.move (.tmp 0)) E.tU8),
   (oQ 23 (.move (.tmp 5)) E.tI),
   (oQ 24 (.call { callee:=.value (.func E.lVersion),args:=#[(.tmp 22),(.tmp 23)],argTypes:=#[E.tU8,E.tI] }) E.tI),
   (oQ 25 (.move (.tmp 6)) E.tB),
   (oQ 26 (.call { callee:=.value (.func A.again),args:=#[(.tmp 24),(.tmp 25)],argTypes:=#[E.tI,E.tB] }) A.tTup),
   (oQ 21 (.move (.tmp 26)) A.tTup),
   (oQ 27 (.extract (.tmp 21) 0) E.tB),
   (oQ 28 (.extract (.tmp 21) 1) E.tO),
   (oQ 7 (.assign (.tmp 27)) E.tB),
   (oQ 8 (.assign (.tmp 28)) E.tO)]),
  (rg [(oQ 29 (.move (.tmp 8)) E.tO),
   (oQ 30 (.move (.tmp 29)) E.tO),
   ⟨some 31,.move (.tmp 7),E.tB,"",#[],some (1,true)⟩,
   ⟨some 32,.move (.tmp 6),E.tB,"",#[],some (1,true)⟩,
   ⟨some 33,.call { callee:=.value (.func E.sSame),args:=#[(.tmp 31),(.tmp 32)],argTypes:=#[E.tB,E.tB] },E.tO,"",#[],some (1,true)⟩,
   (oQ 34 (.pick (.tmp 30) (.tmp 33) (.const (.bool false))) E.tO),
   (oQ 4 (.assign (.tmp 34)) E.tO)]),
  .ret])
section
variable {P : Program} {E : Env} {w : World} {U : Nat}
abbrev AnyB (P:Program) (f:FuncId) (args:Array Value) (w:World):Prop:=qa P f args w fun v w'=>(∃ b,v=.bool b)/\Below w.heap.size w w'
theorem fits4_ok (H:SEnv P E) {A:ML} (ht:Text P A.fits4 1 7 #[.tmp 2] (vw E A)) {k:Int} {sv:Value} {l:List UInt8} (ho:xM w U sv l):AnyB P A.fits4 #[.agg [.int .u32 k,sv].toArray] w:=by
 obtain ⟨ad,cap,rfl,_,_⟩:=ho.form
 refine qa.enter ht zS ?_
 intro a hsz hdf harg
 have e0:=harg 0 (.agg [.int .u32 k,.slice ad l.length cap].toArray) zS
 unfold vw
 refine vX ?_
 refine xI (v:=.agg [.int .u32 k,.slice ad l.length cap].toArray) zA ?_
 refine rA (dn ?_)
 have hb1:Below w.heap.size w (w.alloc (.cells (Value.agg [.int .u32 k,.slice ad l.length cap].toArray).cells E.tUnk)):=(Below.refl _ w).alloc (o:=.cells _ _) (Nat.le_refl _)
 have c1:(w.alloc (.cells (Value.agg [.int .u32 k,.slice ad l.length cap].toArray).cells E.tUnk)).cell? ⟨w.heap.size,0+1,none⟩=some (.slice ad l.length cap):=qs w _ E.tUnk (by simp[Value.cells])
 generalize w.alloc (.cells (Value.agg [.int .u32 k,.slice ad l.length cap].toArray).cells E.tUnk)=w1 at *
 refine vS (vX ?_)
 refine rF (b:=w.heap.size) (o:=0) zE (ql H.fUnk (by decide)) ?_
 refine rL (b:=w.heap.size) (o:=0+1) zE H.oBytes c1 ?_
 refine x7 (ad:=ad) (n:=l.length) (c:=cap) (rB H.row) zE ?_
 refine ji (k:=.i64) (m:=(l.length:Int)) (n:=2147483647) zE rfl ?_
 refine dn ?_
 refine vS (vC (t:=decide ((l.length:Int)>2147483647)) zE ?_ ?_)
 ·intro h
  refine vX (rA (dn (vS (vT ?_))))
  exact ⟨by simp only[dF];exact hdf,.bool false,rO zE,⟨_,rfl⟩,hb1⟩
 intro h
 refine vK (vN (vX (rA (dn (vS (vT ?_))))))
 exact ⟨by simp only[dF];exact hdf,.bool true,rO zE,⟨_,rfl⟩,hb1⟩
theorem fits3_ok (H:SEnv P E) {A:ML} (ht4:Text P A.fits4 1 7 #[.tmp 2] (vw E A)) (ht:Text P A.fits3 1 18 #[.tmp 2] (gu E A)) {uv:Value} {u:List (Nat × List UInt8)} (hu:kD w U uv u) (hU:U<=w.heap.size) (hbig:u.length<=9223372036854775807):AnyB P A.fits3 #[uv] w:=by
 obtain ⟨ad,cap,rfl,_,hit⟩:=hu.items
 obtain ⟨z,hz,hzc⟩:=vk H.rUnks
 refine qa.enter ht zS ?_
 intro a hsz hdf harg
 have e0:=harg 0 (.slice ad u.length cap) zS
 unfold gu
 refine vX (rA (dn (vS (vX (rM ?_)))))
 refine x7 (ad:=ad) (n:=u.length) (c:=cap) (rB H.rUnks) zA ?_
 refine ji (k:=.i64) (m:=(u.length:Int)) (n:=2147483647) zE rfl ?_
 refine dn ?_
 refine vS (vC (t:=decide ((u.length:Int)>2147483647)) zE ?_ ?_)
 ·intro h
  refine vX (rA (dn (vS (vT ?_))))
  exact ⟨by simp only[dF];exact hdf,.bool false,rO zE,⟨_,rfl⟩,Below.refl _ _⟩
 intro h
 have hlen:u.length<=2147483647:=by
  have:¬ ((u.length:Int)>2147483647):=by simpa using h
  omega
 refine vK (vN (vS (vX (rM ?_))))
 refine x7 (ad:=ad) (n:=u.length) (c:=cap) (rB H.rUnks) zA ?_
 refine rM (dn ?_)
 generalize hG:Act.put _ (some 10) _=G
 have hsG:G.tmps.size=18:=by rw[← hG];simp only[zP];exact hsz
 have hdG:G.defers=[]:=by rw[← hG];simp only[dF];exact hdf
 have k8:G.eval (.tmp 8)=.slice ad u.length cap:=by rw[← hG];exact zA
 have k9:G.eval (.tmp 9)=.int .i64 (u.length:Nat):=by rw[← hG];exact zE
 have k10:G.eval (.tmp 10)=.int .i64 ((0:Nat):Int):=by rw[← hG];simp (disch:=(try simp only[sP]);omega) only[eV];rfl
 clear hG
 refine vS (qh (zI (fun B V=>∃ i:Nat,i<=u.length/\B.tmps.size=18/\B.defers=[]/\B.eval (.tmp 8)=.slice ad u.length cap/\B.eval (.tmp 9)=.int .i64 (u.length:Nat)/\B.eval (.tmp 10)=.int .i64 (i:Int)/\Below w.heap.size w V)
  (fun B _=>u.length-(intOf (B.eval (.tmp 10))).toNat) ?_ ?_))
 ·exact ⟨0,Nat.zero_le _,hsG,hdG,k8,k9,k10,Below.refl _ _⟩
 rintro B V ⟨i,hi,hsB,hdB,g8,g9,g10,hbV⟩
 refine vX ?_
 refine qV (k:=.i64) (m:=(i:Int)) (n:=(u.length:Int)) g10 g9 ?_
 refine dn ?_
 refine vS (vC (t:=decide ((i:Int)<(u.length:Int))) zE ?_ ?_)
 ·intro hlt
  have hlt':i<u.length:=by simpa using hlt
  refine vK ?_
  obtain ⟨q,o,s,rfl,hq,hk,hcs,hoc⟩:=hit i u[i] (List.getElem?_eq_getElem hlt')
  have hcsV:qb V q (o+i*2) [.int .u32 (u[i].1:Int),s]:=hcs.below (hbV.mono hU) hq
  have hocV:xM V U s u[i].2:=hoc.below (hbV.mono hU)
  refine vS (qh (vX ?_))
  refine qA (k:=.i64) (j:=i) (b:=q) (o:=o) (len:=u.length) (cap:=cap) (rB H.rUnks) zA zA hlt' ?_
  refine qf (b:=q) (o:=o+i*2) (cs:=[.int .u32 (u[i].1:Int),s]) zE H.aUnk hcsV ?_
  refine qI hz ?_
  refine qu (b:=V.heap.size) (o:=0) (cs:=[.int .u32 (u[i].1:Int),s]) zE zE (by intro v hv;simp only[List.mem_cons,List.not_mem_nil,or_false] at hv;rcases hv with rfl | rfl;rfl;exact hoc.one) H.aUnk ?_ ?_
  ·intro j hj
   rw[Nat.zero_add]
   exact qm V _ _ (by rw[hzc];simpa using hj)
  refine dn ?_
  have hcell:qb (setCells (V.alloc (.cells z.cells E.tUnk)) V.heap.size 0 [.int .u32 (u[i].1:Int),s]) V.heap.size 0 [.int .u32 (u[i].1:Int),s]:=by
   intro j v hv
   refine qg V.heap.size _ _ 0 (fun j hj=>?_) j _ hv
   rw[Nat.zero_add]
   exact (qm V z.cells E.tUnk (by rw[hzc];simpa using hj)).1
  have hb3:Below V.heap.size V (setCells (V.alloc (.cells z.cells E.tUnk)) V.heap.size 0 [.int .u32 (u[i].1:Int),s]):=by
   refine ((Below.refl V.heap.size V).alloc (o:=.cells _ _) (Nat.le_refl _)).trans ((qe V.heap.size _ _ 0).below zS (by rintro k i hk ⟨rfl,_,_⟩;omega))
  generalize setCells (V.alloc (.cells z.cells E.tUnk)) V.heap.size 0 [.int .u32 (u[i].1:Int),s]=V1 at hcell hb3 ⊢
  have hbV1:Below w.heap.size w V1:=hbV.trans (hb3.mono hbV.size)
  refine vX ?_
  refine qf (b:=V.heap.size) (o:=0) (cs:=[.int .u32 (u[i].1:Int),s]) zE H.aUnk hcell ?_
  refine q8 (args:=#[.agg [.int .u32 (u[i].1:Int),s].toArray]) ?_ (fits4_ok (k:=(u[i].1:Int)) H ht4 (hocV.below (hb3.mono (Nat.le_trans hU hbV.size)))) ?_
  ·simp only[lM]
   exact zE
  rintro v V2 ⟨⟨b,rfl⟩,hb4⟩
  have hbV2:Below w.heap.size w V2:=hbV1.trans (hb4.mono hbV1.size)
  refine zq (b:=b) zE ?_
  refine dn ?_
  refine vS (vC (t:=!b) zE ?_ ?_)
  ·intro _
   refine vX (rA (dn (vS (vT ?_))))
   exact ⟨by simp only[dF];exact hdB,.bool false,rO zE,⟨_,rfl⟩,hbV2⟩
  intro _
  refine vK (vN (vX ?_))
  refine xN (k:=.i64) (m:=(i:Int)) (n:=1) zA rfl ?_
  rw[wrap_i64 zH zH]
  refine rM (dn (vN ?_))
  generalize hG:Act.put _ (some 10) _=G
  have hsG:G.tmps.size=18:=by rw[← hG];simp only[zP];exact hsB
  have hdG:G.defers=[]:=by rw[← hG];simp only[dF];exact hdB
  have k8:G.eval (.tmp 8)=.slice (some ⟨q,o,none⟩) u.length cap:=by rw[← hG];exact zA
  have k9:G.eval (.tmp 9)=.int .i64 (u.length:Nat):=by rw[← hG];exact zA
  have k10:G.eval (.tmp 10)=.int .i64 ((i+1:Nat):Int):=by rw[← hG];simp (disch:=(try simp only[sP]);omega) only[eV];rfl
  clear hG
  refine ⟨⟨i+1,hlt',hsG,hdG,k8,k9,k10,hbV2⟩,?_⟩
  show u.length-(intOf _).toNat<u.length-(intOf _).toNat
  rw[k10,g10]
  simp only[intOf,Int.toNat_natCast]
  omega
 ·intro hge
  refine xb ?_
  simp only[Exit.then,Exit.inBlock,if_true]
  refine vN (vX (rA (dn (vS (vT ?_)))))
  exact ⟨by simp only[dF];exact hdB,.bool true,rO zE,⟨_,rfl⟩,hbV⟩
theorem gf (H:SEnv P E) {A:ML} (ht4:Text P A.fits4 1 7 #[.tmp 2] (vw E A)) (ht3:Text P A.fits3 1 18 #[.tmp 2] (gu E A)) (ht:Text P A.fits2 1 15 #[.tmp 2] (c_fits2 E A)) {t:Tr} {ts:List Value} (hr:t.Rep w U ts) (hU:U<=w.heap.size) (hul:∀ n s nl l u,t=.mk n s nl l u->u.length<=9223372036854775807):AnyB P A.fits2 #[.agg ts.toArray] w:=by
 cases t with
 | mk n s nl l u =>
 have hul:=hul n s nl l u rfl
 obtain ⟨sv,lv,uv,rfl,hs,hun,hl⟩:=hr
 obtain ⟨ad,cap,rfl,_,_⟩:=hs.form
 obtain ⟨lad,lcap,rfl⟩:∃ ad cap,lv=.slice ad l.len cap:=by
  rcases hl with ⟨⟨ad,cap,rfl⟩,h0⟩ | ⟨q,o,cap,rfl,_⟩
  ·exact ⟨_,_,by rw[h0]⟩
  ·exact ⟨_,_,rfl⟩
 refine qa.enter ht zS ?_
 intro a hsz hdf harg
 have e0:=harg 0 (.agg [.int .i64 n,.slice ad s.length cap,.bool nl,.slice lad l.len lcap,uv].toArray) zS
 unfold c_fits2
 refine vX ?_
 refine xI (v:=.agg [.int .i64 n,.slice ad s.length cap,.bool nl,.slice lad l.len lcap,uv].toArray) zA ?_
 refine rA (dn ?_)
 have hb1:Below w.heap.size w (w.alloc (.cells (Value.agg [.int .i64 n,.slice ad s.length cap,.bool nl,.slice lad l.len lcap,uv].toArray).cells E.tT)):=(Below.refl _ w).alloc (o:=.cells _ _) (Nat.le_refl _)
 have hcs:qb (w.alloc (.cells (Value.agg [.int .i64 n,.slice ad s.length cap,.bool nl,.slice lad l.len lcap,uv].toArray).cells E.tT)) w.heap.size 0 [.int .i64 n,.slice ad s.length cap,.bool nl,.slice lad l.len lcap,uv]:=by
  intro j v hv
  rw[Nat.zero_add]
  exact qs w _ E.tT (by simpa [Value.cells] using hv)
 generalize w.alloc (.cells (Value.agg [.int .i64 n,.slice ad s.length cap,.bool nl,.slice lad l.len lcap,uv].toArray).cells E.tT)=w1 at *
 refine vS (vX ?_)
 refine rF (b:=w.heap.size) (o:=0) zE (ql H.fTree (by decide)) ?_
 refine rL (b:=w.heap.size) (o:=0+1) zE H.oBytes (hcs 1 _ rfl) ?_
 refine x7 (ad:=ad) (n:=s.length) (c:=cap) (rB H.row) zE ?_
 refine ji (k:=.i64) (m:=(s.length:Int)) (n:=2147483647) zE rfl ?_
 refine dn ?_
 refine vS (vC (t:=decide ((s.length:Int)>2147483647)) zE ?_ ?_)
 ·intro h
  refine vX (rA (dn (vS (vT ?_))))
  exact ⟨by simp only[dF];exact hdf,.bool false,rO zE,⟨_,rfl⟩,hb1⟩
 intro _
 refine vK (vN (vS (vX ?_)))
 refine rF (b:=w.heap.size) (o:=0) zE (ql H.fTree (by decide)) ?_
 refine rL (b:=w.heap.size) (o:=0+3) zE H.oTrees (hcs 3 _ rfl) ?_
 refine x7 (ad:=lad) (n:=l.len) (c:=lcap) (rB H.rTrees) zE ?_
 refine ji (k:=.i64) (m:=(l.len:Int)) (n:=2147483647) zE rfl ?_
 refine dn ?_
 refine vS (vC (t:=decide ((l.len:Int)>2147483647)) zE ?_ ?_)
 ·intro h
  refine vX (rA (dn (vS (vT ?_))))
  exact ⟨by simp only[dF];exact hdf,.bool false,rO zE,⟨_,rfl⟩,hb1⟩
 intro _
 refine vK (vN (vS (vX ?_)))
 refine rF (b:=w.heap.size) (o:=0) zE (ql H.fTree (by decide)) ?_
 refine rL (b:=w.heap.size) (o:=0+4) zE H.oUnks (hcs 4 _ rfl) ?_
 refine q8 (args:=#[uv]) ?_ (fits3_ok H ht4 ht3 (hun.below (hb1.mono hU)) (Nat.le_trans hU hb1.size) hul) ?_
 ·simp only[lM]
  exact zE
 rintro v w2 ⟨⟨b,rfl⟩,hb2⟩
 have hb12:Below w.heap.size w w2:=hb1.trans (hb2.mono hb1.size)
 refine zq (b:=b) zE ?_
 refine dn ?_
 refine vS (vC (t:=!b) zE ?_ ?_)
 ·intro h
  refine vX (rA (dn (vS (vT ?_))))
  exact ⟨by simp only[dF];exact hdf,.bool false,rO zE,⟨_,rfl⟩,hb12⟩
 intro _
 refine vK (vN (vX (rA (dn (vS (vT ?_))))))
 exact ⟨by simp only[dF];exact hdf,.bool true,rO zE,⟨_,rfl⟩,hb12⟩
end
end Go.Km
namespace Go.Km
open Go Go.RowKit
attribute [local irreducible] vc rO_ qz qJ qF
structure Spd (m:Msg) (fs:SFs) (flex:Int) (mx:Nat):Prop where
 good:fs.good=true
 len:fs.len<=65536
 agr:m.fs.agr fs=true
 fx:∀ ver:Nat,ver<=mx->m.isFlex ver=(decide (flex ≥ 0)&&decide ((ver:Int) ≥ flex))
 lp:lpB m mx=true
 kept:m.kept=false
 mx:mx<32768
theorem isFlex_eq {m:Msg} {flex:Int} (h:(match m.flex with | none=>decide (flex<0) | some f=>decide (flex=(f:Int)))=true) (ver:Nat):m.isFlex ver=(decide (flex ≥ 0)&&decide ((ver:Int) ≥ flex)):=by
 unfold Msg.isFlex
 cases hm:m.flex with
 | none =>
  rw[hm] at h
  have h0:flex<0:=by simpa using h
  have h1:¬ (flex ≥ 0):=by omega
  simp[h1]
 | some f =>
  rw[hm] at h
  have h1:flex=(f:Int):=by simpa using h
  subst h1
  have h2:((f:Int) ≥ 0):=by omega
  simp only[h2,decide_true,Bool.true_and]
  by_cases h3:f<=ver
  ·have:((ver:Int) ≥ (f:Int)):=by omega
   simp[h3,this]
  ·have:¬ ((ver:Int) ≥ (f:Int)):=by omega
   simp[h3,this]
structure LawT (P:Program) (E:Env) (A:ML) (m:Msg) (fs:SFs) (flex:Int) (mx:Nat):Prop where
 se:SEnv P E
 sl:SLay P E
 st:STexts P E
 hz8:qK P E.tU8=some (.int .u8 0)
 hoM:offs P E.tMsg 2=true
 hM:z7 P E.tMsg=some 2
 ver:Text P E.lVersion 2 10 #[.tmp 4] (ky E)
 f4:Text P A.fits4 1 7 #[.tmp 2] (vw E A)
 f3:Text P A.fits3 1 18 #[.tmp 2] (gu E A)
 f2:Text P A.fits2 1 15 #[.tmp 2] (c_fits2 E A)
 max:∀ w,qa P A.implMax #[] w fun v w'=>v=.int .i64 mx/\Below w.heap.size w w'
 spec:SpecC P A.spec fs flex
 again:AgainC P E m A.again mx
def Tr.small (t:Tr):Prop:=∀ n s nl l u,t=.mk n s nl l u->u.length<=9223372036854775807
end Go.Km
namespace Go.Km
open Go Go.RowKit Go.ChangeShapes Go.WideShapes Go.ChangeAt
def vj (P:Program) (t:TypeId) (l:List (TypeId × Nat)):Bool :=
 match P.underlying t with
 | some (.struct fs)=>fs.toList.map (fun f=>(f.type,f.offset))==l
 | _=>false
theorem jg {P:Program} {t:TypeId} {l:List (TypeId × Nat)} (h:vj P t l=true) :
  ∃ fs:Array Field,P.underlying t=some (.struct fs)/\fs.size=l.length/\∀ (i:Nat) (p:TypeId × Nat),l[i]? = some p->∃ f:Field,fs[i]? = some f/\f.type=p.1/\f.offset=p.2:=by
 unfold vj at h
 split at h
 ·rename_i fs hu
  simp only[beq_iff_eq] at h
  refine ⟨fs,hu,by rw[← h];simp,fun i p hp=>?_⟩
  rw[← h,List.getElem?_map,Option.map_eq_some_iff] at hp
  obtain ⟨f,hf,rfl⟩:=hp
  exact ⟨f,by simpa using hf,rfl,rfl⟩
 ·cases h
structure TreeT (P:Program) (E:Env):Prop where
 tree:vj P E.tT [(E.tI64,0),(E.tB,1),(E.tO,2),(E.tS,3),(E.tK,4)]=true
 unk:vj P E.tUnk [(E.tW,0),(E.tB,1)]=true
 trees:P.underlying E.tS=some (.slice E.tT)
 unks:P.underlying E.tK=some (.slice E.tUnk)
 bytes:P.underlying E.tB=some (.slice E.tU8)
 u8:P.underlying E.tU8=some (.int .u8)
 i64:P.underlying E.tI64=some (.int .i64)
 u32:P.underlying E.tW=some (.int .u32)
 bool:P.underlying E.tO=some .bool
 cTree:P.cellsOf E.tT=5
 cUnk:P.cellsOf E.tUnk=2
 c8:P.cellsOf E.tU8=1
 c64:P.cellsOf E.tI64=1
 c32:P.cellsOf E.tW=1
 cBool:P.cellsOf E.tO=1
 cBytes:P.cellsOf E.tB=1
 cTrees:P.cellsOf E.tS=1
 cUnks:P.cellsOf E.tK=1
mutual
def Tr.wt:Tr->Nat
 | .mk _ s _ l u=>1+s.length+l.wt+(u.map fun x=>1+x.2.length).sum
def Trs.wt:Trs->Nat
 | .nil=>0
 | .cons t r=>t.wt+r.wt
end
structure Bulk {H:Type} (B:DataW H->Nat) (BA:List (DataW H)->Nat):Prop where
 agg:∀ l,B (.agg l)=BA l+1
 slice:∀ l r,B (.slice l r)=BA l+BA r+1
 nil:BA []=0
 cons:∀ d r,BA (d::r)=B d+BA r
 pos:∀ d,1<=B d
theorem Bulk.len {H:Type} {B:DataW H->Nat} {BA:List (DataW H)->Nat} (b:Bulk B BA):∀ l:List (DataW H),l.length<=BA l
 | []=>by simp
 | d::r=>by
  have h1:=b.len r
  have h2:=b.pos d
  rw[b.cons,List.length_cons]
  omega
theorem Bulk.sum {H α:Type} {B:DataW H->Nat} {BA:List (DataW H)->Nat} (b:Bulk B BA) {f:α->Nat}:∀ (l:List α) (es:List (DataW H × List MemPlace)),l.length=es.length->(∀ (i:Nat) (x:α) (y:DataW H × List MemPlace),l[i]? = some x->es[i]? = some y->f x<=B y.1)->(l.map f).sum<=BA (es.map (·.1))
 | [],es,_,_=>by simp
 | x::l,[],h,_=>by simp at h
 | x::l,y::es,h,hp=>by
  have h1:=b.sum l es (by simpa using h) (fun i x y hx hy=>hp (i+1) x y (by simpa using hx) (by simpa using hy))
  have h2:=hp 0 x y rfl rfl
  simp only[List.map_cons,List.sum_cons,b.cons]
  omega
section
variable {H : Type} {enc : TypeId × Value → H} {P : Program} {E : Env} {W : World} {sp : Nat → Bool} {held : Bool} {B : DataW H → Nat} {BA : List (DataW H) → Nat}
theorem cells_get {a:Addr} {n:Nat} {c:List Value} (h:W.cells? 0 a n=some c):c.length=n/\∀ j,j<n->W.cell? (a.add j)=c[j]?:=by
 unfold World.cells? at h
 rw[if_pos (Nat.zero_le _)] at h
 have h1:=mapM_some_length h
 refine ⟨by simpa using h1,fun j hj=>?_⟩
 exact mapM_some_get h j j (by simp[hj])
theorem spot_none {a:Addr} {v:Value} (h:W.cell? a=some v):a.spot=none:=by
 unfold World.cell? at h
 split at h
 ·split at h
  ·cases h
  ·rename_i h2;simpa using h2
 ·cases h
theorem cells_lit {q o n:Nat} {c:List Value} (h:∀ j,j<n->W.cell? ((⟨q,o,none⟩:Addr).add j)=c[j]?) (hc:c.length=n):qb W q o c:=by
 intro j v hv
 have hj:=(List.getElem?_eq_some_iff.1 hv).1
 have:=h j zH
 rw[Addr.add_lit] at this
 rw[this]
 exact hv
theorem trod_octs (T:TreeT P E) (b:Bulk B BA) {fuel:Nat} {c:List Value} {x:DataW H × List MemPlace} (h:DataW.trod enc P W 0 sp held fuel E.tB c=some x):∃ v l,c=[v]/\xM W W.heap.size v l/\l.length<=B x.1:=by
 rcases open_ints T.bytes T.u8 T.c8 h with ⟨rfl,_⟩ | ⟨a,len,cap,zs,rfl,_,hl,hm,hz,hx,hcell,hwz⟩
 ·exact ⟨_,[],rfl,.inl ⟨nilS,rfl⟩,Nat.zero_le _⟩
 have hzl:len<=zs.length:=by rw[hz];split<;>omega
 rcases Nat.eq_zero_or_pos len with rfl | hpos
 ·exact ⟨_,[],rfl,.inl ⟨⟨_,_,rfl⟩,rfl⟩,Nat.zero_le _⟩
 have h0:=hcell 0 zH
 rw[Addr.add_zero'] at h0
 obtain ⟨q,o,s⟩:=a
 have hsn:=spot_none h0
 simp only at hsn
 subst hsn
 have hlen:((zs.take len).map fun n=>UInt8.ofNat n.toNat).length=len:=by simp;omega
 have hbk:len<=B x.1:=by
  rw[hx]
  show len<=B (.slice _ _)
  rw[b.slice]
  have:=b.len (lits (H:=H) .u8 (zs.take len))
  have e:(lits (H:=H) .u8 (zs.take len)).length=len:=by simp[lits];omega
  omega
 refine ⟨_,(zs.take len).map fun n=>UInt8.ofNat n.toNat,rfl,.inr ⟨q,o,cap,by rw[hlen],by rw[hlen];exact hl,World.block_lt_of_cell? W _ h0,fun j u hu=>?_⟩,by rw[hlen];exact hbk⟩
 have hj:j<len:=by
  rcases Nat.lt_or_ge j len with h | h
  ·exact h
  ·rw[List.getElem?_eq_none (by simp;omega)] at hu;cases hu
 have hcj:=hcell j zH
 rw[Addr.add_lit] at hcj
 rw[hcj]
 have hb2:=range_u8 hwz j
 simp only[List.getElem?_map,List.getElem?_take,if_pos hj,List.getElem?_eq_getElem (show j<zs.length by omega),Option.map_some,Option.some.injEq] at hu
 subst hu
 have e:zs.getD j 0=zs[j]'zH:=by simp[List.getD,List.getElem?_eq_getElem (show j<zs.length by omega)]
 rw[e]
 rw[List.getD_eq_getElem?_getD] at e
 rw[e] at hb2
 simp only[bv,UInt8.toNat_ofNat']
 congr 2
 omega
theorem u32_nat' {a:Int} (h:(Lit.int .u32 a).wf=true):∃ n:Nat,a=(n:Int)/\n<4294967296:=by
 have h2:IntKind.u32.min<=a/\a<=IntKind.u32.max:=by
  simpa [Lit.wf] using h
 have e1:IntKind.u32.min=0:=by decide
 have e2:IntKind.u32.max=4294967295:=by decide
 rw[e1,e2] at h2
 exact ⟨a.toNat,by omega,by omega⟩
theorem trod_unk (T:TreeT P E) (b:Bulk B BA) {fuel:Nat} {c:List Value} {x:DataW H × List MemPlace} (h:DataW.trod enc P W 0 sp held fuel E.tUnk c=some x):∃ (k:Nat) (v:Value) (l:List UInt8),c=[.int .u32 (k:Int),v]/\k<4294967296/\xM W W.heap.size v l/\1+l.length<=B x.1:=by
 obtain ⟨fs,hu,hsz,hget⟩:=jg T.unk
 obtain ⟨xs,n,_,hx,hcl,hxl,hf⟩:=DataW.trod_struct hu h
 rw[T.cUnk] at hcl
 obtain ⟨c0,c1,rfl⟩:∃ c0 c1,c=[c0,c1]:=by
  match c,hcl with
  | [c0,c1],_=>exact ⟨c0,c1,rfl⟩
 obtain ⟨f0,h0,h1,h2⟩:=hget 0 _ rfl
 obtain ⟨f1,g0,g1,g2⟩:=hget 1 _ rfl
 have a0:=hf 0 f0 h0
 have a1:=hf 1 f1 g0
 rw[h1,h2,T.c32] at a0
 rw[g1,g2,T.cBytes] at a1
 rw[List.getElem?_eq_getElem (show 0<xs.length by rw[hxl,hsz];simp)] at a0
 rw[List.getElem?_eq_getElem (show 1<xs.length by rw[hxl,hsz];simp)] at a1
 obtain ⟨k,e0,_,hw⟩:=DataW.trod_int T.u32 a0
 obtain ⟨v,l,e1,ho,hbk⟩:=trod_octs T b a1
 obtain ⟨m,rfl,hm⟩:=u32_nat' hw
 have hxs:∃ x0 x1,xs=[x0,x1]:=by
  match xs,(show xs.length=2 by rw[hxl,hsz];rfl) with
  | [x0,x1],_=>exact ⟨x0,x1,rfl⟩
 obtain ⟨x0,x1,rfl⟩:=hxs
 have hB:1+l.length<=B x.1:=by
  rw[hx]
  show _<=B (.agg _)
  simp only[List.map_cons,List.map_nil,b.agg,b.cons,b.nil]
  have h3:l.length<=B x1.1:=hbk
  omega
 simp only[List.drop_zero,List.take_succ_cons,List.take_zero,List.cons.injEq,and_true] at e0
 simp only[List.drop_succ_cons,List.drop_zero,List.take_succ_cons,List.take_zero,List.cons.injEq,and_true] at e1
 subst e0 e1
 exact ⟨m,_,l,rfl,hm,ho,hB⟩
theorem list_of {α:Type} {p:Nat->α->Prop}:∀ {n:Nat},(∀ i,i<n->∃ x,p i x)->∃ l:List α,l.length=n/\∀ (i:Nat) (x:α),l[i]? = some x->p i x
 | 0,_=>⟨[],rfl,fun i x h=>by simp at h⟩
 | n+1,h=>by
  obtain ⟨l,hl,hp⟩:=list_of (fun i hi=>h i zH:∀ i,i<n->∃ x,p i x)
  obtain ⟨x,hx⟩:=h n zH
  refine ⟨l++[x],by simp[hl],fun i y hy=>?_⟩
  rcases Nat.lt_or_ge i n with hi | hi
  ·rw[List.getElem?_append_left zH] at hy
   exact hp i y hy
  ·rw[List.getElem?_append_right zH] at hy
   have:i-l.length=0:=by
    rcases Nat.eq_zero_or_pos (i-l.length) with h0 | h0
    ·exact h0
    ·rw[List.getElem?_eq_none (by simp;omega)] at hy;cases hy
   rw[this] at hy
   simp only[List.getElem?_cons_zero,Option.some.injEq] at hy
   subst hy
   have:i=n:=by omega
   subst this
   exact hx
theorem trod_items {t e:TypeId} {s:Nat} (ht:P.underlying t=some (.slice e)) (hc:P.cellsOf e=s) (hs:0<s) {fuel:Nat} {c:List Value} {x:DataW H × List MemPlace} (h:DataW.trod enc P W 0 sp held fuel t c=some x) :
  (∃ v,c=[v]/\NilS v)\/∃ (q o len cap n:Nat) (elems rest:List (DataW H × List MemPlace)),fuel=n+1/\c=[.slice (some ⟨q,o,none⟩) len cap]/\len<=cap/\q<W.heap.size/\x.1=.slice (elems.map (·.1)) (rest.map (·.1))/\elems.length=len ∧
   ∀ i,i<len->∃ (c:List Value) (y:DataW H × List MemPlace),elems[i]? = some y/\qb W q (o+i*s) c/\DataW.trod enc P W 0 sp held n e c=some y:=by
 rcases DataW.trod_slice ht h with ⟨rfl,_⟩ | ⟨a,len,cap,elems,rest,n,hn,rfl,hx,_,hl,_,hel,hget,_⟩
 ·exact .inl ⟨_,rfl,nilS⟩
 rw[hc] at hget
 have each:∀ i,i<len->∃ (c:List Value) (y:DataW H × List MemPlace),elems[i]? = some y/\W.cells? 0 (a.add (i*s)) s=some c/\DataW.trod enc P W 0 sp held n e c=some y:=fun i hi=>by
  have:=hget i hi
  rw[List.getElem?_eq_getElem zH] at this
  obtain ⟨c,h1,h2⟩:=Option.bind_eq_some_iff.1 this
  exact ⟨c,_,List.getElem?_eq_getElem zH,h1,h2⟩
 rcases Nat.eq_zero_or_pos len with rfl | hpos
 ·exact .inl ⟨_,rfl,_,_,rfl⟩
 obtain ⟨c0,y0,_,hc0,_⟩:=each 0 hpos
 obtain ⟨hl0,hg0⟩:=cells_get hc0
 have h00:=hg0 0 hs
 rw[Nat.zero_mul,Addr.add_zero',Addr.add_zero',List.getElem?_eq_getElem zH] at h00
 obtain ⟨q,o,sp'⟩:=a
 have hsn:=spot_none h00
 simp only at hsn
 subst hsn
 refine .inr ⟨q,o,len,cap,n,elems,rest,hn,rfl,hl,World.block_lt_of_cell? W _ h00,by rw[hx],hel,fun i hi=>?_⟩
 obtain ⟨c,y,h0,h1,h2⟩:=each i hi
 obtain ⟨h3,h4⟩:=cells_get h1
 rw[Addr.add_lit] at h4
 exact ⟨c,y,h0,cells_lit h4 h3,h2⟩
theorem trod_unks (T:TreeT P E) (b:Bulk B BA) {fuel:Nat} {c:List Value} {x:DataW H × List MemPlace} (h:DataW.trod enc P W 0 sp held fuel E.tK c=some x):∃ v u,c=[v]/\kD W W.heap.size v u/\(∀ x ∈ u,x.1<4294967296)/\(u.map fun x=>1+x.2.length).sum<=B x.1:=by
 rcases trod_items T.unks T.cUnk (by decide) h with ⟨v,rfl,hv⟩ | ⟨q,o,len,cap,n,elems,rest,_,rfl,hl,hq,hx,hel,hit⟩
 ·exact ⟨v,[],rfl,.inl ⟨hv,rfl⟩,by simp,by simp⟩
 obtain ⟨u,hul,hu⟩:=list_of (p:=fun i (x:Nat × List UInt8)=>(∃ sv,x.1<4294967296/\qb W q (o+i*2) [.int .u32 (x.1:Int),sv]/\xM W W.heap.size sv x.2)/\∀ y,elems[i]? = some y->1+x.2.length<=B y.1) (fun i hi=>by
  obtain ⟨c,y,h0,h1,h2⟩:=hit i hi
  obtain ⟨k,v,l,rfl,hk,ho,hb⟩:=trod_unk T b h2
  refine ⟨(k,l),⟨v,hk,h1,ho⟩,fun y' hy'=>?_⟩
  rw[h0] at hy'
  cases hy'
  exact hb)
 refine ⟨_,u,rfl,.inr ⟨q,o,cap,by rw[hul],by rw[hul];exact hl,hq,fun i x hx=>(hu i x hx).1⟩,fun x hx=>?_,?_⟩
 ·obtain ⟨i,hi⟩:=List.mem_iff_getElem?.1 hx
  obtain ⟨⟨_,h1,_⟩,_⟩:=hu i x hi
  exact h1
 ·have:=b.sum (f:=fun (x:Nat × List UInt8)=>1+x.2.length) u elems zH (fun i x y h1 h2=>(hu i x h1).2 y h2)
  rw[hx,b.slice]
  omega
def Trs.ofL:List Tr->Trs
 | []=>.nil
 | t::l=>.cons t (Trs.ofL l)
theorem Trs.ofL_len:∀ l:List Tr,(Trs.ofL l).len=l.length
 | []=>rfl
 | t::l=>by simp[Trs.ofL,Trs.len,Trs.ofL_len l]
theorem Trs.ofL_rep {U q:Nat}:∀ (l:List Tr) (o:Nat),(∀ (i:Nat) (t:Tr),l[i]? = some t->∃ c,qb W q (o+i*5) c/\t.Rep W U c)->(Trs.ofL l).Rep W U q o
 | [],_,_=>trivial
 | t::l,o,h=>by
  obtain ⟨c,h1,h2⟩:=h 0 t rfl
  refine ⟨⟨c,by simpa using h1,h2⟩,Trs.ofL_rep l (o+5) (fun i t ht=>?_)⟩
  obtain ⟨c,h3,h4⟩:=h (i+1) t (by simpa using ht)
  exact ⟨c,by rwa [show o+5+i*5=o+(i+1)*5 by omega],h4⟩
theorem Trs.ofL_wt:∀ l:List Tr,(Trs.ofL l).wt=(l.map Tr.wt).sum
 | []=>rfl
 | t::l=>by simp[Trs.ofL,Trs.wt,Trs.ofL_wt l]
theorem Trs.ofL_tok:∀ (l:List Tr),(∀ t ∈ l,t.tok)->(Trs.ofL l).tok
 | [],_=>trivial
 | t::l,h=>⟨h t zS,Trs.ofL_tok l (fun x hx=>h x (by simp[hx]))⟩
theorem trod_tree (T:TreeT P E) (b:Bulk B BA):∀ (fuel:Nat) (c:List Value) (x:DataW H × List MemPlace),DataW.trod enc P W 0 sp held fuel E.tT c=some x->∃ t:Tr,t.Rep W W.heap.size c/\t.tok/\t.wt<=B x.1:=by
 intro fuel
 induction fuel using Nat.strongRecOn with
 | ind fuel ih =>
  intro c x h
  obtain ⟨fs,hu,hsz,hget⟩:=jg T.tree
  obtain ⟨xs,n,hfn,hx,hcl,hxl,hf⟩:=DataW.trod_struct hu h
  rw[T.cTree] at hcl
  obtain ⟨c0,c1,c2,c3,c4,rfl⟩:∃ c0 c1 c2 c3 c4,c=[c0,c1,c2,c3,c4]:=by
   match c,hcl with
   | [c0,c1,c2,c3,c4],_=>exact ⟨c0,c1,c2,c3,c4,rfl⟩
  obtain ⟨f0,h00,h01,h02⟩:=hget 0 _ rfl
  obtain ⟨f1,h10,h11,h12⟩:=hget 1 _ rfl
  obtain ⟨f2,h20,h21,h22⟩:=hget 2 _ rfl
  obtain ⟨f3,h30,h31,h32⟩:=hget 3 _ rfl
  obtain ⟨f4,h40,h41,h42⟩:=hget 4 _ rfl
  have a0:=hf 0 f0 h00
  have a1:=hf 1 f1 h10
  have a2:=hf 2 f2 h20
  have a3:=hf 3 f3 h30
  have a4:=hf 4 f4 h40
  rw[h01,h02,T.c64,List.getElem?_eq_getElem (show 0<xs.length by rw[hxl,hsz];simp)] at a0
  rw[h11,h12,T.cBytes,List.getElem?_eq_getElem (show 1<xs.length by rw[hxl,hsz];simp)] at a1
  rw[h21,h22,T.cBool,List.getElem?_eq_getElem (show 2<xs.length by rw[hxl,hsz];simp)] at a2
  rw[h31,h32,T.cTrees,List.getElem?_eq_getElem (show 3<xs.length by rw[hxl,hsz];simp)] at a3
  rw[h41,h42,T.cUnks,List.getElem?_eq_getElem (show 4<xs.length by rw[hxl,hsz];simp)] at a4
  obtain ⟨k,e0,_,_⟩:=DataW.trod_int T.i64 a0
  obtain ⟨sv,s,e1,hs,hsB⟩:=trod_octs T b a1
  obtain ⟨nb,e2,_⟩:=DataW.trod_bool T.bool a2
  obtain ⟨uv,u,e4,hun,htok,huB⟩:=trod_unks T b a4
  have hxs:∃ x0 x1 x2 x3 x4,xs=[x0,x1,x2,x3,x4]:=by
   match xs,(show xs.length=5 by rw[hxl,hsz];rfl) with
   | [x0,x1,x2,x3,x4],_=>exact ⟨x0,x1,x2,x3,x4,rfl⟩
  obtain ⟨x0,x1,x2,x3,x4,rfl⟩:=hxs
  have hsB':s.length<=B x1.1:=hsB
  have huB':(u.map fun x=>1+x.2.length).sum<=B x4.1:=huB
  have hxB:B x0.1+(B x1.1+(B x2.1+(B x3.1+B x4.1)))+1=B x.1:=by
   rw[hx]
   show _=B (.agg _)
   simp only[List.map_cons,List.map_nil,b.agg,b.cons,b.nil,Nat.add_zero]
  simp only[List.drop_zero,List.drop_succ_cons,List.take_succ_cons,List.take_zero,List.cons.injEq,and_true] at e0 e1 e2 e4
  subst e0 e1 e2 e4
  simp only[List.drop_zero,List.drop_succ_cons,List.take_succ_cons,List.take_zero] at a3
  rcases trod_items T.trees T.cTree (by decide) a3 with ⟨v,e3,hv⟩ | ⟨q,o,len,cap,m,elems,rest,hm,e3,hl,hq,hx3,hel,hit⟩
  ·simp only[List.cons.injEq,and_true] at e3
   subst e3
   refine ⟨.mk k s nb .nil u,⟨c1,c3,c4,rfl,hs,hun,.inl ⟨hv,rfl⟩⟩,⟨htok,trivial⟩,?_⟩
   simp only[Tr.wt,Trs.wt]
   omega
  ·simp only[List.cons.injEq,and_true] at e3
   subst e3
   obtain ⟨l,hll,hlt⟩:=list_of (p:=fun i (t:Tr)=>(∃ c,qb W q (o+i*5) c/\t.Rep W W.heap.size c)/\t.tok/\∀ y,elems[i]? = some y->t.wt<=B y.1) (fun i hi=>by
    obtain ⟨c,y,h0,h1,h2⟩:=hit i hi
    obtain ⟨t,h3,h4,h5⟩:=ih m zH c y h2
    refine ⟨t,⟨c,h1,h3⟩,h4,fun y' hy'=>?_⟩
    rw[h0] at hy'
    cases hy'
    exact h5)
   refine ⟨.mk k s nb (Trs.ofL l) u,⟨c1,_,c4,rfl,hs,hun,.inr ⟨q,o,cap,by rw[Trs.ofL_len,hll],by rw[Trs.ofL_len,hll];exact hl,hq,Trs.ofL_rep l o (fun i t ht=>(hlt i t ht).1)⟩⟩,⟨htok,Trs.ofL_tok l (fun t ht=>?_)⟩,?_⟩
   ·obtain ⟨i,hi⟩:=List.mem_iff_getElem?.1 ht
    exact (hlt i t hi).2.1
   ·have h6:=b.sum (f:=Tr.wt) l elems zH (fun i x y h1 h2=>(hlt i x h1).2.2 y h2)
    have h7:BA (elems.map (·.1))+1<=B x3.1:=by
     have hx3':x3.1=.slice (elems.map (·.1)) (rest.map (·.1)):=hx3
     rw[hx3',b.slice]
     omega
    simp only[Tr.wt,Trs.ofL_wt]
    omega
end
end Go.Km
namespace Go.Km
open Go Go.RowKit Go.ChangeShapes Go.WideShapes Go.ChangeAt
theorem uvF_max:∀ (f n:Nat),(uvF f n).length<=f+1
 | 0,n=>by simp[uvF]
 | f+1,n=>by
  have:=uvF_max f (n / 128)
  unfold uvF
  split
  ·simp
  ·simp only[List.length_cons];omega
theorem jJ (n:Nat):(Go.Km.uvar n).length<=10:=uvF_max 9 n
theorem Scal.wr_width (s:Scal) (n:Int):(s.wr n).length=s.width:=by
 cases s<;>simp[Scal.wr,Scal.width,qG]
mutual
def Ty.cost:Ty->Nat
 | .scal s _ | .named s _ _=>s.width
 | .uuid=>16
 | .text | .ntext | .ntextFrom _ | .bytes | .nbytes=>11
 | .list _ _ e=>10+e.cost
 | .struct _ _ _ fs=>fs.cost
 | .nstruct _ _ _ _ _=>1
def Flds.cost:Flds->Nat
 | .nil _=>20
 | .cons v ty r=>(if v.isTag then 20 else 0)+ty.cost+r.cost
end
theorem vg (fx:Bool) (l:List UInt8):(xS fx l).length<=10+l.length:=by
 have:=jJ (l.length+1)
 cases fx<;>simp[xS,qG]<;>omega
theorem wrBytes_max (fx:Bool) (l:List UInt8):(xa fx l).length<=10+l.length:=by
 have:=jJ (l.length+1)
 cases fx<;>simp[xa,qG]<;>omega
theorem wrLen_max (fx:Bool) (n:Nat):(zg fx n).length<=10:=by
 have:=jJ (n+1)
 cases fx<;>simp[zg,qG]<;>omega
theorem wrNull_max (fx:Bool):(j7 fx).length<=10:=by
 cases fx<;>simp[j7,qG]
theorem Tr.wt_pos (t:Tr):1<=t.wt:=by
 cases t;simp only[Tr.wt];omega
theorem Tr.wt_s (t:Tr):1+t.s.length<=t.wt:=by
 cases t;simp only[Tr.wt,Tr.s];omega
theorem Trs.wt_get:∀ {l:Trs} {i:Nat} {t:Tr},l.get i=some t->t.wt<=l.wt
 | .nil,_,_,h=>by cases h
 | .cons t r,0,u,e=>by
  simp only[Trs.get,Option.some.injEq] at e
  subst e
  simp only[Trs.wt];omega
 | .cons t r,i+1,u,e=>by
  have:=Trs.wt_get (l:=r) e
  simp only[Trs.wt];omega
theorem Tr.wt_at (t:Tr) (i:Nat):(t.at i).wt<=t.wt:=by
 have hp:=t.wt_pos
 cases t with
 | mk n s nl l u =>
  simp only[Tr.at]
  cases hg:l.get i with
  | none=>exact hp
  | some x =>
   have:=Trs.wt_get hg
   simp only[Option.getD_some,Tr.wt]
   omega
theorem Trs.wt_toL:∀ l:Trs,(l.toL.map Tr.wt).sum=l.wt
 | .nil=>rfl
 | .cons t r=>by simp[Trs.toL,Trs.wt,Trs.wt_toL r]
theorem Tr.wt_l (t:Tr):1+(t.l.map Tr.wt).sum<=t.wt:=by
 cases t with
 | mk n s nl l u =>
  simp only[Tr.l,Trs.wt_toL,Tr.wt]
  omega
theorem sum_take (f:Tr->Nat):∀ (k:Nat) (l:List Tr),((l.take k).map f).sum<=(l.map f).sum
 | 0,l=>by simp
 | k+1,[]=>by simp
 | k+1,x::l=>by
  have:=sum_take f k l
  simp only[List.take_succ_cons,List.map_cons,List.sum_cons]
  omega
theorem flat_cost {g:Tr->List UInt8} {c:Nat}:∀ (l:List Tr),(∀ t ∈ l,(g t).length<=c*t.wt)->((l.map g).flatten).length<=c*(l.map Tr.wt).sum
 | [],_=>by simp
 | t::l,h=>by
  have h1:=h t zS
  have h2:=flat_cost l (fun x hx=>h x (by simp[hx]))
  simp only[List.map_cons,List.flatten_cons,List.length_append,List.sum_cons,Nat.mul_add]
  omega
def zi (u:List (Nat × List UInt8)):Nat:=(u.map fun x=>1+x.2.length).sum
theorem xZ (x:Nat × List UInt8) (l:List (Nat × List UInt8)):zi (x::l)=1+x.2.length+zi l:=by simp[zi]
theorem insU_wt (x:Nat × List UInt8):∀ l,zi (zm x l)<=1+x.2.length+zi l
 | []=>by simp[zm,zi]
 | z::r=>by
  have:=insU_wt x r
  unfold zm
  split
  ·rw[xZ,xZ];omega
  ·split
   ·rw[xZ];omega
   ·rw[xZ,xZ];omega
theorem unk_wt (least:Nat):∀ (u acc:List (Nat × List UInt8)),zi (u.foldl (fun l x=>if x.1<least then l else zm x l) acc)<=zi acc+zi u
 | [],acc=>by simp[zi]
 | x::u,acc=>by
  simp only[List.foldl_cons]
  have h1:=unk_wt least u (if x.1<least then acc else zm x acc)
  have h2:zi (if x.1<least then acc else zm x acc)<=1+x.2.length+zi acc:=by
   split
   ·omega
   ·exact insU_wt x acc
  rw[xZ]
  omega
theorem tagWt_take:∀ (k:Nat) (u:List (Nat × List UInt8)),zi (u.take k)<=zi u
 | 0,u=>by simp[zi]
 | k+1,[]=>by simp[zi]
 | k+1,x::u=>by
  have:=tagWt_take k u
  rw[List.take_succ_cons,xZ,xZ]
  omega
theorem tags_cost:∀ (l:List (Nat × List UInt8)),((l.map qT).flatten).length<=20*zi l
 | []=>by simp[zi]
 | x::l=>by
  have h1:=tags_cost l
  have h2:=jJ x.1
  have h3:=jJ x.2.length
  simp only[List.map_cons,List.flatten_cons,List.length_append,qT,xZ]
  omega
theorem tagWt_map:∀ (u:List (Nat × List UInt8)),zi (u.map fun x=>(x.1,x.2.take 32767))<=zi u
 | []=>by simp[zi]
 | x::u=>by
  have h1:=tagWt_map u
  have h2:(x.2.take 32767).length<=x.2.length:=by rw[List.length_take];omega
  rw[List.map_cons,xZ,xZ]
  show 1+(x.2.take 32767).length+_<=_
  omega
theorem vO (kn:Nat) (fx:Bool) (t:Tr):10+zu (zh kn fx t)<=20*t.wt:=by
 cases t with
 | mk n s nl l u =>
  have h9:(Tr.mk n s nl l u).wt=1+s.length+l.wt+zi u:=by simp[Tr.wt,zi]
  cases fx with
  | false =>
   have:zu (zh kn false (.mk n s nl l u))=0:=by simp[zh,zu]
   omega
  | true =>
   have h2:=tags_cost (zh kn true (.mk n s nl l u))
   have h3:zi (zh kn true (.mk n s nl l u))<=zi u:=by
    have e:zh kn true (.mk n s nl l u)=(unk kn u).map (fun x=>(x.1,x.2.take 32767)):=rfl
    rw[e]
    have h4:=unk_wt kn (u.take 32767) []
    have h5:=tagWt_take 32767 u
    have h6:=tagWt_map (unk kn u)
    have h7:zi ([]:List (Nat × List UInt8))=0:=rfl
    have h8:zi (unk kn u)=zi ((u.take 32767).foldl (fun l x=>if x.1<kn then l else zm x l) []):=rfl
    omega
   unfold zu
   omega
mutual
theorem Ty.wr_cost (fx:Bool) (ver:Nat):∀ (ty:Ty) (kind nul el:Int) (sub:SFs) (nl:Bool) (t:Tr),ty.agr kind nul el sub=true->(ty.wr fx ver (ty.toD fx ver sub nl t)).length<=ty.cost*t.wt
 | .scal s _,kind,nul,el,sub,nl,t,h | .named s _ _,kind,nul,el,sub,nl,t,h=>by
  simp only[Ty.toD,Ty.wr,Ty.cost,s.wr_width]
  exact Nat.le_mul_of_pos_right _ t.wt_pos
 | .uuid,kind,nul,el,sub,nl,t,h=>by
  have:=t.wt_pos
  simp only[Ty.toD,Ty.wr,Ty.cost,List.length_append,List.length_take,List.length_replicate]
  omega
 | .text,kind,nul,el,sub,nl,t,h=>by
  have h1:=t.wt_s
  simp only[Ty.toD,Ty.wr,Ty.cost]
  have h2:=vg fx (if nl=true then [] else t.s.take 32767)
  have h3:(if nl=true then [] else t.s.take 32767).length<=t.s.length:=by
   split
   ·simp
   ·rw[List.length_take];omega
  omega
 | .bytes,kind,nul,el,sub,nl,t,h=>by
  have h1:=t.wt_s
  simp only[Ty.toD,Ty.wr,Ty.cost,Option.getD_some]
  have h2:=wrBytes_max fx (if nl=true then [] else t.s.take 32767)
  have h3:(if nl=true then [] else t.s.take 32767).length<=t.s.length:=by
   split
   ·simp
   ·rw[List.length_take];omega
  omega
 | .ntext,kind,nul,el,sub,nl,t,h=>by
  have h1:=t.wt_s
  simp only[Ty.toD,Ty.wr,Ty.cost]
  cases nl with
  | true=>cases fx<;>simp[xK,qG]<;>omega
  | false =>
   have h2:=vg fx (t.s.take 32767)
   have h3:(t.s.take 32767).length<=t.s.length:=by rw[List.length_take];omega
   simp only[Bool.false_eq_true,if_false,xK]
   omega
 | .nbytes,kind,nul,el,sub,nl,t,h=>by
  have h1:=t.wt_s
  simp only[Ty.toD,Ty.wr,Ty.cost]
  cases nl with
  | true=>cases fx<;>simp[xj,qG]<;>omega
  | false =>
   have h2:=wrBytes_max fx (t.s.take 32767)
   have h3:(t.s.take 32767).length<=t.s.length:=by rw[List.length_take];omega
   simp only[Bool.false_eq_true,if_false,xj]
   omega
 | .ntextFrom N,kind,nul,el,sub,nl,t,h=>by
  have h1:=t.wt_s
  simp only[Ty.toD,Ty.wr,Ty.cost]
  have h0:=vg fx []
  simp only[List.length_nil] at h0
  cases nl with
  | true =>
   simp only[if_true,Option.getD_none]
   split
   ·omega
   ·cases fx<;>simp[xK,qG]<;>omega
  | false =>
   have h2:=vg fx (t.s.take 32767)
   have h3:(t.s.take 32767).length<=t.s.length:=by rw[List.length_take];omega
   simp only[Bool.false_eq_true,if_false,xK,Option.getD_some]
   split<;>omega
 | .list TS null e,kind,nul,el,sub,nl,t,h=>by
  simp only[Ty.agr,Bool.and_eq_true,beq_iff_eq,bne_iff_ne,ne_eq] at h
  obtain ⟨⟨⟨rfl,hnul⟩,hel⟩,he⟩:=h
  have h1:=t.wt_l
  have hp:=t.wt_pos
  have hc:10+e.cost*0<=(10+e.cost)*t.wt:=by
   have:=Nat.mul_le_mul (Nat.le_add_right 10 e.cost) hp
   omega
  simp only[Ty.toD,Ty.cost]
  split
  ·simp only[Ty.wr]
   have h2:=wrNull_max fx
   have h3:=wrLen_max fx 0
   split<;>omega
  ·simp only[Ty.wr,List.length_map,List.map_map,List.length_append]
   have h2:=wrLen_max fx (t.l.take 32767).length
   have h3:=flat_cost (g:=(fun d=>e.wr fx ver d) ∘ fun t=>e.toD fx ver sub false t) (c:=e.cost) (t.l.take 32767) (fun x _=>Ty.wr_cost fx ver e el (-1) 0 sub false x he)
   have h4:=Nat.mul_le_mul (Nat.le_refl e.cost) (Nat.le_trans (sum_take Tr.wt 32767 t.l) (show (t.l.map Tr.wt).sum<=t.wt by omega))
   rw[Nat.add_mul]
   omega
 | .nstruct _ _ _ _ _,kind,nul,el,sub,nl,t,h=>by simp[Ty.agr] at h
 | .struct TP TU F fs,kind,nul,el,sub,nl,t,h=>by
  simp only[Ty.agr,Bool.and_eq_true,beq_iff_eq,decide_eq_true_eq] at h
  simp only[Ty.toD,Ty.wr,Ty.cost]
  exact Flds.wr_cost fx ver fs sub 0 t 0 _ 0 h.2 (fun _=>vO _ _ _)
theorem Flds.wr_cost (fx:Bool) (ver:Nat):∀ (fs:Flds) (sub:SFs) (i:Nat) (t:Tr) (m:Nat) (tags:List (Nat × List UInt8)) (K:Nat),fs.agr sub m=true->(fx=true->10+zu tags<=20*t.wt+K)->(fs.wr fx ver (fs.toD fx ver sub i t) tags).length<=fs.cost*t.wt+K
 | .nil _,.nil,i,t,m,tags,K,h,hK=>by
  simp only[Flds.wr,Flds.cost]
  cases fx with
  | false=>simp
  | true =>
   have h1:=jJ tags.length
   have h2:=hK rfl
   simp only[if_true,zQ,List.length_append]
   unfold zu at h2
   omega
 | .nil _,.cons _ _,i,t,m,tags,K,h,hK=>by simp[Flds.agr] at h
 | .cons _ _ _,.nil,i,t,m,tags,K,h,hK=>by simp[Flds.agr] at h
 | .cons v ty r,.cons (.mk kind fr to nul tag df el sub) rs,i,t,m,tags,K,h,hK=>by
  simp only[Flds.agr,Bool.and_eq_true] at h
  have h2:=Ty.wr_cost fx ver ty kind nul el sub ((SF.mk kind fr to nul tag df el sub).isNull ver (t.at i)) (t.at i) h.1.2
  have h3:=Nat.mul_le_mul (Nat.le_refl ty.cost) (Tr.wt_at t i)
  have h4:(SF.mk kind fr to nul tag df el sub).subs=sub:=rfl
  have hp:=t.wt_pos
  simp only[Flds.toD,Flds.wr,Flds.cost,List.length_append,Nat.add_mul]
  cases hv:v.isTag with
  | false =>
   rw[Ver.addTag_no hv]
   have h1:=Flds.wr_cost fx ver r rs (i+1) t _ tags K h.2 hK
   cases hh:v.has ver with
   | false=>simp only[Bool.false_eq_true,if_false,List.length_nil];omega
   | true =>
    simp only[if_true,Bool.true_or]
    rw[h4]
    omega
  | true =>
   cases v with
   | tag k lb =>
    simp only[Ver.has,Bool.false_eq_true,if_false,List.length_nil,if_true,Ver.addTag,Ver.isTag,Bool.false_or,Bool.true_and]
    cases fx with
    | false =>
     simp only[Bool.false_and,Bool.false_eq_true,if_false]
     have h1:=Flds.wr_cost false ver r rs (i+1) t _ tags K h.2 (fun h=>by cases h)
     omega
    | true =>
     have hK:=hK rfl
     simp only[if_true,Bool.true_and]
     generalize hdd:Ty.toD true ver ty (SF.mk kind fr to nul tag df el sub).subs ((SF.mk kind fr to nul tag df el sub).isNull ver (t.at i)) (t.at i)=d at *
     have hd2:(ty.wr true ver d).length<=ty.cost*(t.at i).wt:=by
      rw[← hdd,h4]
      exact h2
     cases ty.isD d with
     | true =>
      simp only[Bool.not_true,Bool.false_eq_true,if_false]
      have h1:=Flds.wr_cost true ver r rs (i+1) t _ tags K h.2 (fun _=>hK)
      omega
     | false =>
      simp only[Bool.not_false,if_true]
      have hs:=vQ k (ty.wr true ver d) tags
      have u1:=jJ k
      have u2:=jJ (ty.wr true ver d).length
      have hw:(qT (k,ty.wr true ver d)).length=(Go.Km.uvar k).length+(Go.Km.uvar (ty.wr true ver d).length).length+(ty.wr true ver d).length:=by simp only[qT,List.length_append]
      have h1:=Flds.wr_cost true ver r rs (i+1) t _ (qv k (ty.wr true ver d) tags) (K+(20*t.wt+ty.cost*t.wt)) h.2 (fun _=>by omega)
      omega
   | _=>cases hv
end
theorem part_big {fx:Bool} {ver:Nat} {fs:Flds} {sf:SFs} (h:fs.agr sf=true) (hc:fs.cost<=2047) {t:Tr} (ht:t.wt<=1048576):(sf.part ver fx t).length<=big:=by
 rw[wR h]
 refine Nat.le_trans (Flds.wr_cost fx ver fs sf 0 t 0 _ 0 h (fun _=>vO _ _ _)) (Nat.le_trans (Nat.mul_le_mul hc ht) ?_)
 unfold big
 omega
theorem tags_small {t:Tr} (ht:t.wt<=1048576):∀ n s nl l u,t=.mk n s nl l u->u.length<=9223372036854775807:=by
 rintro n s nl l u rfl
 have h:∀ u:List (Nat × List UInt8),u.length<=(u.map fun x=>1+x.2.length).sum:=fun u=>by
  induction u with
  | nil=>simp
  | cons x u ih=>simp only[List.length_cons,List.map_cons,List.sum_cons];omega
 have:=h u
 simp only[Tr.wt] at ht
 omega
theorem u16_nat' {a:Int} (h:(Lit.int .u16 a).wf=true):∃ n:Nat,a=(n:Int)/\n<65536:=by
 have h2:IntKind.u16.min<=a/\a<=IntKind.u16.max:=by
  simpa [Lit.wf] using h
 have e1:IntKind.u16.min=0:=by decide
 have e2:IntKind.u16.max=65535:=by decide
 rw[e1,e2] at h2
 exact ⟨a.toNat,by omega,by omega⟩
section
variable {H : Type} {enc : TypeId × Value → H} {P : Program} {E : Env} {B : DataW H → Nat} {BA : List (DataW H) → Nat}
theorem open_tree (T:TreeT P E) (b:Bulk B BA) {W:World} {base:Nat} {v:Value} {d:DataW H} {p:List MemPlace} (hval:Value.okWide P W .any base E.tT v) (h:DataW.Trod enc P W 0 (fun _=>true) true E.tT v d p) :
  ∃ (ts:List Value) (t:Tr),v=.agg ts.toArray/\t.Rep W W.heap.size ts/\t.tok/\t.wt<=B d:=by
 obtain ⟨fs,hu,_⟩:=jg T.tree
 unfold Value.okWide at hval
 rw[hu] at hval
 obtain ⟨cs,rfl,_⟩:=hval
 obtain ⟨fuel,hf⟩:=h
 obtain ⟨t,h1,h2,h3⟩:=trod_tree T b fuel _ _ hf
 exact ⟨cs.toList,t,by simp,h1,h2,h3⟩
theorem againRow (T:TreeT P E) (b:Bulk B BA) {f:Func} {L:FuncId} {s:ChangeSpec} {apart:Bool} {tb:TypeId} (hp:f.params=#[E.tU8,E.tT]) (hrt:f.resultTypes=#[tb]) (hub:P.underlying tb=some .bool) (hvars:s.vars=[]) (hfn:∀ d1 d2:DataW H,s.fn H [d1,d2]={ results:=[.lit (.bool true)],args:=[d1,d2] })
  (hl:laidOutB P=true) (hr8:P.readableRec E.tU8=true/\E.tU8<P.types.size) (hrT:P.readableRec E.tT=true/\E.tT<P.types.size)
  {W:World} {base:Nat} {args:Array Value} {ds gs:List (DataW H)} {before:List MemPlace} (hbk:BA (ds++gs)<=1048576)
  (walk:∀ n:Nat,n<256->∀ (t:Tr) (ts:List Value),t.Rep W W.heap.size ts->t.tok->t.wt<=1048576->qa P L #[.int .u8 n,.agg ts.toArray] W fun v w'=>v=.bool true/\Below W.heap.size W w')
  (hval:∀ (j:Nat) t v,f.params[j]? = some t->args[j]? = some v->Value.okWide P W .any base t v) (hW:DataW.Whole enc P f.params.toList s.vars apart W args.toList ds gs before) :
  Calls P L args W fun e W'=>∃ v,e=.returned v/\s.post enc P f apart true false false W args v W':=by
 have hW':=hW
 obtain ⟨p,q,hA,hV,rfl,_,_⟩:=hW
 rw[hp] at hA hval
 obtain ⟨v0,vs0,d0,ds0,p0,q0,hargs,rfl,rfl,h0,r0⟩:=trodAll_cons hA
 obtain ⟨v1,vs1,d1,ds1,p1,q1,rfl,rfl,rfl,h1,r1⟩:=trodAll_cons r0
 obtain ⟨rfl,rfl,rfl⟩:=trodAll_nil r1
 obtain rfl:args=#[v0,v1]:=by cases args;simp_all
 obtain ⟨a,rfl,rfl,rfl,wa⟩:=open_int T.u8 (hval 0 _ v0 rfl rfl) h0
 obtain ⟨ts,t,rfl,hr,htk,hwt⟩:=open_tree T b (hval 1 _ v1 rfl rfl) h1
 obtain ⟨n,rfl,hn⟩:=u8_nat' wa
 have hd:B d1<=1048576:=by
  simp only[List.cons_append,List.nil_append,b.cons] at hbk
  omega
 refine (walk n hn t ts hr htk (Nat.le_trans hwt hd)).2.mono ?_
 rintro e W' ⟨v,rfl,rfl,hb⟩
 refine ⟨_,rfl,kA hW' hvars hl ?_ hb hrt hub (hfn _ _)⟩
 rw[hp]
 intro t ht
 simp only[List.mem_cons,List.not_mem_nil,or_false] at ht
 rcases ht with rfl | rfl
 ·exact hr8
 ·exact hrT
theorem cutRow (T:TreeT P E) (b:Bulk B BA) {f:Func} {L:FuncId} {s:ChangeSpec} {apart:Bool} {tb:TypeId} (hp:f.params=#[E.tU8,E.tT,E.tU16]) (hrt:f.resultTypes=#[tb]) (hub:P.underlying tb=some .bool) (hvars:s.vars=[]) (hfn:∀ d1 d2 d3:DataW H,s.fn H [d1,d2,d3]={ results:=[.lit (.bool true)],args:=[d1,d2,d3] })
  (hl:laidOutB P=true) (hr8:P.readableRec E.tU8=true/\E.tU8<P.types.size) (hrT:P.readableRec E.tT=true/\E.tT<P.types.size) (hr16:P.readableRec E.tU16=true/\E.tU16<P.types.size) (hu16:P.underlying E.tU16=some (.int .u16))
  {W:World} {base:Nat} {args:Array Value} {ds gs:List (DataW H)} {before:List MemPlace} (hbk:BA (ds++gs)<=1048576)
  (walk:∀ n k:Nat,n<256->k<65536->∀ (t:Tr) (ts:List Value),t.Rep W W.heap.size ts->t.tok->t.wt<=1048576->qa P L #[.int .u8 n,.agg ts.toArray,.int .u16 k] W fun v w'=>v=.bool true/\Below W.heap.size W w')
  (hval:∀ (j:Nat) t v,f.params[j]? = some t->args[j]? = some v->Value.okWide P W .any base t v) (hW:DataW.Whole enc P f.params.toList s.vars apart W args.toList ds gs before) :
  Calls P L args W fun e W'=>∃ v,e=.returned v/\s.post enc P f apart true false false W args v W':=by
 have hW':=hW
 obtain ⟨p,q,hA,hV,rfl,_,_⟩:=hW
 rw[hp] at hA hval
 obtain ⟨v0,vs0,d0,ds0,p0,q0,hargs,rfl,rfl,h0,r0⟩:=trodAll_cons hA
 obtain ⟨v1,vs1,d1,ds1,p1,q1,rfl,rfl,rfl,h1,r1⟩:=trodAll_cons r0
 obtain ⟨v2,vs2,d2,ds2,p2,q2,rfl,rfl,rfl,h2,r2⟩:=trodAll_cons r1
 obtain ⟨rfl,rfl,rfl⟩:=trodAll_nil r2
 obtain rfl:args=#[v0,v1,v2]:=by cases args;simp_all
 obtain ⟨a,rfl,rfl,rfl,wa⟩:=open_int T.u8 (hval 0 _ v0 rfl rfl) h0
 obtain ⟨ts,t,rfl,hr,htk,hwt⟩:=open_tree T b (hval 1 _ v1 rfl rfl) h1
 obtain ⟨c,rfl,rfl,rfl,wc⟩:=open_int hu16 (hval 2 _ v2 rfl rfl) h2
 obtain ⟨n,rfl,hn⟩:=u8_nat' wa
 obtain ⟨k,rfl,hk⟩:=u16_nat' wc
 have hd:B d1<=1048576:=by
  simp only[List.cons_append,List.nil_append,b.cons] at hbk
  omega
 refine (walk n k hn hk t ts hr htk (Nat.le_trans hwt hd)).2.mono ?_
 rintro e W' ⟨v,rfl,rfl,hb⟩
 refine ⟨_,rfl,kA hW' hvars hl ?_ hb hrt hub (hfn _ _ _)⟩
 rw[hp]
 intro t ht
 simp only[List.mem_cons,List.not_mem_nil,or_false] at ht
 rcases ht with rfl | rfl | rfl
 ·exact hr8
 ·exact hrT
 ·exact hr16
end
end Go.Km
namespace Go.Km
open Go Go.RowKit
theorem vb.nil {P:Program}:vb P []:=fun f h=>by simp at h
theorem vb.none {P:Program} {f:SF} {l:List FE} (h:f.sub=.nil) (r:vb P l):vb P ((f,none)::l):=by
 intro x hx
 rcases List.mem_cons.1 hx with rfl | hx
 ·exact h
 ·exact r x hx
theorem vb.some {P:Program} {f:SF} {g:FuncId} {l:List FE} (h:LitC P g f.sub) (r:vb P l):vb P ((f,some g)::l):=by
 intro x hx
 rcases List.mem_cons.1 hx with rfl | hx
 ·exact h
 ·exact r x hx
end Go.Km
namespace Go.Km
open Go Go.RowKit
section
variable {P : Program} {a : Act} {w : World} {Q : Exit → Act → World → Prop} {ops : List Oper} {S : World → Prop}
end
attribute [local irreducible] vc rO_ qz qJ qF
section
variable {P : Program} {E : Env}
end
end Go.Km
namespace Go.Km
open Go Go.RowKit
attribute [local irreducible] vc rO_ qz qJ qF
theorem rdN_be2 (ver:Nat) (hv:ver<32768) (r:List UInt8):rdN 2 (be 2 (ver:Int)++r,false)=(ver,r,false):=by
 rw[jw]
 have h2:((256 ^ 2:Nat):Int)=65536:=by decide
 rw[h2]
 have:((ver:Int) % 65536).toNat=ver:=by omega
 rw[this]
theorem sgn2_nat {ver:Nat} (hv:ver<32768):sgn 2 ver=(ver:Int):=by
 unfold sgn
 rw[if_pos zH]
theorem kept_wr {m:Msg} (hk:m.kept=true) (ver:Nat) (ds:List D) (tags:List (Nat × List UInt8)):m.out ver ds tags=be 2 (ver:Int)++m.fs.wr (m.isFlex ver) ver ds tags:=by
 have hwfs:m.wfs=.cons .all (.scal .i16 0) m.fs:=by simp[Msg.wfs,hk]
 simp[Msg.out,Msg.wdat,hwfs,hk,Flds.wr,Ty.wr,Scal.wr,Ver.has,Ver.addTag]
theorem kept_back {m:Msg} (hk:m.kept=true) {ver:Nat} (hv:ver<32768) (hl:m.fs.lp (m.isFlex ver) ver=true) {ds:List D} {tags:List (Nat × List UInt8)} (h:m.fs.good (m.isFlex ver) ver ds tags) :
  m.rver 0 (be 2 (ver:Int)++m.fs.wr (m.isFlex ver) ver ds tags)=ver/\m.back ver (be 2 (ver:Int)++m.fs.wr (m.isFlex ver) ver ds tags)=some (be 2 (ver:Int)++m.fs.wr (m.isFlex ver) ver ds tags):=by
 have hr:=Flds.rd_wr (m.isFlex ver) ver m.fs ds tags [] noK hl h (fun _ _ _=>rfl)
 rw[List.append_nil] at hr
 have h2:=rdN_be2 ver hv (m.fs.wr (m.isFlex ver) ver ds tags)
 refine ⟨by simp[Msg.rver,hk,h2,sgn2_nat hv],?_⟩
 unfold Msg.back
 simp only[Msg.rst,hk,if_true,h2,Msg.rdv,hr,Bool.false_eq_true,if_false,kept_wr hk]
theorem be2_len (n:Int):(be 2 n).length=2:=qG 2 n
theorem kept_cut {m:Msg} (hk:m.kept=true) {ver:Nat} (hv:ver<32768) (hl:m.fs.lp (m.isFlex ver) ver=true) {ds:List D} {tags:List (Nat × List UInt8)} (h:m.fs.good (m.isFlex ver) ver ds tags) {n:Nat} (hn:n<(be 2 (ver:Int)++m.fs.wr (m.isFlex ver) ver ds tags).length) :
  ∃ ver':Nat,ver'<32768/\m.rver 0 ((be 2 (ver:Int)++m.fs.wr (m.isFlex ver) ver ds tags).take n)=ver'/\m.back ver' ((be 2 (ver:Int)++m.fs.wr (m.isFlex ver) ver ds tags).take n)=none:=by
 have hlen:=be2_len (ver:Int)
 rcases Nat.lt_or_ge n 2 with h2 | h2
 ·have hs:((be 2 (ver:Int)++m.fs.wr (m.isFlex ver) ver ds tags).take n).length<2:=by rw[List.length_take];omega
  have hN:rdN 2 ((be 2 (ver:Int)++m.fs.wr (m.isFlex ver) ver ds tags).take n,false)=(0,[],true):=by unfold rdN;rw[if_pos hs]
  refine ⟨0,by omega,by simp[Msg.rver,hk,hN,sgn],?_⟩
  unfold Msg.back
  simp only[Msg.rst,hk,if_true,hN,Msg.rdv]
  cases hb:(m.fs.rd (m.isFlex 0) 0 noK ([],true)).2.2.2 with
  | true=>simp
  | false =>
   have:=Flds.rd_mono (m.isFlex 0) 0 m.fs ([],true) hb
   cases this
 ·have ht:(be 2 (ver:Int)++m.fs.wr (m.isFlex ver) ver ds tags).take n=be 2 (ver:Int)++(m.fs.wr (m.isFlex ver) ver ds tags).take (n-2):=by
   rw[List.take_append,hlen,List.take_of_length_le zH]
  have hr:=Flds.rd_wr (m.isFlex ver) ver m.fs ds tags [] noK hl h (fun _ _ _=>rfl)
  rw[List.append_nil] at hr
  rw[List.length_append,hlen] at hn
  rw[ht]
  generalize m.fs.wr (m.isFlex ver) ver ds tags=b at *
  have hN:=rdN_be2 ver hv (b.take (n-2))
  refine ⟨ver,hv,by simp[Msg.rver,hk,hN,sgn2_nat hv],?_⟩
  unfold Msg.back
  simp only[Msg.rst,hk,if_true,hN,Msg.rdv]
  cases hb:(m.fs.rd (m.isFlex ver) ver noK (b.take (n-2),false)).2.2.2 with
  | true=>simp
  | false =>
   have hx:=Flds.rd_ext (m.isFlex ver) ver m.fs noK (b.take (n-2)) (b.drop (n-2)) hb
   rw[List.take_append_drop,hr] at hx
   have h3:=congrArg (fun x=>x.2.2.1.length) hx
   simp only[List.length_nil,List.length_append,List.length_drop] at h3
   omega
def c_newK (m:Msg):Code :=
 sq [rg [(oQ 0 (.alloc m.TU) 0)],rg [(oQ 1 (.alloc m.TU) 0)],rg [(oQ 2 (.call { callee:=.value (.func m.FD),args:=#[.tmp 1],argTypes:=#[m.TU] }) 0)],
  rg [(oQ 3 (.load m.TU (.tmp 1)) m.TU),⟨none,.store m.TU (.tmp 0) (.tmp 3),0,"",#[],none⟩],.ret]
def NewKC (P:Program) (f:FuncId) (m:Msg):Prop:=∀ w,qa P f #[] w fun v w'=>v=.agg (Value.int .i16 0::m.fs.dz).toArray/\Below w.heap.size w w'
structure MK where
 newK:FuncId
 app:FuncId
 rd:FuncId
 again:FuncId
def yY (E:Env) (m:Msg) (N:MK):Code :=
 (sq [(rg [(oQ 2 (.assign (.const (.slice none 0 0))) E.tB),
   (oQ 3 (.assign (.const (.bool false))) E.tO)]),
  (rg [(oQ 5 (.call { callee:=.value (.func N.newK),args:=#[],argTypes:=#[] }) m.TU),
   (oQ 4 (.alloc m.TU) 0),
   ⟨none,.store m.TU (.tmp 4) (.tmp 5),0,"",#[],none⟩]),
  (sq [(rg [(oQ 6 (.move (.tmp 0)) E.tB),
    (oQ 7 (.call { callee:=.builtin .append,args:=#[(.const (.slice none 0 0)),(.tmp 6)],argTypes:=#[E.tB,E.tB] }) E.tB),
    (oQ 8 (.call { callee:=.value (.func N.rd),args:=#[(.tmp 4),(.tmp 7)],argTypes:=#[m.TU,E.tB] }) E.tErr),
    (oQ 9 (.binOp .neq E.tErr (.tmp 8) (.const .nilIface) E.tErr) E.tO)]),
   (.cond (.tmp 9)
    (sq [(rg [(oQ 2 (.assign (.const (.slice none 0 0))) E.tB),
      (oQ 3 (.assign (.const (.bool false))) E.tO)]),
     .ret])
    .skip)]),
  (rg [(oQ 10 (.call { callee:=.value (.func N.app),args:=#[(.tmp 4),(.const (.slice none 0 0))],argTypes:=#[m.TU,E.tB] }) E.tB),
   (oQ 2 (.assign (.tmp 10)) E.tB),
   (oQ 3 (.assign (.const (.bool true))) E.tO)]),
  .ret])
section
variable {P : Program} {E : Env} {T : List (Nat × List UInt8) → Prop}
theorem c_newK_ok {m:Msg} {f:FuncId} {np nt npd ntd:Nat} (ht:Text P f np nt #[.cell 0 m.TU] (c_newK m)) (hn:4<=nt) (hd:Text P m.FD npd ntd #[] (dcode E m.TP m.TU 1 m.fs)) (hnd:2+m.fs.dn+m.fs.dt<=ntd) (hok:m.fs.okD P E m.TU 1 1=true)
  (hz:(qK P m.TU).map (·.cells.toList)=some (.int .i16 0::m.fs.zc)) (ha:z7 P m.TU=some (m.fs.size+1)) (h1c:(m.fs.dz.all fun v=>v.oneCell')=true) (hdl:m.fs.dz.length=m.fs.size):NewKC P f m:=by
 intro w
 obtain ⟨z,hz0,hzc⟩:∃ z,qK P m.TU=some z/\z.cells.toList=.int .i16 0::m.fs.zc:=by
  cases h:qK P m.TU with
  | none=>rw[h] at hz;cases hz
  | some z=>rw[h] at hz;exact ⟨z,rfl,by simpa using hz⟩
 have hzl:z.cells.size=m.fs.size+1:=by
  have:=congrArg List.length hzc
  simpa [Flds.zc_len] using this
 refine qa.enter ht zS ?_
 intro a hsz hdf harg
 unfold c_newK
 refine vX ?_
 refine qI hz0 ?_
 refine dn ?_
 have hb0:Below w.heap.size w (w.alloc (.cells z.cells m.TU)):=(Below.refl w.heap.size w).alloc (o:=.cells _ _) (Nat.le_refl _)
 have hfr0:∀ i,i<m.fs.size+1->qt (w.alloc (.cells z.cells m.TU)) w.heap.size i:=fun i hi=>qm w _ m.TU zH
 have hz0':(w.alloc (.cells z.cells m.TU)).heap.size=w.heap.size+1:=by simp
 generalize w.alloc (.cells z.cells m.TU)=w0 at *
 refine vX ?_
 refine qI hz0 ?_
 refine dn ?_
 have hb1:Below w0.heap.size w0 (w0.alloc (.cells z.cells m.TU)):=(Below.refl w0.heap.size w0).alloc (o:=.cells _ _) (Nat.le_refl _)
 have hfr:∀ i,i<m.fs.size+1->qt (w0.alloc (.cells z.cells m.TU)) w0.heap.size i:=fun i hi=>qm w0 _ m.TU zH
 have hcz:qb (w0.alloc (.cells z.cells m.TU)) w0.heap.size 0 (.int .i16 0::m.fs.zc):=by
  intro i v hv
  rw[Nat.zero_add]
  refine qs w0 _ m.TU ?_
  rw[← hzc] at hv
  simpa using hv
 have hfr1:∀ i,i<m.fs.size+1->qt (w0.alloc (.cells z.cells m.TU)) w.heap.size i:=fun i hi=>(hfr0 i hi).eff ((Eff.refl (fun _ _=>False) _).alloc _)
 generalize w0.alloc (.cells z.cells m.TU)=W at *
 generalize hbb:w0.heap.size=b at *
 refine vX ?_
 refine q8 (args:=#[.pointer (some ⟨b,0,none⟩)]) ?_ (c_dflt (b:=b) (o:=0) (cs:=m.fs.zc) hd hnd hok (Flds.zc_len _) (hcz.dp (n:=1)) (fun i hi=>by have:=hfr (i+1) zH;rwa [show 0+1+i=i+1 by omega])) ?_
 ·simp only[lM]
  exact zE
 rintro v W1 ⟨h1,h2⟩
 refine dn ?_
 rw[Flds.over_zc] at h2
 have h0:qb W1 b 0 [.int .i16 0]:=(hcz.tk (n:=1)).eff h1 (by intro i hi ⟨_,h,_⟩;simp at hi;omega)
 have hall:qb W1 b 0 (.int .i16 0::m.fs.dz):=h0.append h2
 have hfw:∀ i,i<m.fs.size+1->qt W1 w.heap.size (0+i):=fun i hi=>by rw[Nat.zero_add];exact (hfr1 i hi).eff h1
 have hlen:(Value.int .i16 0::m.fs.dz).length=m.fs.size+1:=by simp[hdl]
 refine vX ?_
 refine qf (b:=b) (o:=0) (cs:=.int .i16 0::m.fs.dz) zE (by rw[hlen];exact ha) hall ?_
 refine qu (b:=w.heap.size) (o:=0) (cs:=.int .i16 0::m.fs.dz) zE zE (by
  intro v hv
  rcases List.mem_cons.1 hv with rfl | hv
  ·rfl
  ·exact List.all_eq_true.1 h1c v hv) (by rw[hlen];exact ha) (fun i hi=>hfw i (by rw[hlen] at hi;exact hi)) ?_
 refine dn ?_
 have hc4:qb (setCells W1 w.heap.size 0 (.int .i16 0::m.fs.dz)) w.heap.size 0 (.int .i16 0::m.fs.dz):=fun j u hu=>qg _ _ _ _ (fun j hj=>(hfw j (by rw[hlen] at hj;exact hj)).1) j u hu
 have hE:=qe w.heap.size (.int .i16 0::m.fs.dz) W1 0
 refine vS (vT ?_)
 refine ⟨by simp only[dF];exact hdf,.agg (Value.int .i16 0::m.fs.dz).toArray,z8 (b:=w.heap.size) (o:=0) (cs:=.int .i16 0::m.fs.dz) zE (by rw[hlen];exact ha) hc4,rfl,?_⟩
 have hz1:=hb1.size
 have hz2:=h1.size
 have hbW:Below w.heap.size w W:=hb0.trans (hb1.mono zH)
 refine (hbW.trans (h1.below zH (by rintro k i hk ⟨h,_⟩;omega))).trans (hE.below zH ?_)
 rintro k i hk ⟨h,_⟩
 omega
set_option maxHeartbeats 1000000 in
theorem c_againK_ok (HW:EnvW P E T) (HI:EnvI P E) (HB:xe P E.tB E.tU8 1=true) (oE:jo P E.tErr=true) {m:Msg} {N:MK} {np nt npa nta:Nat}
  (ht:Text P N.again np nt #[.tmp 2,.tmp 3] (yY E m N)) (hn:11<=nt) (hN:NewKC P N.newK m) (hR:ReadC P E T m N.rd) (ha:Text P N.app npa nta #[.tmp 4] (m.wcode E)) (hna:m.wtop<=nta) (hokw:m.okW P E=true) (hk:m.kept=true)
  (hz:(qK P m.TU).map (·.cells.size)=some (m.fs.size+1)) (hagg:z7 P m.TU=some (m.fs.size+1)) (h1c:(m.fs.dz.all fun v=>v.oneCell')=true) (hdl:m.fs.dz.length=m.fs.size)
  {ver:Nat} {l:List UInt8} {sv ev:Value} {W:World} (hv:ver<32768) (hrv:m.rver 0 l=(ver:Int)) (hsrc:∀ w',Below W.heap.size W w'->Src P 1 E.tB sv l.length (l.map bv) w') (hl:l.length<=big) (he:W.cell? ⟨E.vErr,0,none⟩=some ev) (hev:∃ u z,ev=.iface u z)
  (hb:∀ x,m.back ver l=some x->x.length<=big):qa P N.again #[sv] W fun r w'=>BackV E (m.back ver l) W w' r:=by
 obtain ⟨z,hz0,hzl⟩:∃ z,qK P m.TU=some z/\z.cells.size=m.fs.size+1:=by
  cases h:qK P m.TU with
  | none=>rw[h] at hz;cases hz
  | some z=>rw[h] at hz;exact ⟨z,rfl,by simpa using hz⟩
 have hlen:(Value.int .i16 0::m.fs.dz).length=m.fs.size+1:=by simp[hdl]
 refine qa.enter ht (by simp;omega) ?_
 intro a hsz hdf harg
 have e0:=harg 0 sv zS
 have hevlt:E.vErr<W.heap.size:=qo he
 unfold yY
 refine vX (rA (rA (dn (vX ?_))))
 refine q8 (args:=#[]) zS (hN W) ?_
 rintro v w1 ⟨rfl,hb1⟩
 refine qI hz0 ?_
 have hb2:Below w1.heap.size w1 (w1.alloc (.cells z.cells m.TU)):=(Below.refl w1.heap.size w1).alloc (o:=.cells _ _) (Nat.le_refl _)
 have hf2:∀ i,i<m.fs.size+1->qt (w1.alloc (.cells z.cells m.TU)) w1.heap.size (0+i):=fun i hi=>by rw[Nat.zero_add];exact qm w1 _ m.TU zH
 have hz2:w1.heap.size<(w1.alloc (.cells z.cells m.TU)).heap.size:=by simp
 generalize w1.alloc (.cells z.cells m.TU)=w2 at *
 refine qu (b:=w1.heap.size) (o:=0) (cs:=.int .i16 0::m.fs.dz) zE zE (by
  intro v hv
  rcases List.mem_cons.1 hv with rfl | hv
  ·rfl
  ·exact List.all_eq_true.1 h1c v hv) (by rw[hlen];exact hagg) (fun i hi=>hf2 i (by rw[hlen] at hi;exact hi)) ?_
 refine dn ?_
 have hE:=qe w1.heap.size (.int .i16 0::m.fs.dz) w2 0
 have hc3:qb (setCells w2 w1.heap.size 0 (.int .i16 0::m.fs.dz)) w1.heap.size 0 (.int .i16 0::m.fs.dz):=fun j u hu=>qg _ _ _ _ (fun j hj=>(hf2 j (by rw[hlen] at hj;exact hj)).1) j u hu
 have hf3:∀ i,i<m.fs.size+1->qt (setCells w2 w1.heap.size 0 (.int .i16 0::m.fs.dz)) w1.heap.size i:=fun i hi=>by have:=(hf2 i hi).eff hE;rwa [Nat.zero_add] at this
 have hb13:Below w1.heap.size w1 (setCells w2 w1.heap.size 0 (.int .i16 0::m.fs.dz)):=hb2.trans (hE.below (Nat.le_of_lt hz2) (by rintro k i hk ⟨h,_⟩;omega))
 have hz3:w1.heap.size<(setCells w2 w1.heap.size 0 (.int .i16 0::m.fs.dz)).heap.size:=Nat.lt_of_lt_of_le hz2 hE.size
 generalize setCells w2 w1.heap.size 0 (.int .i16 0::m.fs.dz)=w3 at *
 have hz1:=hb1.size
 have hb03:Below W.heap.size W w3:=hb1.trans (hb13.mono hz1)
 generalize hmb:w1.heap.size=mb at *
 generalize ha1:Act.put _ (some 4) _=a1
 have hf1:Fr (fun k=>k=0) a a1:=by
  subst ha1
  exact ((((Fr.refl _ a).put _ zH).put _ zH).put _ zH).put _ zH
 have h4:a1.eval (.tmp 4)=.pointer (some ⟨mb,0,none⟩):=by subst ha1;exact zE
 have h0:a1.eval (.tmp 0)=sv:=by rw[hf1.slot 0 rfl];exact e0
 have hsz1:=hf1.size
 have hdf1:=hf1.defers
 clear ha1
 refine vS (vX (rM ?_))
 refine xc (U:=w3.heap.size) (v:=.slice none 0 0) (n:=0) (xs:=[]) (u:=sv) (m:=l.length) (news:=l.map bv) HB rfl zA (World.ownsRow_nil _ _ _ _) (Nat.le_refl _) (hsrc _ hb03) zH ?_
 intro v3 w4 hown3 hb4
 rw[Nat.zero_add,List.nil_append] at hown3
 have hb04:Below W.heap.size W w4:=hb03.trans (hb4.mono zH)
 have hev4:w4.cell? ⟨E.vErr,0,none⟩=some ev:=by rw[hb04.cell (p:=⟨E.vErr,0,none⟩) hevlt];exact he
 have hz4:=hb4.size
 obtain ⟨sb,hsv,hsb,hsbc⟩:=own_src (d:=E.vErr) hown3 zH zH
 have hc4:qb w4 mb 0 (.int .i16 ((0:Nat):Int)::m.fs.dz):=hc3.below hb4 hz3
 have hf4:∀ i,i<m.fs.size+1->qt w4 mb i:=fun i hi=>(hf3 i hi).eff (Eff.of_below (M:=fun _ _=>False) hb4)
 refine q8 (args:=#[.pointer (some ⟨mb,0,none⟩),v3]) ?_ (hR ver 0 mb sb ev v3 l w4 hrv hc4 hf4 hsv hsb hl hev4 hev zH zH) ?_
 ·simp only[lM]
  simp (disch:=(try simp only[sP]);omega) only[eV,h4]
 intro x w5 hx
 have hbw5:Below W.heap.size W w5:=hb04.trans (hx.2.1.below zH (by rintro k i hk rfl;omega))
 have hz5:=hx.2.1.size
 have hxv:=hx.1
 refine ki (v:=x) oE zE (by rw[hxv];split;exact .inr hev;exact .inl rfl) ?_
 refine dn ?_
 have hcv:isErr x=(m.rdv ver (m.rst l)).2.2.2:=by
  rw[hxv]
  obtain ⟨u,z,rfl⟩:=hev
  cases (m.rdv ver (m.rst l)).2.2.2<;>rfl
 rw[hcv]
 refine vS (vC (t:=(m.rdv ver (m.rst l)).2.2.2) zE ?_ ?_)
 ·intro h
  refine vX (rA (rA (dn (vS (vT ?_)))))
  refine ⟨by simp only[dF];rw[hdf1];exact hdf,.tuple #[.slice none 0 0,.bool false],qH zE zE,hbw5,?_⟩
  simp only[Msg.back,h,if_true]
 ·intro h
  refine vK (vN ?_)
  have hbk:m.back ver l=some (m.out ver (m.rdv ver (m.rst l)).1 (m.rdv ver (m.rst l)).2.1):=by simp[Msg.back,h]
  refine vX ?_
  refine q8 (args:=#[.pointer (some ⟨mb,0,none⟩),.slice none 0 0]) ?_ (rf_out HW HI ha hna hokw hv hx h (hb _ hbk)) ?_
  ·simp only[lM]
   simp (disch:=(try simp only[sP]);omega) only[eV,h4]
  rintro y w6 ⟨hy,hb6⟩
  refine rA (rA (dn (vS (vT ?_))))
  refine ⟨by simp only[dF];rw[hdf1];exact hdf,.tuple #[y,.bool true],qH zE zE,hbw5.trans (hb6.mono zH),?_⟩
  rw[hbk]
  exact ⟨y,rfl,jW hy zH⟩
end
end Go.Km
namespace Go.Km
open Go Go.RowKit
attribute [local irreducible] vc rO_ qz qJ qF
def c_cutK (E:Env) (A:ML):Code :=
 (sq [(rg [(oQ 4 (.box E.tT (.tmp 1)) 0),
   (oQ 6 (.assign (.const (.bool false))) E.tO)]),
  (sq [(rg [(oQ 12 (.load E.tT (.tmp 4)) E.tT),
    (oQ 13 (.call { callee:=.value (.func A.fits2),args:=#[(.tmp 12)],argTypes:=#[E.tT] }) E.tO),
    (oQ 14 (.unOp .not E.tO (.tmp 13)) E.tO)]),
   (.cond (.tmp 14)
    (sq [(rg [(oQ 6 (.assign (.const (.bool true))) E.tO)]),
     .ret])
    .skip)]),
  (rgd [(oQ 15 (.call { callee:=.value (.func A.spec),args:=#[],argTypes:=#[] }) E.tMsg),
   (oQ 16 (.move (.tmp 0)) E.tU8),
   ⟨some 17,.convert E.tU8 E.tI (.tmp 16),E.tI,"",#[⟨1,.data⟩],none⟩,
   ⟨some 18,.binOp .rem E.tI (.tmp 17) (.const (.int .i64 2)) E.tI,E.tI,"",#[⟨2,.data⟩],none⟩,
   (oQ 19 (.load E.tT (.tmp 4)) E.tT),
   ⟨some 20,.call { callee:=.value (.func E.sKept),args:=#[(.tmp 15),(.tmp 18),(.tmp 19)],argTypes:=#[E.tMsg,E.tI,E.tT] },E.tB,"",#[⟨0,.data⟩,⟨3,.data⟩,⟨4,.data⟩,⟨0,.chain⟩],none⟩,
   ⟨some 7,.assign (.tmp 20),E.tB,"",#[⟨5,.data⟩,⟨5,.chain⟩,⟨0,.phase⟩,⟨1,.phase⟩,⟨2,.phase⟩,⟨3,.phase⟩,⟨4,.phase⟩,⟨5,.phase⟩],none⟩]),
  (rg [(oQ 22 (.move (.tmp 7)) E.tB),
   (oQ 23 (.call { callee:=.value (.func A.again),args:=#[(.tmp 22)],argTypes:=#[E.tB] }) A.tTup),
   (oQ 21 (.move (.tmp 23)) A.tTup),
   (oQ 24 (.extract (.tmp 21) 0) E.tB),
   (oQ 25 (.extract (.tmp 21) 1) E.tO),
   (oQ 8 (.assign (.tmp 24)) E.tB),
   (oQ 9 (.assign (.tmp 25)) E.tO)]),
  (rg [(oQ 27 (.move (.tmp 7)) E.tB),
   (oQ 28 (.move (.tmp 2)) E.tU16),
   (oQ 29 (.convert E.tU16 E.tI (.tmp 28)) E.tI),
   (oQ 30 (.move (.tmp 7)) E.tB),
   (oQ 31 (.call { callee:=.builtin .len,args:=#[(.tmp 30)],argTypes:=#[E.tB] }) E.tI),
   (oQ 32 (.binOp .rem E.tI (.tmp 29) (.tmp 31) E.tI) E.tI),
   (oQ 33 (.slice E.tB (.tmp 27) none (some (.tmp 32)) none) E.tB),
   (oQ 34 (.call { callee:=.value (.func A.again),args:=#[(.tmp 33)],argTypes:=#[E.tB] }) A.tTup),
   (oQ 26 (.move (.tmp 34)) A.tTup),
   (oQ 35 (.extract (.tmp 26) 0) E.tB),
   (oQ 36 (.extract (.tmp 26) 1) E.tO),
   (oQ 10 (.assign (.tmp 35)) E.tB),
   (oQ 11 (.assign (.tmp 36)) E.tO)]),
  (rg [(oQ 37 (.move (.tmp 9)) E.tO),
   (oQ 38 (.move (.tmp 37)) E.tO),
   ⟨some 39,.move (.tmp 11),E.tO,"",#[],some (1,true)⟩,
   ⟨some 40,.unOp .not E.tO (.tmp 39),E.tO,"",#[],some (1,true)⟩,
   (oQ 41 (.pick (.tmp 38) (.tmp 40) (.const (.bool false))) E.tO),
   (oQ 6 (.assign (.tmp 41)) E.tO)]),
  .ret])
structure SpdK (m:Msg) (fs:SFs) (flex:Int):Prop where
 good:fs.good=true
 len:fs.len<=65536
 agr:m.fs.agr fs=true
 fx:∀ ver:Nat,m.isFlex ver=(decide (flex ≥ 0)&&decide ((ver:Int) ≥ flex))
 lp:lpB m 1=true
 kept:m.kept=true
def AgainKC (P:Program) (E:Env) (m:Msg) (f:FuncId):Prop :=
 ∀ (ver:Nat) (l:List UInt8) (sv ev:Value) (W:World),ver<32768->m.rver 0 l=(ver:Int)->xh P E W sv l->l.length<=big->W.cell? ⟨E.vErr,0,none⟩=some ev->(∃ u z,ev=.iface u z)->(∀ x,m.back ver l=some x->x.length<=big) →
  qa P f #[sv] W fun r w'=>BackV E (m.back ver l) W w' r
structure LawK0 (P:Program) (E:Env) (A:ML) (fs:SFs) (flex:Int):Prop where
 se:SEnv P E
 sl:SLay P E
 st:STexts P E
 hz8:qK P E.tU8=some (.int .u8 0)
 hoM:offs P E.tMsg 2=true
 hM:z7 P E.tMsg=some 2
 kept:Text P E.sKept 3 14 #[.tmp 6] (c_sKept E)
 spec:SpecC P A.spec fs flex
structure LawK (P:Program) (E:Env) (A:ML) (m:Msg) (fs:SFs) (flex:Int):Prop extends LawK0 P E A fs flex where
 f4:Text P A.fits4 1 7 #[.tmp 2] (vw E A)
 f3:Text P A.fits3 1 18 #[.tmp 2] (gu E A)
 f2:Text P A.fits2 1 15 #[.tmp 2] (c_fits2 E A)
 again:AgainKC P E m A.again
section
variable {P : Program} {E : Env}
theorem againKC {T:List (Nat × List UInt8)->Prop} (HW:EnvW P E T) (HI:EnvI P E) (HB:xe P E.tB E.tU8 1=true) (oE:jo P E.tErr=true) {m:Msg} {N:MK} {np nt npa nta:Nat}
  (ht:Text P N.again np nt #[.tmp 2,.tmp 3] (yY E m N)) (hn:11<=nt) (hN:NewKC P N.newK m) (hR:ReadC P E T m N.rd) (ha:Text P N.app npa nta #[.tmp 4] (m.wcode E)) (hna:m.wtop<=nta) (hokw:m.okW P E=true) (hk:m.kept=true)
  (hz:(qK P m.TU).map (·.cells.size)=some (m.fs.size+1)) (hagg:z7 P m.TU=some (m.fs.size+1)) (h1c:(m.fs.dz.all fun v=>v.oneCell')=true) (hdl:m.fs.dz.length=m.fs.size):AgainKC P E m N.again :=
 fun ver l sv ev W hv hrv hin hl he hev hb=>c_againK_ok HW HI HB oE ht hn hN hR ha hna hokw hk hz hagg h1c hdl hv hrv hin.2 hl he hev hb
set_option maxHeartbeats 1000000 in
theorem wj {A:ML} {fs:SFs} {flex:Int} (L:LawK0 P E A fs flex) (hg:fs.good=true) (hlen:fs.len<=65536) {ver:Nat} {t:Tr} {ts:List Value} {sv:Value} {w:World} (hsl:SlF w w.heap.size sv fs) (hr:t.Rep w w.heap.size ts)
  (hbig:(be 2 (ver:Int)++fs.part ver (decide (flex ≥ 0)&&decide ((ver:Int) ≥ flex)) t).length<=big) :
  vd P E E.sKept w.heap.size #[.agg [sv,.int .i64 flex].toArray,.int .i64 ver,.agg ts.toArray] (be 2 (ver:Int)++fs.part ver (decide (flex ≥ 0)&&decide ((ver:Int) ≥ flex)) t) w:=by
 have H:=L.se
 have hsv1:sv.oneCell'=true:=by rcases hsl with ⟨rfl,_⟩ | ⟨q,o,cap,rfl,_⟩<;>rfl
 refine qa.enter L.kept zS ?_
 intro a hsz hdf harg
 have e0:=harg 0 (.agg [sv,.int .i64 flex].toArray) zS
 have e1:=harg 1 (.int .i64 ver) zS
 have e2:=harg 2 (.agg ts.toArray) zS
 unfold c_sKept
 refine vX ?_
 refine xI (v:=.agg [sv,.int .i64 flex].toArray) zA ?_
 refine xI (v:=.agg ts.toArray) zA ?_
 refine rA (dn ?_)
 generalize hw1:w.alloc (.cells (Value.agg [sv,.int .i64 flex].toArray).cells E.tMsg)=w1
 have hb1:Below w.heap.size w w1:=by rw[← hw1];exact (Below.refl _ w).alloc (o:=.cells _ _) (Nat.le_refl _)
 have hz1:w1.heap.size=w.heap.size+1:=by rw[← hw1];simp
 have c1:qb w1 w.heap.size 0 [sv,.int .i64 flex]:=by
  intro i v hv
  rw[← hw1,Nat.zero_add]
  exact qs w _ E.tMsg (by simpa [Value.cells] using hv)
 clear hw1
 generalize hw2:w1.alloc (.cells (Value.agg ts.toArray).cells E.tT)=W
 have hb2:Below w1.heap.size w1 W:=by rw[← hw2];exact (Below.refl _ w1).alloc (o:=.cells _ _) (Nat.le_refl _)
 have hz2:W.heap.size=w1.heap.size+1:=by rw[← hw2];simp
 have d2:qb W w1.heap.size 0 ts:=by
  intro i v hv
  rw[← hw2,Nat.zero_add]
  exact qs w1 _ E.tT (by simpa [Value.cells] using hv)
 have d1:qb W w.heap.size 0 [sv,.int .i64 flex]:=c1.below hb2 zH
 clear hw2
 generalize hm1:w1.heap.size=m1 at *
 have hbW:Below w.heap.size w W:=hb1.trans (hb2.mono zH)
 have haT:z7 P E.tT=some ts.length:=by rw[hr.len];exact H.aTree
 generalize hG:Act.put _ (some 6) _=G
 have hsG:G.tmps.size=14:=by rw[← hG];simp only[zP];exact hsz
 have hdG:G.defers=[]:=by rw[← hG];simp only[dF];exact hdf
 have k1:G.eval (.tmp 1)=.int .i64 ver:=by rw[← hG];exact zA
 have k3:G.eval (.tmp 3)=.pointer (some ⟨w.heap.size,0,none⟩):=by rw[← hG];exact zE
 have k5:G.eval (.tmp 5)=.pointer (some ⟨m1,0,none⟩):=by rw[← hG];rw[← hm1];exact zE
 clear hG
 have hbd:Below W.heap.size W { W with drawn:=W.drawn+1 }:=⟨rfl,rfl,rfl,Nat.le_refl _,fun _ _=>rfl⟩
 have mkS:∀ w',Below W.heap.size W w'->qb w' w.heap.size 0 [sv,.int .i64 flex]/\qb w' m1 0 ts:=fun w' h=>⟨d1.below h zH,d2.below h zH⟩
 have hS:=mkS _ hbd
 refine vS (xd [(0,true),(2,true),(3,true),(4,true),(1,false),(5,false),(6,false),(7,true)] (fun W'=>qb W' w.heap.size 0 [sv,.int .i64 flex]/\qb W' m1 0 ts) L.st.mixed (by kernel_rfl) rfl (by kernel_rfl) (fun _ _ _ _ h=>False.elim h) ?_)
 refine dP rfl rfl rfl (wN rfl) (by simp only[zP,hsG];omega) hS (fun w' hS'=>rM (dn ⟨rfl,rfl,rfl⟩)) ?_
 refine dP rfl rfl rfl (wN rfl) (by simp only[zP,hsG];omega) hS (fun w' hS'=>qf (b:=w.heap.size) (o:=0) (cs:=[sv,.int .i64 flex]) zA L.hM hS'.1 (dn ⟨rfl,rfl,rfl⟩)) ?_
 refine dP rfl rfl rfl (wN rfl) (by simp only[zP,hsG];omega) hS (fun w' hS'=>rM (dn ⟨rfl,rfl,rfl⟩)) ?_
 refine dP rfl rfl rfl (wN rfl) (by simp only[zP,hsG];omega) hS (fun w' hS'=>qf (b:=m1) (o:=0) (cs:=ts) zA haT hS'.2 (dn ⟨rfl,rfl,rfl⟩)) ?_
 refine qx rfl (wN rfl) ?_
 refine q8 (args:=#[.int .i64 ver,.int .i64 (2:Nat)]) ?_ (zJ (U:=W.heap.size) (n:=(ver:Int)) (k:=2) L.st.fixed H.row H.u8 H.i64 H.int zH (Nat.le_refl _)) ?_
 ·simp only[lM]
  simp (disch:=(try simp only[sP]);omega) only[eV,k1]
  rfl
 rintro v3 w3 ⟨hown3,hb3⟩
 have hbW3:Below W.heap.size W w3:=hbd.trans hb3
 refine dn (qw (mkS _ hbW3) ?_)
 refine qx rfl (wN rfl) ?_
 have hb03:Below w.heap.size w w3:=hbW.trans (hbW3.mono zH)
 have hsl3:SlF w3 w3.heap.size sv fs:=(hsl.below hb03).mono hb03.size
 have hr3:t.Rep w3 w3.heap.size ts:=(hr.below hb03).mono hb03.size
 have hbig2:(fs.part ver (decide (flex ≥ 0)&&decide ((ver:Int) ≥ flex)) t).length<=big:=by rw[List.length_append] at hbig;omega
 refine q8 (args:=#[.agg [sv,.int .i64 flex].toArray,.int .i64 ver,.agg ts.toArray]) ?_ (s_write (ver:=(ver:Int)) (flex:=flex) (t:=t) H L.sl L.st L.hoM hsl3 hr3 (Nat.le_refl _) (partC H L.sl L.st L.hz8 hg hlen) hbig2) ?_
 ·simp only[lM]
  simp (disch:=(try simp only[sP]);omega) only[eV,k1]
 rintro v5 w5 ⟨hown5,hb5⟩
 generalize fs.part ver (decide (flex ≥ 0)&&decide ((ver:Int) ≥ flex)) t=bs at *
 have hbW5:Below W.heap.size W w5:=hbW3.trans (hb5.mono hbW3.size)
 refine dn (qw (mkS _ hbW5) ?_)
 refine qx rfl (wN rfl) ?_
 have hown35:=ze hown3 hb5
 refine xc (U:=W.heap.size) (v:=v3) (n:=(be 2 (ver:Int)).length) (xs:=(be 2 (ver:Int)).map bv) (u:=v5) (m:=bs.length) (news:=bs.map bv) H.row zE zE hown35 hbW5.size (xJ (rB H.row) hown5 (xm _)) (by rw[List.length_append] at hbig;exact hbig) ?_
 intro v6 w6 hown6 hb6
 have hbW6:Below W.heap.size W w6:=hbW5.trans hb6
 refine dn (qw (mkS _ hbW6) ?_)
 refine dP rfl rfl rfl (wN rfl) (by simp only[zP,hsG];omega) (mkS _ hbW6) (fun w' hS'=>rA (dn ⟨rfl,rfl,rfl⟩)) ?_
 refine xC ?_
 refine vS (vT ?_)
 refine ⟨by simp only[dF];exact hdG,v6,rO zE,?_,hbW.trans (hbW6.mono zH)⟩
 rw[← List.map_append,← List.length_append] at hown6
 exact jW hown6 zH
theorem keptPart {m:Msg} {fs:SFs} {flex:Int} (S:SpdK m fs flex) {ver:Nat} (hv:ver<=1) {t:Tr} (htk:t.tok) :
  m.rver 0 (be 2 (ver:Int)++fs.part ver (m.isFlex ver) t)=ver/\m.back ver (be 2 (ver:Int)++fs.part ver (m.isFlex ver) t)=some (be 2 (ver:Int)++fs.part ver (m.isFlex ver) t) ∧
  ∀ n,n<(be 2 (ver:Int)++fs.part ver (m.isFlex ver) t).length->∃ ver':Nat,ver'<32768/\m.rver 0 ((be 2 (ver:Int)++fs.part ver (m.isFlex ver) t).take n)=ver'/\m.back ver' ((be 2 (ver:Int)++fs.part ver (m.isFlex ver) t).take n)=none:=by
 have hpw:=wR (fx:=m.isFlex ver) (ver:=ver) S.agr t
 have hgood:=part_good (fx:=m.isFlex ver) (ver:=ver) S.agr htk
 rw[hpw]
 obtain ⟨h1,h2⟩:=kept_back S.kept zH (lpB_at S.lp hv) hgood
 exact ⟨h1,h2,fun n hn=>kept_cut S.kept zH (lpB_at S.lp hv) hgood hn⟩
end
end Go.Km
namespace Go.Km
open Go Go.RowKit
attribute [local irreducible] vc rO_ qz qJ qF
theorem kept_big {m:Msg} {fs:SFs} (h:m.fs.agr fs=true) (hc:m.fs.cost<=2047) {t:Tr} (ht:t.wt<=1048576) (ver:Nat):(be 2 (ver:Int)++fs.part ver (m.isFlex ver) t).length<=big:=by
 rw[List.length_append,be2_len,wR h]
 have h1:=Flds.wr_cost (m.isFlex ver) ver m.fs fs 0 t 0 (zh (m.fs.topT 0) (m.isFlex ver) t) 0 h (fun _=>vO _ _ _)
 have h2:=Nat.mul_le_mul hc ht
 unfold big
 omega
section
variable {P : Program} {E : Env}
set_option maxHeartbeats 2000000 in
theorem c_cutK_ok {A:ML} {m:Msg} {fs:SFs} {flex:Int} (L:LawK P E A m fs flex) (S:SpdK m fs flex) {np nt:Nat} (ht:Text P A.law np nt #[.tmp 6] (c_cutK E A)) (hn:42<=nt)
  (hu16:qr P E.tU16=some .u16) {n at':Nat} (hn8:n<256) (hat:at'<65536) {t:Tr} {ts:List Value} {ev:Value} {W:World} (hr:t.Rep W W.heap.size ts) (htk:t.tok) (hsm:t.small) (hbig:∀ ver:Nat,(be 2 (ver:Int)++fs.part ver (m.isFlex ver) t).length<=big)
  (he:W.cell? ⟨E.vErr,0,none⟩=some ev) (hev:∃ u z,ev=.iface u z):qa P A.law #[.int .u8 n,.agg ts.toArray,.int .u16 at'] W fun v w'=>v=.bool true/\Below W.heap.size W w':=by
 have hevlt:=qo he
 have H:=L.se
 refine qa.enter ht (by simp;omega) ?_
 intro a hsz hdf harg
 have e0:=harg 0 (.int .u8 n) zS
 have e1:=harg 1 (.agg ts.toArray) zS
 have e2:=harg 2 (.int .u16 at') zS
 unfold c_cutK
 refine vX ?_
 refine xI (v:=.agg ts.toArray) zA ?_
 refine rA (dn ?_)
 have hb0:Below W.heap.size W (W.alloc (.cells (Value.agg ts.toArray).cells E.tT)):=(Below.refl _ W).alloc (o:=.cells _ _) (Nat.le_refl _)
 have hbc:qb (W.alloc (.cells (Value.agg ts.toArray).cells E.tT)) W.heap.size 0 ts:=by
  intro j v hv
  rw[Nat.zero_add]
  exact qs W _ E.tT (by simpa [Value.cells] using hv)
 have hz0:W.heap.size<(W.alloc (.cells (Value.agg ts.toArray).cells E.tT)).heap.size:=by simp
 generalize W.alloc (.cells (Value.agg ts.toArray).cells E.tT)=w0 at *
 have haT:z7 P E.tT=some ts.length:=by rw[hr.len];exact H.aTree
 refine vS (vX ?_)
 refine qf (b:=W.heap.size) (o:=0) (cs:=ts) zE haT hbc ?_
 refine q8 (args:=#[.agg ts.toArray]) ?_ (gf H L.f4 L.f3 L.f2 (hr.below hb0) hb0.size hsm) ?_
 ·simp only[lM]
  exact zE
 rintro v w2 ⟨⟨bf,rfl⟩,hb1⟩
 have hb02:Below W.heap.size W w2:=hb0.trans (hb1.mono hb0.size)
 refine zq (b:=bf) zE ?_
 refine dn ?_
 refine vS (vC (t:=!bf) zE ?_ ?_)
 ·intro h
  refine vX (rA (dn (vS (vT ?_))))
  exact ⟨by simp only[dF];exact hdf,.bool true,rO zE,rfl,hb02⟩
 intro _
 refine vK (vN ?_)
 have hbc2:qb w2 W.heap.size 0 ts:=hbc.below hb1 hz0
 have hz2:W.heap.size<w2.heap.size:=Nat.lt_of_lt_of_le hz0 hb1.size
 generalize hG:Act.put _ (some 14) _=G
 have hsG:G.tmps.size=nt:=by rw[← hG];simp only[zP];exact hsz
 have hdG:G.defers=[]:=by rw[← hG];simp only[dF];exact hdf
 have k0:G.eval (.tmp 0)=.int .u8 n:=by rw[← hG];exact zA
 have k2:G.eval (.tmp 2)=.int .u16 at':=by rw[← hG];exact zA
 have k4:G.eval (.tmp 4)=.pointer (some ⟨W.heap.size,0,none⟩):=by rw[← hG];exact zE
 clear hG
 have hvle:n % 2<=1:=by omega
 have hbd:Below w2.heap.size w2 { w2 with drawn:=w2.drawn+1 }:=⟨rfl,rfl,rfl,Nat.le_refl _,fun _ _=>rfl⟩
 have mkS:∀ w',Below w2.heap.size w2 w'->qb w' W.heap.size 0 ts:=fun w' h=>hbc2.below h hz2
 have hS:=mkS _ hbd
 generalize hvv:n % 2=ver at *
 refine vS (xd [(1,true),(2,true),(3,true),(4,true),(0,false),(5,false),(6,true)] (fun W'=>qb W' W.heap.size 0 ts) L.st.mixed (by kernel_rfl) rfl (by kernel_rfl) (fun _ _ _ _ h=>False.elim h) ?_)
 refine dP rfl rfl rfl (wN rfl) (by simp only[zP,hsG];omega) hS (fun w' hS'=>rM (dn ⟨rfl,rfl,rfl⟩)) ?_
 refine dP (v:=.int .i64 (n:Int)) rfl rfl rfl (wN rfl) (by simp only[zP,hsG];omega) hS (fun w' _=>qL (k:=.u8) (k':=.i64) (m:=(n:Int)) H.u8 H.int zA (by rw[wrap_i64 zH zH];exact dn ⟨rfl,rfl,rfl⟩)) ?_
 refine dP (v:=.int .i64 (ver:Int)) rfl rfl rfl (wN rfl) (by simp only[zP,hsG];omega) hS (fun w' _=>r_rem (k:=.i64) (m:=(n:Int)) (n:=2) zE zE zH (by rw[show (n:Int).tmod 2=(ver:Int) by rw[← hvv];rfl];exact dn ⟨rfl,rfl,rfl⟩)) ?_
 refine dP rfl rfl rfl (wN rfl) (by simp only[zP,hsG];omega) hS (fun w' hS'=>qf (b:=W.heap.size) (o:=0) (cs:=ts) zA haT hS' (dn ⟨rfl,rfl,rfl⟩)) ?_
 refine qx rfl (wN rfl) ?_
 refine q8 (args:=#[]) zS (L.spec _) ?_
 rintro v w4 ⟨sv,rfl,hsl,hb3⟩
 have hb23:Below w2.heap.size w2 w4:=hbd.trans hb3
 refine dn (qw (mkS _ hb23) ?_)
 refine qx rfl (wN rfl) ?_
 have hbg:=hbig ver
 have hfx:=S.fx ver
 rw[hfx] at hbg
 have hb04:Below W.heap.size W w4:=hb02.trans (hb23.mono hb02.size)
 have hr4:t.Rep w4 w4.heap.size ts:=(hr.below hb04).mono hb04.size
 refine q8 (args:=#[.agg [sv,.int .i64 flex].toArray,.int .i64 ver,.agg ts.toArray]) ?_ (wj L.toLawK0 S.good S.len hsl hr4 hbg) ?_
 ·simp only[lM]
  exact zE
 rintro bv5 w5 ⟨hown,hb5⟩
 rw[← hfx] at hown hbg
 obtain ⟨hrv,hback,hcut⟩:=keptPart S hvle htk
 have hpos:0<(be 2 (ver:Int)++fs.part ver (m.isFlex ver) t).length:=by rw[List.length_append,be2_len];omega
 generalize be 2 (ver:Int)++fs.part ver (m.isFlex ver) t=bs at *
 have hb25:Below w2.heap.size w2 w5:=hb23.trans (hb5.mono hb23.size)
 have hb05:Below W.heap.size W w5:=hb02.trans (hb25.mono hb02.size)
 refine dn (qw (mkS _ hb25) ?_)
 refine dP rfl rfl rfl (wN rfl) (by simp only[zP,hsG];omega) (mkS _ hb25) (fun w' hS'=>rA (dn ⟨rfl,rfl,rfl⟩)) ?_
 refine xC ?_
 generalize hG2:Act.put _ (some 7) _=G2
 have hsG2:G2.tmps.size=nt:=by rw[← hG2];simp only[zP];exact hsG
 have hdG2:G2.defers=[]:=by rw[← hG2];simp only[dF];exact hdG
 have k2:G2.eval (.tmp 2)=.int .u16 at':=by rw[← hG2];exact zA
 have k7:G2.eval (.tmp 7)=bv5:=by rw[← hG2];exact zE
 clear hG2
 have hrow:xl w5 bv5 bs:=xl.of_own hown
 have he5:w5.cell? ⟨E.vErr,0,none⟩=some ev:=by rw[hb05.cell (p:=⟨E.vErr,0,none⟩) hevlt];exact he
 refine vX (rM ?_)
 refine q8 (args:=#[bv5]) ?_ (L.again ver bs bv5 ev w5 zH hrv (hrow.bytesIn H.row) hbg he5 hev (fun x hx=>by rw[hback] at hx;cases hx;exact hbg)) ?_
 ·simp only[lM]
  simp (disch:=(try simp only[sP]);omega) only[eV,k7]
 rintro r w7 ⟨hb7,hr7⟩
 rw[hback] at hr7
 obtain ⟨y,rfl,hy⟩:=hr7
 refine rM ?_
 refine qj (vs:=#[y,.bool true]) (v:=y) zE rfl ?_
 refine qj (vs:=#[y,.bool true]) (v:=.bool true) zE rfl ?_
 refine rA (rA (dn ?_))
 generalize hG3:Act.put _ (some 9) _=G3
 have hsG3:G3.tmps.size=nt:=by rw[← hG3];simp only[zP];exact hsG2
 have hdG3:G3.defers=[]:=by rw[← hG3];simp only[dF];exact hdG2
 have k2:G3.eval (.tmp 2)=.int .u16 at':=by rw[← hG3];exact zA
 have k7:G3.eval (.tmp 7)=bv5:=by rw[← hG3];exact zA
 have k9:G3.eval (.tmp 9)=.bool true:=by rw[← hG3];exact zE
 clear hG3
 have hb07:Below W.heap.size W w7:=hb05.trans (hb7.mono hb05.size)
 obtain ⟨g,cap,rfl,hcap⟩:∃ g cap,bv5=.slice (some ⟨g,0,none⟩) bs.length cap/\bs.length<=cap:=by
  rcases hown.2 with ⟨_,h⟩ | ⟨g,cap,cur,h1,_,_,h2,_⟩
  ·omega
  ·exact ⟨g,cap,h1,h2⟩
 have hcs5:qb w5 g 0 (bs.map bv):=by
  intro j u hu
  have:=hown.cells (g:=g) rfl j u hu
  rwa [Addr.add_lit] at this
 have hklt:at' % bs.length<bs.length:=Nat.mod_lt _ hpos
 obtain ⟨ver',hv',hrv',hback'⟩:=hcut _ hklt
 generalize hkk:at' % bs.length=kk at *
 have hrowk:xl w5 (.slice (some ⟨g,0,none⟩) kk cap) (bs.take kk):=by
  refine .inr ⟨g,0,cap,by rw[List.length_take];congr 1;omega,?_⟩
  rw[List.map_take]
  exact hcs5.take kk
 have htl:(bs.take kk).length<=big:=by rw[List.length_take];omega
 have he7:w7.cell? ⟨E.vErr,0,none⟩=some ev:=by rw[hb07.cell (p:=⟨E.vErr,0,none⟩) hevlt];exact he
 have hsl':=rB H.row
 refine vX (rM (rM ?_))
 refine qL (k:=.u16) (k':=.i64) (m:=(at':Int)) hu16 H.int zA ?_
 rw[wrap_i64 zH zH]
 refine rM ?_
 refine x7 (ad:=some ⟨g,0,none⟩) (n:=bs.length) (c:=cap) hsl' zA ?_
 refine r_rem (k:=.i64) (m:=(at':Int)) (n:=(bs.length:Int)) zE zE zH ?_
 rw[show (at':Int).tmod (bs.length:Int)=(kk:Int) by rw[← hkk];rfl]
 refine kT (k:=.i64) (h:=kk) (len:=bs.length) (cap:=cap) (ad:=some ⟨g,0,none⟩) hsl' zA zE zH ?_
 refine q8 (args:=#[.slice (some ⟨g,0,none⟩) kk cap]) ?_ (L.again ver' (bs.take kk) _ ev w7 hv' hrv' ((hrowk.below hb7).bytesIn H.row) htl he7 hev (fun x hx=>by rw[hback'] at hx;cases hx)) ?_
 ·simp only[lM]
  exact zE
 rintro r w10 ⟨hb10,hr10⟩
 rw[hback'] at hr10
 subst hr10
 have hb010:Below W.heap.size W w10:=hb07.trans (hb10.mono hb07.size)
 refine rM ?_
 refine qj (vs:=#[.slice none 0 0,.bool false]) (v:=.slice none 0 0) zE rfl ?_
 refine qj (vs:=#[.slice none 0 0,.bool false]) (v:=.bool false) zE rfl ?_
 refine rA (rA (dn ?_))
 generalize hG5:Act.put _ (some 11) _=G5
 have hsG5:G5.tmps.size=nt:=by rw[← hG5];simp only[zP];exact hsG3
 have hdG5:G5.defers=[]:=by rw[← hG5];simp only[dF];exact hdG3
 have k9:G5.eval (.tmp 9)=.bool true:=by rw[← hG5];exact zA
 have k11:G5.eval (.tmp 11)=.bool false:=by rw[← hG5];exact zE
 clear hG5
 refine vS (xF ?_)
 refine rD rfl (wN rfl) (rM (dn (rT ?_)))
 refine rD rfl (wN rfl) (rM (dn (rT ?_)))
 refine rD rfl (by rw[wS (b:=true) rfl rfl zA];rfl) (rM (dn (rT ?_)))
 refine rD rfl (by rw[wS (b:=true) rfl rfl zA];rfl) (zq (b:=false) zA (dn (rT ?_)))
 refine rD rfl (wN rfl) (qZ zA (dn (rT ?_)))
 refine rD rfl (wN rfl) (rA (dn (rT ?_)))
 refine qy ?_
 refine vS (vT ?_)
 refine ⟨by simp only[dF];exact hdG5,.bool true,rO ?_,rfl,hb010⟩
 simp (disch:=(try simp only[sP]);omega) only[eV]
 rfl
end
end Go.Km
