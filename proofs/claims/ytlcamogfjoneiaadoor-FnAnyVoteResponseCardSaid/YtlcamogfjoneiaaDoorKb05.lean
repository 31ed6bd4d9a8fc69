/- The plain law, third part: what is read can be written, in no more octets. The laws 'what is read of any octets ..': over any program. Rows of laws: what the arguments give; how they are left; what a listed error gives. Over any program. Tags: their numbers are sorted. Tags: one tag is written. Tags: operations on the map while it is ranged over. Tags: Each. Tags: the writer's part, with tags. -/
import Derived.Test.YtlcamogfjoneiaaDoorKb02
import Derived.Test.YtlcamogfjoneiaaDoorKb03
import Derived.Test.YtlcamogfjoneiaaDoorKb04
import Derived.WalkKit
import Derived.ProofKit
import Derived.OpenShut
import Derived.ChangeSlices
import Derived.LaidLaws
import Derived.Carry
import Derived.MakeChecks
import Derived.Shelf.GgSortFunc.Whole
import Derived.Shelf.GgSortFunc.Tiny
import Derived.Deep.Draws
import Derived.Laws.MakeOwn
set_option maxHeartbeats 4000000
set_option linter.unusedSimpArgs false
set_option linter.unusedVariables false
namespace Go.Km
open Go Go.RowKit
theorem kM {k n:Nat} (hk:0<k) (h:n<256 ^ k):-(2 ^ (8*k-1):Nat)<=sgn k n/\sgn k n<(2 ^ (8*k-1):Nat):=by
 have e:(256:Nat) ^ k=2 ^ (8*k-1)+2 ^ (8*k-1):=by
  rw[show 256=2 ^ 8 from rfl,← Nat.pow_mul,← Nat.mul_two,← Nat.pow_succ]
  congr 1
  omega
 have e2:(2:Int) ^ (8*k)=((256 ^ k:Nat):Int):=by
  rw[show 256=2 ^ 8 from rfl,← Nat.pow_mul]
  simp
 unfold sgn
 rw[e2]
 rw[e] at h ⊢
 generalize 2 ^ (8*k-1)=m at *
 split<;>omega
theorem Scal.rd_ok (k:Scal) (st:RSt):k.ok (k.rd st).1:=by
 cases k with
 | bool =>
  simp only[Scal.rd,Scal.ok]
  split<;>simp
 | i8=>have:=kM (k:=1) (by decide) (zQ 1 st);simp only[Scal.rd,Scal.ok];simp at this;omega
 | i16=>have:=kM (k:=2) (by decide) (zQ 2 st);simp only[Scal.rd,Scal.ok];simp at this;omega
 | i32=>have:=kM (k:=4) (by decide) (zQ 4 st);simp only[Scal.rd,Scal.ok];simp at this;omega
 | i64=>have:=kM (k:=8) (by decide) (zQ 8 st);simp only[Scal.rd,Scal.ok];simp at this;omega
 | u16=>have:=zQ 2 st;simp only[Scal.rd,Scal.ok];omega
 | f64=>have:=zQ 8 st;simp only[Scal.rd,Scal.ok];omega
theorem vy {k:Nat} {st:RSt} (h:(rdN k st).2.2=false):k+(rdN k st).2.1.length<=st.1.length:=by
 unfold rdN at h ⊢
 split at h
 ·cases h
 ·rename_i hl
  rw[if_neg hl]
  simp only[List.length_drop]
  omega
theorem jz {n:Int} {st:RSt} (h:(qr n st).2.2=false):((qr n st).1.length:Int)=n/\(qr n st).1.length+(qr n st).2.1.length<=st.1.length:=by
 unfold qr at h ⊢
 split at h
 ·cases h
 ·rename_i hl
  rw[if_neg hl]
  simp only[List.length_drop,List.length_take]
  omega
theorem uvar_le {n k:Nat} (h:n<4294967296) (hk:n<=k):(Go.Km.uvar n).length<=(Go.Km.uvar k).length:=by
 have key:∀ (f a b:Nat),a<=b->(uvF f a).length<=(uvF f b).length:=by
  intro f
  induction f with
  | zero=>intro a b _;simp[uvF]
  | succ f ih =>
   intro a b hab
   rcases Nat.lt_or_ge a 128 with ha | ha
   ·rw[uvF_one ha]
    have:=vr (f+1) b
    simpa using this
   ·rw[wK ha,wK (by omega)]
    simp only[List.length_cons]
    have:=ih (a / 128) (b / 128) (Nat.div_le_div_right hab)
    omega
 exact key 9 n k hk
theorem rdL_len {fx:Bool} {st:RSt} (h:(rdL fx st).2.2=false):∀ n:Nat,(n:Int)=(rdL fx st).1->(if fx then Go.Km.uvar (n+1) else be 2 n).length+(rdL fx st).2.1.length<=st.1.length:=by
 intro n hn
 cases fx with
 | true =>
  simp only[rdL,if_true,zR] at h hn ⊢
  have:=js h
  have e:n+1=(qp st).1:=by omega
  rw[e]
  exact this
 | false =>
  simp only[rdL,Bool.false_eq_true,if_false,wm] at h hn ⊢
  have:=vy h
  simp only[qG]
  exact this
theorem rdLB_len {fx:Bool} {st:RSt} (h:(xX fx st).2.2=false):∀ n:Nat,(n:Int)=(xX fx st).1->(if fx then Go.Km.uvar (n+1) else be 4 n).length+(xX fx st).2.1.length<=st.1.length:=by
 intro n hn
 cases fx with
 | true =>
  simp only[xX,if_true,zR] at h hn ⊢
  have:=js h
  have e:n+1=(qp st).1:=by omega
  rw[e]
  exact this
 | false =>
  simp only[xX,Bool.false_eq_true,if_false,jD] at h hn ⊢
  have:=vy h
  simp only[qG]
  exact this
theorem rdL_min {fx:Bool} {st:RSt} (h:(rdL fx st).2.2=false):(if fx then 1 else 2)+(rdL fx st).2.1.length<=st.1.length:=by
 cases fx with
 | true =>
  simp only[rdL,if_true,zR] at h ⊢
  have:=js h
  have:=jw (qp st).1
  omega
 | false =>
  simp only[rdL,Bool.false_eq_true,if_false,wm] at h ⊢
  exact vy h
theorem rdLB_min {fx:Bool} {st:RSt} (h:(xX fx st).2.2=false):(if fx then 1 else 4)+(xX fx st).2.1.length<=st.1.length:=by
 cases fx with
 | true =>
  simp only[xX,if_true,zR] at h ⊢
  have:=js h
  have:=jw (qp st).1
  omega
 | false =>
  simp only[xX,Bool.false_eq_true,if_false,jD] at h ⊢
  exact vy h
theorem rdL_rng (fx:Bool) (st:RSt):(rdL fx st).1<(if fx then 4294967295 else 32768):=by
 cases fx with
 | true =>
  simp only[rdL,if_true,zR]
  have:=ze st
  omega
 | false =>
  simp only[rdL,Bool.false_eq_true,if_false,wm]
  have:=yO st
  omega
theorem rdLB_rng (fx:Bool) (st:RSt):(xX fx st).1<(if fx then 4294967295 else 2147483648):=by
 cases fx with
 | true =>
  simp only[xX,if_true,zR]
  have:=ze st
  omega
 | false =>
  simp only[xX,Bool.false_eq_true,if_false,jD]
  have:=kZ st
  omega
theorem wQ {fx:Bool} {l:List UInt8} {st:RSt} (h:(l.length:Int)=(rdL fx st).1):wR fx l:=by
 have:=rdL_rng fx st
 unfold wR
 cases fx<;>simp only[Bool.false_eq_true,if_false,if_true] at this ⊢<;>omega
theorem octOk_of {fx:Bool} {l:List UInt8} {st:RSt} (h:(l.length:Int)=(xX fx st).1):yX fx l:=by
 have:=rdLB_rng fx st
 unfold yX
 cases fx<;>simp only[Bool.false_eq_true,if_false,if_true] at this ⊢<;>omega
theorem i32_rng (n:Int):-2147483648<=IntKind.i32.wrap n/\IntKind.i32.wrap n<=2147483647:=by
 have h2:(2:Int) ^ 32=4294967296:=by decide
 have h3:(2:Int) ^ (32-1)=2147483648:=by decide
 simp only[IntKind.wrap,IntKind.bits,IntKind.signed,Bool.true_and,decide_eq_true_eq,h2,h3]
 split<;>omega
theorem rdCount_nb {p:Int × RSt} (h:(z8 p).2.2=false):z8 p=p:=by
 unfold z8 at h ⊢
 split at h
 ·cases h
 ·rename_i hh;rw[if_neg hh]
theorem rdCn_rng {fx:Bool} {st:RSt} (h:(xl fx st).2.2=false):(xl fx st).1<2147483648:=by
 cases fx with
 | true =>
  simp only[xl,if_true,rdCc,z8] at h ⊢
  split at h
  ·cases h
  ·rename_i hh
   rw[if_neg hh]
   have:=i32_rng (IntKind.i32.wrap ((qp st).1:Int)-1)
   simp only
   omega
 | false =>
  have e:xl false st=jD st:=rdCount_nb h
  rw[e]
  have:=kZ st
  show sgn 4 (rdN 4 st).1<_
  omega
theorem rdCn_min {fx:Bool} {st:RSt} (h:(xl fx st).2.2=false):(if fx then 1 else 4)+(xl fx st).2.1.length<=st.1.length:=by
 cases fx with
 | true =>
  simp only[xl,if_true,rdCc,z8] at h ⊢
  split at h
  ·cases h
  ·rename_i hh
   rw[if_neg hh]
   have h1:=js h
   have h2:=jw (qp st).1
   simp only
   omega
 | false =>
  have e:xl false st=jD st:=rdCount_nb h
  rw[e] at h ⊢
  exact vy (k:=4) h
theorem rdCn_len {fx:Bool} {st:RSt} (h:(xl fx st).2.2=false):∀ n:Nat,(n:Int)=(xl fx st).1->(zk fx n).length+(xl fx st).2.1.length<=st.1.length:=by
 intro n hn
 have hr:=rdCn_rng h
 cases fx with
 | true =>
  simp only[xl,if_true,rdCc,z8] at h hn hr ⊢
  split at h
  ·cases h
  ·rename_i hh
   rw[if_neg hh] at hn hr ⊢
   simp only at hn hr ⊢
   have h1:=js h
   have h4:=ze st
   have:n+1<=(qp st).1:=by
    have h2:(2:Int) ^ 32=4294967296:=by decide
    have h3:(2:Int) ^ (32-1)=2147483648:=by decide
    simp only[IntKind.wrap,IntKind.bits,IntKind.signed,Bool.true_and,decide_eq_true_eq,h2,h3] at hn
    split at hn<;>split at hn<;>omega
   have:=uvar_le (n:=n+1) (by omega) this
   simp only[zk,if_true]
   omega
 | false =>
  have:=rdCn_min h
  simp only[zk,Bool.false_eq_true,if_false,qG] at this ⊢
  exact this
def zC (l:List (Nat × List UInt8)):Nat:=(l.map qR).flatten.length
theorem zy (x:Nat × List UInt8) (l:List (Nat × List UInt8)):zC (x::l)=(qR x).length+zC l:=by simp[zC]
theorem wj (k:Nat) (v:List UInt8):∀ l,zC (qx k v l)<=(qR (k,v)).length+zC l
 | []=>by simp[qx,zC]
 | x::l=>by
  simp only[qx]
  split
  ·rw[zy];exact Nat.le_refl _
  ·split
   ·rw[zy,zy];omega
   ·have:=wj k v l
    rw[zy,zy];omega
theorem vL (k:Nat) (v:List UInt8):∀ l,(qx k v l).length<=l.length+1
 | []=>by simp[qx]
 | x::l=>by
  simp only[qx]
  split
  ·simp
  ·split
   ·simp
   ·have:=vL k v l
    simp only[List.length_cons];omega
theorem jG (k:Nat) (v:List UInt8):∀ l:List (Nat × List UInt8),l.Pairwise (fun x y=>x.1<y.1)->(qx k v l).Pairwise (fun x y=>x.1<y.1)
 | [],_=>by simp[qx]
 | y::l,h=>by
  have h2:=List.pairwise_cons.1 h
  simp only[qx]
  split
  ·rename_i hk
   refine List.pairwise_cons.2 ⟨fun x hx=>?_,h⟩
   rcases List.mem_cons.1 hx with rfl | hx
   ·exact hk
   ·have:=h2.1 x hx
    show k<x.1
    omega
  ·split
   ·rename_i h1 h3
    exact List.pairwise_cons.2 ⟨fun x hx=>by have:=h2.1 x hx;show k<x.1;omega,h2.2⟩
   ·rename_i h1 h3
    refine List.pairwise_cons.2 ⟨fun x hx=>?_,jG k v l h2.2⟩
    rcases kl k v l x hx with rfl | hx
    ·show y.1<k;omega
    ·exact h2.1 x hx
theorem rdTag_len {st:RSt} (h:(xp st).2.2=false):(qR (xp st).1).length+(xp st).2.1.length<=st.1.length/\(xp st).1.1<4294967296/\(xp st).1.2.length<4294967296:=by
 unfold xp at h ⊢
 simp only at h ⊢
 have h1:=jz h
 have h2:=qO h
 have h3:=js h2
 have h4:=js (zp h2)
 have h5:=ze st
 have h6:=ze (qp st).2
 have e:(qr ((qp (qp st).2).1:Int) (qp (qp st).2).2).1.length=(qp (qp st).2).1:=by omega
 refine ⟨?_,h5,by omega⟩
 simp only[qR,List.length_append]
 rw[e]
 omega
theorem rdTagsN_len:∀ (n:Nat) (acc:List (Nat × List UInt8)) (st:RSt),(qS n acc st).2.2=false->acc.Pairwise (fun x y=>x.1<y.1)->(∀ x ∈ acc,x.1<4294967296/\x.2.length<4294967296) →
  zC (qS n acc st).1+(qS n acc st).2.1.length<=zC acc+st.1.length/\(qS n acc st).1.Pairwise (fun x y=>x.1<y.1)/\(∀ x ∈ (qS n acc st).1,x.1<4294967296/\x.2.length<4294967296)/\(qS n acc st).1.length<=acc.length+n
 | 0,acc,st,h,h1,h2=>⟨Nat.le_refl _,h1,h2,by simp[qS]⟩
 | n+1,acc,st,h,h1,h2=>by
  simp only[qS] at h ⊢
  have ht:=rdTag_len (j7 n _ _ h)
  have ih:=rdTagsN_len n _ _ h (jG _ _ acc h1) (fun x hx=>by
   rcases kl _ _ acc x hx with rfl | hx
   ·exact ht.2
   ·exact h2 x hx)
  have hs:=wj (xp st).1.1 (xp st).1.2 acc
  have hl:=vL (xp st).1.1 (xp st).1.2 acc
  refine ⟨?_,ih.2.1,ih.2.2.1,?_⟩
  ·have:=ih.1
   have e:((xp st).1.1,(xp st).1.2)=(xp st).1:=rfl
   rw[e] at hs
   omega
  ·have:=ih.2.2.2
   omega
theorem rdTags_good {st:RSt} (h:(zi st).2.2=false):kY (zi st).1/\(zX (zi st).1).length+(zi st).2.1.length<=st.1.length:=by
 unfold zi at h ⊢
 have h1:=rdTagsN_len _ _ _ h List.Pairwise.nil (fun x hx=>by simp at hx)
 have h2:=js (j7 _ _ _ h)
 have h3:=ze st
 obtain ⟨g1,g2,g3,g4⟩:=h1
 simp only[List.length_nil,Nat.zero_add] at g4
 refine ⟨⟨⟨g2,fun x hx=>(g3 x hx).1⟩,by omega,fun x hx=>(g3 x hx).2⟩,?_⟩
 have h5:=uvar_le (n:=(qS (qp st).1 [] (qp st).2).1.length) (by omega) g4
 simp only[zX,List.length_append]
 have e:zC ([]:List (Nat × List UInt8))=0:=rfl
 rw[e] at g1
 unfold zC at g1
 omega
theorem rdTagsNK_of {ck:Nat->List UInt8->Bool}:∀ (n:Nat) (acc:List (Nat × List UInt8)) (st:RSt),(qD ck n acc st).2.2=false->qD ck n acc st=qS n acc st
 | 0,acc,st,h=>rfl
 | n+1,acc,st,h=>by
  simp only[qD,qS] at h ⊢
  have h1:=zL n _ _ h
  simp only[Bool.or_eq_false_iff] at h1
  have e:((xp st).2.1,(xp st).2.2 || !ck (xp st).1.1 (xp st).1.2)=(xp st).2:=by rw[h1.2,Bool.or_false]
  rw[e] at h ⊢
  exact rdTagsNK_of n _ _ h
theorem rdTagsK_of {ck:Nat->List UInt8->Bool} {st:RSt} (h:(zD ck st).2.2=false):zD ck st=zi st:=rdTagsNK_of _ _ _ h
theorem yD {ck:Nat->List UInt8->Bool}:∀ (n:Nat) (acc:List (Nat × List UInt8)) (st:RSt),acc.Pairwise (fun x y=>x.1<y.1)->(qD ck n acc st).1.Pairwise (fun x y=>x.1<y.1)
 | 0,acc,st,h=>h
 | n+1,acc,st,h=>yD n _ _ (jG _ _ acc h)
theorem rdTagsNK_ck {ck:Nat->List UInt8->Bool}:∀ (n:Nat) (acc:List (Nat × List UInt8)) (st:RSt),(qD ck n acc st).2.2=false->(∀ x ∈ acc,ck x.1 x.2=true)->∀ x ∈ (qD ck n acc st).1,ck x.1 x.2=true
 | 0,acc,st,h,ha=>ha
 | n+1,acc,st,h,ha=>by
  simp only[qD] at h ⊢
  have h1:=zL n _ _ h
  simp only[Bool.or_eq_false_iff,Bool.not_eq_false'] at h1
  refine rdTagsNK_ck n _ _ h (fun x hx=>?_)
  rcases kl _ _ acc x hx with rfl | hx
  ·exact h1.2
  ·exact ha x hx
inductive Shr:List (Nat × List UInt8)->List (Nat × List UInt8)->Prop where
 | nil:Shr [] []
 | drop {a b:List (Nat × List UInt8)} (x:Nat × List UInt8):Shr a b->Shr a (x::b)
 | keep {a b:List (Nat × List UInt8)} {x y:Nat × List UInt8}:Shr a b->y.1=x.1->y.2.length<=x.2.length->Shr (y::a) (x::b)
theorem Shr.refl:∀ l,Shr l l
 | []=>.nil
 | x::l=>.keep (Shr.refl l) rfl (Nat.le_refl _)
theorem Shr.mem {a b:List (Nat × List UInt8)} (h:Shr a b):∀ y ∈ a,∃ x ∈ b,x.1=y.1/\y.2.length<=x.2.length:=by
 induction h with
 | nil=>intro y hy;simp at hy
 | drop x _ ih=>intro y hy;obtain ⟨z,h1,h2⟩:=ih y hy;exact ⟨z,by simp[h1],h2⟩
 | keep _ h1 h2 ih =>
  intro z hz
  rcases List.mem_cons.1 hz with rfl | hz
  ·exact ⟨_,by simp,h1.symm,h2⟩
  ·obtain ⟨u,g1,g2⟩:=ih z hz;exact ⟨u,by simp[g1],g2⟩
theorem Shr.sorted {a b:List (Nat × List UInt8)} (h:Shr a b):b.Pairwise (fun x y=>x.1<y.1)->a.Pairwise (fun x y=>x.1<y.1):=by
 induction h with
 | nil=>exact fun h=>h
 | drop x _ ih=>exact fun h=>ih (List.pairwise_cons.1 h).2
 | keep hs h1 _ ih =>
  intro h
  have h2:=List.pairwise_cons.1 h
  refine List.pairwise_cons.2 ⟨fun z hz=>?_,ih h2.2⟩
  obtain ⟨u,g1,g2,_⟩:=hs.mem z hz
  have:=h2.1 u g1
  omega
theorem Shr.len {a b:List (Nat × List UInt8)} (h:Shr a b):a.length<=b.length:=by
 induction h with
 | nil=>exact Nat.le_refl _
 | drop x _ ih=>simp only[List.length_cons];omega
 | keep _ _ _ ih=>simp only[List.length_cons];omega
theorem Shr.sum {a b:List (Nat × List UInt8)} (h:Shr a b):(∀ x ∈ b,x.2.length<4294967296)->zC a<=zC b:=by
 induction h with
 | nil=>exact fun _=>Nat.le_refl _
 | drop x _ ih=>intro h;have:=ih (fun y hy=>h y (by simp[hy]));rw[zy];omega
 | @keep a b x y _ h1 h2 ih =>
  intro h
  have:=ih (fun y hy=>h y (by simp[hy]))
  have hx:=h x (by simp)
  rw[zy,zy]
  simp only[qR,List.length_append,h1]
  have:=uvar_le (n:=y.2.length) (k:=x.2.length) (by omega) h2
  omega
theorem yi {k:Nat} {p:List UInt8}:∀ {l:List (Nat × List UInt8)},(∀ x ∈ l,k<x.1)->qx k p l=(k,p)::l
 | [],_=>rfl
 | x::l,h=>by simp only[qx];rw[if_pos (h x (by simp))]
theorem Shr.set {a b:List (Nat × List UInt8)} (k:Nat) (p:List UInt8) (h:Shr a b):b.Pairwise (fun x y=>x.1<y.1)->Shr (qx k p a) (qx k p b):=by
 induction h with
 | nil=>exact fun _=>.keep .nil rfl (Nat.le_refl _)
 | @drop a b x hs ih =>
  intro hb
  have h2:=List.pairwise_cons.1 hb
  have ha:∀ z ∈ a,x.1<z.1:=fun z hz=>by
   obtain ⟨u,g1,g2,_⟩:=hs.mem z hz
   have:=h2.1 u g1
   omega
  simp only[qx]
  split
  ·rw[yi (fun z hz=>by have:=ha z hz;omega)]
   exact .keep (.drop _ hs) rfl (Nat.le_refl _)
  ·split
   ·rw[yi (fun z hz=>by have:=ha z hz;omega)]
    exact .keep hs rfl (Nat.le_refl _)
   ·exact .drop _ (ih h2.2)
 | @keep a b x y hs h1 h3 ih =>
  intro hb
  have h2:=List.pairwise_cons.1 hb
  simp only[qx,h1]
  split
  ·exact .keep (.keep hs h1 h3) rfl (Nat.le_refl _)
  ·split
   ·exact .keep hs rfl (Nat.le_refl _)
   ·exact .keep (ih h2.2) h1 h3
theorem Shr.filter (k:Nat):∀ l:List (Nat × List UInt8),Shr (l.filter fun x=>x.1 != k) l
 | []=>.nil
 | x::l=>by
  rw[List.filter_cons]
  split
  ·exact .keep (Shr.filter k l) rfl (Nat.le_refl _)
  ·exact .drop _ (Shr.filter k l)
theorem Shr.put {k:Nat} {p:List UInt8}:∀ {l:List (Nat × List UInt8)} {x:Nat × List UInt8},l.Pairwise (fun x y=>x.1<y.1)->l.find? (fun x=>x.1==k)=some x->p.length<=x.2.length->Shr (qx k p (l.filter fun x=>x.1 != k)) l
 | [],x,_,h,_=>by cases h
 | y::l,x,hs,h,hp=>by
  have h2:=List.pairwise_cons.1 hs
  rw[List.find?_cons] at h
  by_cases hy:y.1=k
  ·have e:(y.1==k)=true:=by simpa using hy
   rw[e] at h
   simp only[Option.some.injEq] at h
   subst h
   rw[List.filter_cons]
   simp only[bne,e,Bool.not_true,Bool.false_eq_true,if_false]
   have hl:∀ z ∈ l,k<z.1:=fun z hz=>by have:=h2.1 z hz;omega
   rw[List.filter_eq_self.2 (fun z hz=>by have:=hl z hz;simp;omega),yi hl]
   exact .keep (Shr.refl l) hy.symm hp
  ·have e:(y.1==k)=false:=by simpa using hy
   rw[e] at h
   rw[List.filter_cons]
   simp only[bne,e,Bool.not_false,if_true]
   have ih:=Shr.put (p:=p) h2.2 h hp
   simp only[qx]
   have hxm:=List.mem_of_find?_eq_some h
   have hxk:x.1=k:=by simpa using List.find?_some h
   have:=h2.1 x hxm
   rw[if_neg (by omega),if_neg (by omega)]
   exact .keep ih rfl (Nat.le_refl _)
theorem Ver.addTag_sorted (v:Ver) (fx d:Bool) (p:List UInt8) {tags:List (Nat × List UInt8)} (h:tags.Pairwise (fun x y=>x.1<y.1)):(v.addTag fx d p tags).Pairwise (fun x y=>x.1<y.1):=by
 unfold Ver.addTag
 split
 ·split
  ·exact jG _ _ _ h
  ·exact h
 ·exact h
theorem Flds.good_shr (fx:Bool) (ver:Nat):∀ (fs:Flds) (l:List D) {a b:List (Nat × List UInt8)},Shr a b->b.Pairwise (fun x y=>x.1<y.1)->fs.good fx ver l b->fs.good fx ver l a/\(fs.wr fx ver l a).length<=(fs.wr fx ver l b).length
 | .nil _,[],a,b,hs,hb,h=>by
  simp only[Flds.good] at h ⊢
  cases fx with
  | true =>
   simp only[if_true] at h ⊢
   obtain ⟨⟨h1,h2⟩,h3,h4⟩:=h
   have hl:=hs.len
   refine ⟨⟨⟨hs.sorted h1,fun y hy=>?_⟩,by omega,fun y hy=>?_⟩,?_⟩
   ·obtain ⟨u,g1,g2,_⟩:=hs.mem y hy;have:=h2 u g1;omega
   ·obtain ⟨u,g1,_,g3⟩:=hs.mem y hy;have:=h4 u g1;omega
   ·have:=hs.sum h4
    have h5:=uvar_le (n:=a.length) (k:=b.length) (by omega) hl
    simp only[Flds.wr,if_true,zX,List.length_append]
    unfold zC at this
    omega
  | false =>
   simp only[Bool.false_eq_true,if_false] at h ⊢
   subst h
   have:=hs.len
   simp only[List.length_nil,Nat.le_zero,List.length_eq_zero_iff] at this
   exact ⟨this,by simp[Flds.wr]⟩
 | .nil _,_::_,a,b,hs,hb,h=>by simp[Flds.good] at h
 | .cons v t r,[],a,b,hs,hb,h=>by simp[Flds.good] at h
 | .cons v t r,d::l,a,b,hs,hb,h=>by
  simp only[Flds.good] at h ⊢
  have hs':Shr (v.addTag fx (t.isD d) (t.wr fx ver d) a) (v.addTag fx (t.isD d) (t.wr fx ver d) b):=by
   unfold Ver.addTag
   split
   ·split
    ·exact hs.set _ _ hb
    ·exact hs
   ·exact hs
  have ih:=Flds.good_shr fx ver r l hs' (v.addTag_sorted fx _ _ hb) h.2
  refine ⟨⟨?_,ih.1⟩,?_⟩
  ·cases hv:v.has ver with
   | true=>simpa [hv] using h.1
   | false =>
    have h1:=h.1
    simp only[hv,Bool.false_eq_true,if_false] at h1 ⊢
    cases v with
    | tag k lb =>
     refine ⟨h1.1,fun y hy=>?_⟩
     obtain ⟨u,g1,g2,_⟩:=hs.mem y hy
     have:=h1.2 u g1
     omega
    | _=>exact h1
  ·simp only[Flds.wr,List.length_append]
   have:=ih.2
   omega
theorem Ty.dfG_ok {fx:Bool} {ver:Nat} {t:Ty} (h:t.dfG=true):t.good fx ver t.dflt/\∀ d,t.good fx ver d->t.isD d=true->d=t.dflt:=by
 cases t with
 | scal c df =>
  have h:(c.rd (c.wr df,false)).1=df:=by simpa [Ty.dfG] using h
  refine ⟨by simp only[Ty.dflt,Ty.good];rw[← h];exact c.rd_ok _,fun d hd hi=>?_⟩
  cases d<;>simp only[Ty.good] at hd
  simp only[Ty.isD,beq_iff_eq] at hi
  simp[Ty.dflt,hi]
 | list TS null e =>
  cases null with
  | none =>
   refine ⟨.inl rfl,fun d hd hi=>?_⟩
   cases d with
   | list o =>
    cases o with
    | none=>rfl
    | some l =>
     simp only[Ty.good] at hd
     simp only[Ty.isD,Option.getD_some,List.isEmpty_iff] at hi
     exact absurd hi (hd.1 trivial)
   | _=>simp only[Ty.good] at hd
  | some N=>cases h
 | _=>cases h
theorem Flds.rd_noTags (ver:Nat):∀ (fs:Flds) (ck:Nat->List UInt8->Bool) (st:RSt),(fs.rd false ver ck st).2.1=[]
 | .nil _,ck,st=>by simp[Flds.rd]
 | .cons v t r,ck,st=>by
  simp only[Flds.rd]
  split
  ·exact Flds.rd_noTags ver r ck _
  ·unfold Ver.dropT
   split
   ·simp only[Flds.rd_noTags ver r,List.filter_nil]
   ·exact Flds.rd_noTags ver r _ _
theorem Flds.rd_sorted (fx:Bool) (ver:Nat):∀ (fs:Flds) (ck:Nat->List UInt8->Bool) (st:RSt),(fs.rd fx ver ck st).2.1.Pairwise (fun x y=>x.1<y.1)
 | .nil _,ck,st=>by
  simp only[Flds.rd]
  split
  ·exact yD _ _ _ List.Pairwise.nil
  ·exact List.Pairwise.nil
 | .cons v t r,ck,st=>by
  simp only[Flds.rd]
  split
  ·exact Flds.rd_sorted fx ver r ck _
  ·unfold Ver.dropT
   split
   ·exact (Flds.rd_sorted fx ver r _ _).filter _
   ·exact Flds.rd_sorted fx ver r _ _
theorem Flds.rd_ck (ver:Nat):∀ (fs:Flds) (ck:Nat->List UInt8->Bool) (st:RSt),(fs.rd true ver ck st).2.2.2=false->∀ x ∈ (fs.rd true ver ck st).2.1,ck x.1 x.2=true
 | .nil _,ck,st,h=>by
  simp only[Flds.rd,if_true] at h ⊢
  exact rdTagsNK_ck _ _ _ h (fun x hx=>by simp at hx)
 | .cons v t r,ck,st,h=>by
  simp only[Flds.rd] at h ⊢
  split
  ·rename_i hv
   rw[if_pos hv] at h
   exact Flds.rd_ck ver r ck _ h
  ·rename_i hv
   rw[if_neg hv] at h
   have ih:=Flds.rd_ck ver r _ _ h
   cases v with
   | tag k lb =>
    intro x hx
    simp only[Ver.dropT,List.mem_filter] at hx
    have:=ih x hx.1
    have hne:x.1≠k:=by simpa using hx.2
    simpa only[Ver.ckT,if_neg hne] using this
   | _=>exact ih
theorem rdMany_good {f:RSt->D × RSt} {g:D->List UInt8} {p:D->Prop} (hm:∀ st,(f st).2.2=false->st.2=false) (hf:∀ st,(f st).2.2=false->p (f st).1/\(g (f st).1).length+(f st).2.1.length<=st.1.length) :
  ∀ (n:Nat) (st:RSt),(qX f n st).2.2=false->(∀ d ∈ (qX f n st).1,p d)/\((qX f n st).1.map g).flatten.length+(qX f n st).2.1.length<=st.1.length
 | 0,st,h=>by simp[qX]
 | n+1,st,h=>by
  simp only[qX] at h ⊢
  have ih:=rdMany_good hm hf n _ h
  have h1:=hf st (yT hm n _ h)
  refine ⟨fun d hd=>?_,?_⟩
  ·rcases List.mem_cons.1 hd with rfl | hd
   ·exact h1.1
   ·exact ih.1 d hd
  ·simp only[List.map_cons,List.flatten_cons,List.length_append]
   have:=ih.2
   have:=h1.2
   omega
theorem vM (f:RSt->D × RSt):∀ (n:Nat) (st:RSt),(qX f n st).1.length=n
 | 0,_=>rfl
 | n+1,st=>by simp[qX,vM f n]
theorem wl {p:Int × RSt} (h:(qP p).2.2=false):(p.1<0/\qP p=(none,p.2))\/∃ l:List UInt8,(l.length:Int)=p.1/\(qP p).1=some l/\l.length+(qP p).2.1.length<=p.2.1.length:=by
 unfold qP at h ⊢
 by_cases hp:p.1<0
 ·rw[if_pos hp];exact .inl ⟨hp,rfl⟩
 ·rw[if_neg hp] at h ⊢
  have:=jz h
  exact .inr ⟨_,this.1,rfl,this.2⟩
theorem Scal.rd_len {k:Scal} {st:RSt} (h:(k.rd st).2.2=false):(k.wr (k.rd st).1).length+(k.rd st).2.1.length<=st.1.length:=by
 cases k<;>(have h':=vy h;simp only[Scal.rd,Scal.wr,qG,List.length_cons,List.length_nil];exact h')
mutual
theorem Ty.rd_good (fx:Bool) (ver:Nat):∀ (t:Ty) (st:RSt),t.lp fx ver=true->(t.rd fx ver st).2.2=false->t.good fx ver (t.rd fx ver st).1/\(t.wr fx ver (t.rd fx ver st).1).length+(t.rd fx ver st).2.1.length<=st.1.length
 | .scal s _,st,hp,h | .named s _ _,st,hp,h=>by
  simp only[Ty.rd] at h ⊢
  exact ⟨s.rd_ok st,Scal.rd_len h⟩
 | .uuid,st,hp,h=>by
  simp only[Ty.rd] at h ⊢
  have:=jz h
  refine ⟨?_,?_⟩
  ·simp only[Ty.good];omega
  ·simp only[Ty.wr];omega
 | .text,st,hp,h=>by
  simp only[Ty.rd,zz] at h ⊢
  have h1:=jz h
  have h2:=rdL_len (qO h) _ h1.1
  refine ⟨wQ h1.1,?_⟩
  simp only[Ty.wr,xS,List.length_append]
  omega
 | .ntext,st,hp,h=>by
  simp only[Ty.rd] at h ⊢
  rcases wl h with ⟨h1,e⟩ | ⟨l,h1,e,h2⟩
  ·rw[e] at h ⊢
   refine ⟨trivial,?_⟩
   have:=rdL_min (fx:=fx) h
   simp only[Ty.wr,xL]
   cases fx<;>simp only[Bool.false_eq_true,if_false,if_true,qG,List.length_cons,List.length_nil] at this ⊢<;>omega
  ·have h3:=rdL_len (jj h) _ h1
   rw[e]
   refine ⟨wQ h1,?_⟩
   simp only[Ty.wr,xL,xS,List.length_append]
   omega
 | .ntextFrom N,st,hp,h=>by
  simp only[Ty.rd] at h ⊢
  by_cases hN:ver<N
  ·rw[if_pos hN] at h ⊢
   simp only[zz] at h ⊢
   have h1:=jz h
   have h2:=rdL_len (qO h) _ h1.1
   refine ⟨wQ h1.1,?_⟩
   simp only[Ty.wr,if_pos hN,Option.getD_some,xS,List.length_append]
   omega
  ·rw[if_neg hN] at h ⊢
   rcases wl h with ⟨h1,e⟩ | ⟨l,h1,e,h2⟩
   ·rw[e] at h ⊢
    refine ⟨by simp only[Ty.good];omega,?_⟩
    have:=rdL_min (fx:=fx) h
    simp only[Ty.wr,if_neg hN,xL]
    cases fx<;>simp only[Bool.false_eq_true,if_false,if_true,qG,List.length_cons,List.length_nil] at this ⊢<;>omega
   ·have h3:=rdL_len (jj h) _ h1
    rw[e]
    refine ⟨wQ h1,?_⟩
    simp only[Ty.wr,if_neg hN,xL,xS,List.length_append]
    omega
 | .bytes,st,hp,h=>by
  simp only[Ty.rd] at h ⊢
  by_cases hn:(xX fx st).1 = -1
  ·have e:xN (xX fx st)=(some [],(xX fx st).2):=by unfold xN;rw[if_pos hn]
   rw[e] at h ⊢
   have:=rdLB_min (fx:=fx) h
   refine ⟨?_,?_⟩
   ·simp only[Ty.good,yX];cases fx<;>simp
   ·simp only[Ty.wr,xb,Option.getD_some,List.append_nil]
    cases fx
    ·simp only[Bool.false_eq_true,if_false,qG] at this ⊢;omega
    ·simp only[if_true] at this ⊢
     have e:(Go.Km.uvar ([]:List UInt8).length.succ).length=1:=by decide
     have e2:(Go.Km.uvar (([]:List UInt8).length+1)).length=1:=by decide
     omega
  ·have e:xN (xX fx st)=(some (qr (xX fx st).1 (xX fx st).2).1,(qr (xX fx st).1 (xX fx st).2).2):=by unfold xN;rw[if_neg hn]
   rw[e] at h ⊢
   have h1:=jz h
   have h2:=rdLB_len (qO h) _ h1.1
   refine ⟨octOk_of h1.1,?_⟩
   simp only[Ty.wr,xb,Option.getD_some,List.length_append]
   have:=h1.2
   omega
 | .nbytes,st,hp,h=>by
  simp only[Ty.rd] at h ⊢
  rcases wl h with ⟨h1,e⟩ | ⟨l,h1,e,h2⟩
  ·rw[e] at h ⊢
   refine ⟨trivial,?_⟩
   have:=rdLB_min (fx:=fx) h
   simp only[Ty.wr,xm]
   cases fx<;>simp only[Bool.false_eq_true,if_false,if_true,qG,List.length_cons,List.length_nil] at this ⊢<;>omega
  ·have h3:=rdLB_len (jj h) _ h1
   rw[e]
   refine ⟨octOk_of h1,?_⟩
   simp only[Ty.wr,xm,xb,List.length_append]
   omega
 | .list TS null e,st,hp,h=>by
  simp only[Ty.lp,Bool.and_eq_true] at hp
  have hnb:(xl fx st).2.2=false:=by
   simp only[Ty.rd] at h
   split at h
   ·exact h
   ·rename_i hh;simpa using hh
  have hmin:=rdCn_min hnb
  have e0:(Go.Km.uvar (0+1)).length=1:=by decide
  by_cases hl:(xl fx st).1<=0
  ·have e:(Ty.list TS null e).rd fx ver st=(if j4 null ver (xl fx st).1 then .list (some []) else .list none,(xl fx st).2):=by
    simp only[Ty.rd,hnb,Bool.false_eq_true,if_false]
    rw[if_pos hl]
   rw[e]
   simp only
   by_cases he:j4 null ver (xl fx st).1=true
   ·rw[if_pos he]
    refine ⟨⟨fun hn=>?_,by simp,fun d hd=>by simp at hd⟩,?_⟩
    ·subst hn;simp[j4] at he
    ·simp only[Ty.wr,zk,List.length_nil,List.map_nil,List.flatten_nil,List.append_nil]
     cases fx<;>simp only[Bool.false_eq_true,if_false,if_true,qG] at hmin ⊢<;>omega
   ·rw[if_neg he]
    refine ⟨?_,?_⟩
    ·simp only[Ty.good]
     cases null with
     | none=>exact .inl rfl
     | some N =>
      refine .inr ⟨N,rfl,?_⟩
      simp only[j4,Bool.or_eq_true,decide_eq_true_eq,not_or] at he
      omega
    ·simp only[Ty.wr]
     split
     ·simp only[jb]
      cases fx<;>simp only[Bool.false_eq_true,if_false,if_true,qG,List.length_cons,List.length_nil] at hmin ⊢<;>omega
     ·simp only[zk]
      cases fx<;>simp only[Bool.false_eq_true,if_false,if_true,qG] at hmin ⊢<;>omega
  ·have e1:(Ty.list TS null e).rd fx ver st=(.list (some (qX (fun s=>e.rd fx ver s) (xl fx st).1.toNat (xl fx st).2).1),(qX (fun s=>e.rd fx ver s) (xl fx st).1.toNat (xl fx st).2).2):=by
    simp only[Ty.rd,hnb,Bool.false_eq_true,if_false]
    rw[if_neg hl]
   rw[e1] at h ⊢
   have hg:=rdMany_good (f:=fun s=>e.rd fx ver s) (g:=fun d=>e.wr fx ver d) (p:=fun d=>e.good fx ver d) (fun st h=>Ty.rd_mono fx ver e st h) (fun st h=>Ty.rd_good fx ver e st hp.2 h) _ _ h
   have hlen:=vM (fun s=>e.rd fx ver s) (xl fx st).1.toNat (xl fx st).2
   have hr:=rdCn_rng hnb
   have hcl:=rdCn_len hnb (xl fx st).1.toNat (by omega)
   refine ⟨⟨fun _ hn=>?_,by rw[hlen];omega,hg.1⟩,?_⟩
   ·rw[hn] at hlen;simp at hlen;omega
   ·simp only[Ty.wr,List.length_append]
    rw[hlen]
    have:=hg.2
    omega
 | .struct _ _ _ fs,st,hp,h=>by
  simp only[Ty.rd] at h ⊢
  simp only[Ty.lp] at hp
  have:=Flds.rd_good fx ver fs noK st hp h
  exact ⟨this.1,this.2⟩
 | .nstruct _ _ _ fs _,st,hp,h=>by
  simp only[Ty.lp] at hp
  by_cases hc:(Scal.i8.rd st).1 = -1\/(Scal.i8.rd st).2.2=true
  ·simp only[Ty.rd,if_pos hc] at h ⊢
   have:=Scal.rd_len (k:=.i8) h
   refine ⟨trivial,?_⟩
   simp only[Scal.wr,qG] at this
   simp only[Ty.wr,List.length_cons,List.length_nil]
   exact this
  ·simp only[Ty.rd,if_neg hc] at h ⊢
   have h0:=Flds.rd_mono fx ver fs _ h
   have h1:=Scal.rd_len (k:=.i8) h0
   have h2:=Flds.rd_good fx ver fs noK _ hp h
   refine ⟨h2.1,?_⟩
   simp only[Scal.wr,qG] at h1
   have h3:=h2.2
   simp only[Ty.wr,List.length_cons]
   omega
theorem Flds.rd_good (fx:Bool) (ver:Nat):∀ (fs:Flds) (ck:Nat->List UInt8->Bool) (st:RSt),fs.lp fx ver=true->(fs.rd fx ver ck st).2.2.2=false->fs.good fx ver (fs.rd fx ver ck st).1 (fs.rd fx ver ck st).2.1/\(fs.wr fx ver (fs.rd fx ver ck st).1 (fs.rd fx ver ck st).2.1).length+(fs.rd fx ver ck st).2.2.1.length<=st.1.length
 | .nil _,ck,st,hp,h=>by
  cases fx with
  | true =>
   simp only[Flds.rd,if_true] at h ⊢
   have hk:=rdTagsK_of h
   rw[hk] at h ⊢
   have:=rdTags_good h
   refine ⟨?_,?_⟩
   ·simp only[Flds.good,if_true];exact this.1
   ·simp only[Flds.wr,if_true];exact this.2
  | false=>simp[Flds.rd,Flds.good,Flds.wr]
 | .cons v t r,ck,st,hp,h=>by
  simp only[Flds.lp,Bool.and_eq_true,Bool.or_eq_true,Bool.not_eq_true'] at hp
  cases hv:v.has ver with
  | true =>
   have hnt:=Ver.has_noTag hv
   have hpt:t.lp fx ver=true:=by
    rcases hp.1.1 with h | h
    ·rw[hv] at h;cases h.1
    ·exact h
   have e:(Flds.cons v t r).rd fx ver ck st=((t.rd fx ver st).1::(r.rd fx ver ck (t.rd fx ver st).2).1,(r.rd fx ver ck (t.rd fx ver st).2).2):=by simp only[Flds.rd,hv,if_true]
   rw[e] at h ⊢
   have h1:=Flds.rd_good fx ver r ck _ hp.2 h
   have h2:=Ty.rd_good fx ver t st hpt (Flds.rd_mono fx ver r _ h)
   refine ⟨?_,?_⟩
   ·simp only[Flds.good,hv,if_true,Ver.addTag_no hnt]
    exact ⟨h2.1,h1.1⟩
   ·simp only[Flds.wr,hv,if_true,List.length_append,Ver.addTag_no hnt]
    have:=h1.2
    have:=h2.2
    omega
  | false =>
   cases htg:v.isTag with
   | false =>
    have e:(Flds.cons v t r).rd fx ver ck st=(t.dflt::(r.rd fx ver ck st).1,(r.rd fx ver ck st).2):=by simp only[Flds.rd,hv,Bool.false_eq_true,if_false,Ver.ckT_no htg,Ver.getT_no htg,Ver.dropT_no htg]
    rw[e] at h ⊢
    have h1:=Flds.rd_good fx ver r ck _ hp.2 h
    refine ⟨?_,?_⟩
    ·simp only[Flds.good,hv,Bool.false_eq_true,if_false,Ver.addTag_no htg]
     exact ⟨(Ver.okD_no htg).2 trivial,h1.1⟩
    ·simp only[Flds.wr,hv,Bool.false_eq_true,if_false,List.nil_append,Ver.addTag_no htg]
     exact h1.2
   | true =>
    cases v with
    | tag k lb =>
     have hpt:t.lp fx ver=true:=by
      rcases hp.1.1 with h | h
      ·cases h.2
      ·exact h
     have hdf:t.dfG=true:=by
      rcases hp.1.2 with h | h
      ·cases h
      ·exact h
     have hdg:=Ty.dfG_ok (fx:=fx) (ver:=ver) hdf
     simp only[Flds.rd,Ver.has,Bool.false_eq_true,if_false,Ver.dropT] at h ⊢
     generalize hck':(Ver.tag k lb).ckT (fun p=>!(t.rd fx ver (p,false)).2.2) ck=ck' at h ⊢
     have h1:=Flds.rd_good fx ver r ck' st hp.2 h
     have hsrt:=Flds.rd_sorted fx ver r ck' st
     have hnk:∀ x ∈ (r.rd fx ver ck' st).2.1.filter (fun x=>x.1 != k),x.1≠k:=fun x hx=>by simpa using (List.mem_filter.1 hx).2
     cases fx with
     | false =>
      have h0:=Flds.rd_noTags ver r ck' st
      simp only[Flds.good,Flds.wr,Ver.has,Bool.false_eq_true,if_false,Ver.okD,Ver.addTag,Bool.false_and,List.nil_append,h0,List.filter_nil,Ver.getT,List.find?_nil] at h1 ⊢
      exact ⟨⟨⟨trivial,fun x hx=>by simp at hx⟩,h1.1⟩,h1.2⟩
     | true =>
      have hfin:∀ (d:D) (tags2:List (Nat × List UInt8)),t.good true ver d->tags2=(if true && !t.isD d then qx k (t.wr true ver d) ((r.rd true ver ck' st).2.1.filter (fun x=>x.1 != k)) else (r.rd true ver ck' st).2.1.filter (fun x=>x.1 != k))->Shr tags2 (r.rd true ver ck' st).2.1 →
        (Flds.cons (.tag k lb) t r).good true ver (d::(r.rd true ver ck' st).1) ((r.rd true ver ck' st).2.1.filter (fun x=>x.1 != k))/\((Flds.cons (.tag k lb) t r).wr true ver (d::(r.rd true ver ck' st).1) ((r.rd true ver ck' st).2.1.filter (fun x=>x.1 != k))).length+(r.rd true ver ck' st).2.2.1.length<=st.1.length:=by
       intro d tags2 hgd ht2 hshr
       have hg2:=Flds.good_shr true ver r _ hshr hsrt h1.1
       rw[ht2] at hg2
       refine ⟨?_,?_⟩
       ·simp only[Flds.good,Ver.has,Bool.false_eq_true,if_false,Ver.okD,Ver.addTag]
        exact ⟨⟨by simp only[if_true];exact ⟨hgd,hdg.2 d hgd⟩,hnk⟩,hg2.1⟩
       ·simp only[Flds.wr,Ver.has,Bool.false_eq_true,if_false,Ver.addTag,List.nil_append]
        have:=hg2.2
        have:=h1.2
        omega
      cases hf:(r.rd true ver ck' st).2.1.find? (fun x=>x.1==k) with
      | none =>
       have hd:(Ver.tag k lb).getT t.dflt (fun p=>(t.rd true ver (p,false)).1) (r.rd true ver ck' st).2.1=t.dflt:=by simp only[Ver.getT,hf]
       rw[hd]
       have hnf:∀ x ∈ (r.rd true ver ck' st).2.1,x.1≠k:=fun x hx=>by simpa using List.find?_eq_none.1 hf x hx
       have hDD:t.isD t.dflt=true:=by cases t<;>simp_all [Ty.dfG,Ty.isD,Ty.dflt]
       refine hfin t.dflt _ hdg.1 rfl ?_
       rw[hDD]
       exact Shr.filter k _
      | some x =>
       have hd:(Ver.tag k lb).getT t.dflt (fun p=>(t.rd true ver (p,false)).1) (r.rd true ver ck' st).2.1=(t.rd true ver (x.2,false)).1:=by simp only[Ver.getT,hf]
       rw[hd]
       have hx:=List.mem_of_find?_eq_some hf
       have hxk:x.1=k:=by simpa using List.find?_some hf
       have hckx:=Flds.rd_ck ver r ck' st h x hx
       rw[← hck'] at hckx
       simp only[Ver.ckT,hxk,if_true,Bool.not_eq_true'] at hckx
       have hg:=Ty.rd_good true ver t (x.2,false) hpt hckx
       refine hfin _ _ hg.1 rfl ?_
       split
       ·exact Shr.put hsrt hf (by have:=hg.2;simp only at this;omega)
       ·exact Shr.filter k _
    | _=>cases htg
end
end Go.Km
namespace Go.Km
open Go Go.RowKit
attribute [local irreducible] vc rO_ qz qI qF
theorem back_again {m:Msg} (hk:m.kept=false) {ver:Nat} (hl:m.fs.lp (m.isFlex ver) ver=true) {l a:List UInt8} (h:m.back ver l=some a):m.back ver a=some a/\a.length<=l.length:=by
 have e:∀ x,m.rst x=(x,false):=fun x=>by simp[Msg.rst,hk]
 have hw:m.wfs=m.fs:=by simp[Msg.wfs,hk]
 have ho:∀ ds tags,m.out ver ds tags=m.fs.wr (m.isFlex ver) ver ds tags:=fun ds tags=>by simp[Msg.out,Msg.wdat,hw,hk]
 unfold Msg.back at h ⊢
 simp only[e,ho,Msg.rdv] at h ⊢
 cases hb:(m.fs.rd (m.isFlex ver) ver noK (l,false)).2.2.2 with
 | true=>rw[hb] at h;simp at h
 | false =>
  rw[hb] at h
  simp only[Bool.false_eq_true,if_false,Option.some.injEq] at h
  have hg:=Flds.rd_good (m.isFlex ver) ver m.fs noK (l,false) hl hb
  have hr:=Flds.rd_wr (m.isFlex ver) ver m.fs _ _ [] noK hl hg.1 (fun _ _ _=>rfl)
  rw[h,List.append_nil] at hr
  rw[hr]
  refine ⟨?_,?_⟩
  ·simp only[Bool.false_eq_true,if_false,h]
  ·have:=hg.2
   rw[h] at this
   simp only at this
   omega
def xj (P:Program) (E:Env) (W:World) (sv:Value) (l:List UInt8):Prop :=
 (∃ ad cap,sv=.slice ad l.length cap)/\∀ w',Below W.heap.size W w'->Src P 1 E.tB sv l.length (l.map bv) w'
theorem xn.bytesIn {P:Program} {E:Env} (HB:xd P E.tB E.tU8 1=true) {W:World} {sv:Value} {l:List UInt8} (h:xn W sv l):xj P E W sv l :=
 ⟨h.form,fun w' hb=>(h.below hb).src (rB HB)⟩
theorem xj.below {P:Program} {E:Env} {W W':World} {sv:Value} {l:List UInt8} (h:xj P E W sv l) (hb:Below W.heap.size W W'):xj P E W' sv l :=
 ⟨h.1,fun w' hb'=>h.2 w' (hb.trans (hb'.mono hb.size))⟩
def AgainC (P:Program) (E:Env) (m:Msg) (f:FuncId) (mx:Nat):Prop :=
 ∀ (ver:Nat) (l:List UInt8) (sv ev:Value) (W:World),ver<=mx->xj P E W sv l->l.length<=big->W.cell? ⟨E.vErr,0,none⟩=some ev->(∃ u z,ev=.iface u z) →
  qa P f #[.int .i64 ver,sv] W fun r w'=>BackV E (m.back ver l) W w' r
def lpB (m:Msg) (mx:Nat):Bool:=(List.range (mx+1)).all fun v=>m.fs.lp (m.isFlex v) v
theorem lpB_at {m:Msg} {mx ver:Nat} (h:lpB m mx=true) (hv:ver<=mx):m.fs.lp (m.isFlex ver) ver=true:=List.all_eq_true.1 h ver (List.mem_range.2 (by omega))
theorem againC {P:Program} {E:Env} {T:List (Nat × List UInt8)->Prop} (HW:EnvW P E T) (HI:EnvI P E) (HB:xd P E.tB E.tU8 1=true) (i16:qs P E.tI16=some .i16) (ii:qs P E.tI=some .i64) (o16:qQ P E.tI16=true) (oE:ju P E.tErr=true) {m:Msg} {N:MR} {np nt nps nts npa nta mx:Nat}
  (ht:Text P N.again np nt #[.tmp 4,.tmp 5] (c_again E m N)) (hn:19<=nt) (hN:NewC P N.newPtr m) (hs:Text P N.setV nps nts #[] (c_setV E m)) (hns:8<=nts) (ho:ql P m.TU 0=some 0) (hR:ReadC P E T m N.rd)
  (ha:Text P N.app npa nta #[.tmp 4] (m.wcode E)) (hna:m.wtop<=nta) (hokw:m.okW P E=true) (hk:m.kept=false) (hmx:mx<32768) (hlp:lpB m mx=true):AgainC P E m N.again mx :=
 fun ver l sv ev W hv hin hl he hev=>c_again_ok HW HI HB i16 ii o16 oE ht hn hN hs hns ho hR ha hna hokw hk (by omega) hin.2 hl he hev (fun x hx=>Nat.le_trans (back_again hk (lpB_at hlp hv) hx).2 hl)
def c_implMaxA (E:Env) (m:Msg) (np mv:FuncId):Code :=
 sq [rg [qc 0 (.const (.int .i64 0)) E.tI],rg [xf (some 1) np #[] #[] m.TP,xf (some 2) mv #[.tmp 1] #[m.TP] E.tI16,vP 3 E.tI16 E.tI (.tmp 2),qc 0 (.tmp 3) E.tI],.ret]
section
variable {P : Program} {E : Env}
theorem c_implMaxA_ok {m:Msg} {F npf mvf:FuncId} {np nt mx:Nat} (i16:qs P E.tI16=some .i16) (ii:qs P E.tI=some .i64) (ht:Text P F np nt #[.tmp 0] (c_implMaxA E m npf mvf)) (hn:4<=nt) (hN:NewC P npf m) (hM:∀ x w,qa P mvf #[x] w fun v w'=>v=.int .i16 mx/\w'=w) (hmx:mx<32768) (w:World) :
  qa P F #[] w fun v w'=>v=.int .i64 mx/\Below w.heap.size w w':=by
 refine qa.enter ht (by simp) ?_
 intro a hsz hdf harg
 unfold c_implMaxA
 refine vX (rA (dn (vX ?_)))
 refine q8 (args:=#[]) (by simp) (hN w) ?_
 rintro v w1 ⟨rfl,hb1,_⟩
 refine q8 (args:=#[.pointer (some ⟨w.heap.size,0,none⟩)]) ?_ (hM _ w1) ?_
 ·simp only[lM]
  simp (disch:=(try simp only[sP]);omega) only[eV]
 rintro v w2 ⟨rfl,rfl⟩
 refine qM (k:=.i16) (k':=.i64) (m:=(mx:Int)) i16 ii (by simp (disch:=(try simp only[sP]);omega) only[eV]) ?_
 rw[wrap_i64 (by omega) (by omega)]
 refine rA (dn (vS (vT ?_)))
 exact ⟨by simp only[dF];exact hdf,.int .i64 mx,rO (by simp (disch:=(try simp only[sP]);omega) only[eV]),rfl,hb1⟩
end
end Go.Km
namespace Go.Km
open Go Go.RowKit Go.ChangeShapes Go.WideShapes Go.ChangeAt
section
variable {H : Type} {enc : TypeId × Value → H} {P : Program} {E : Env}
theorem u8_nat' {a:Int} (h:(Lit.int .u8 a).wf=true):∃ n:Nat,a=(n:Int)/\n<256:=by
 have h2:IntKind.u8.min<=a/\a<=IntKind.u8.max:=by
  simpa [Lit.wf] using h
 have e1:IntKind.u8.min=0:=by decide
 have e2:IntKind.u8.max=255:=by decide
 rw[e1,e2] at h2
 exact ⟨a.toNat,by omega,by omega⟩
theorem vJ (hl:laidOutB P=true) {W W':World} (hb:Below W.heap.size W W'):∀ {ts:List TypeId} {vs:List Value} {ds:List (DataW H)} {ps:List MemPlace},
  (∀ t ∈ ts,P.readableRec t=true/\t<P.types.size)->DataW.TrodAll enc P W 0 (fun _=>true) true ts vs ds ps->(∀ x ∈ ps,x.block<W.heap.size)->DataW.TrodAll enc P W' 0 (fun b=>decide (b<W.heap.size)) true ts vs ds ps
 | [],vs,ds,ps,_,h,_=>by
  obtain ⟨rfl,rfl,rfl⟩:=trodAll_nil h
  exact trodAll_mk0
 | t::ts,vs,ds,ps,hr,h,hlt=>by
  obtain ⟨v,vs',d,ds',p,q,rfl,rfl,rfl,h1,h2⟩:=trodAll_cons h
  have ht:=hr t (by simp)
  exact trodAll_cons_mk (Below.trod hl ht.1 ht.2 h1 hb (fun x hx=>hlt x (by simp[hx]))) (vJ hl hb (fun t ht=>hr t (by simp[ht])) h2 (fun x hx=>hlt x (by simp[hx])))
theorem kH {f:Func} {s:ChangeSpec} {apart:Bool} {W W':World} {args:Array Value} {ds gs:List (DataW H)} {before:List MemPlace} {tb:TypeId} (hW:DataW.Whole enc P f.params.toList s.vars apart W args.toList ds gs before) (hvars:s.vars=[])
  (hl:laidOutB P=true) (hr:∀ t ∈ f.params.toList,P.readableRec t=true/\t<P.types.size) (hb:Below W.heap.size W W') (hrt:f.resultTypes=#[tb]) (hub:P.underlying tb=some .bool) (hfn:s.fn H ds={ results:=[.lit (.bool true)],args:=ds }) :
  s.post enc P f apart true false false W args (.bool true) W':=by
 have hW':=hW
 have hlt:=hW.lt
 obtain ⟨p,q,hA,hV,rfl,_,_⟩:=hW
 rw[hvars] at hV
 obtain ⟨rfl,rfl⟩:=trodVars_none hV
 refine ⟨ds,[],_,[],p,[],hW',?_,?_,?_,hb.frame _,fun h=>by cases h⟩
 ·rw[List.append_nil,hfn,hrt]
  exact trodAll_mk1 (shut_bool hub _)
 ·rw[List.append_nil,hfn]
  exact vJ hl hb hr hA (fun x hx=>hlt x (by simp[hx]))
 ·rw[List.append_nil,hfn,hvars]
  rfl
theorem laid_ev {W:World} {name nm:String} {d:DataW Unit} {g:Nat} {ti:TypeId} (hg:P.globalNamed name=some g) (hti:(P.globals[g]?).map (·.type)=some ti) (hi:ju P ti=true) (hnh:(DataW.iface nm d:DataW Unit).handleName?.isNone=true)
  (h:laidMetH P [(name,.iface nm d)] W):∃ ev,W.cell? ⟨g,0,none⟩=some ev/\∃ u z,ev=.iface u z:=by
 rw[MakeChecks.laidMetH_plain _ _ _ (by simpa using hnh)] at h
 obtain ⟨ps,⟨g',t,cs,fuel,p,q,h1,h2,h3,h4,_⟩,_⟩:=h
 rw[hg] at h1
 cases h1
 rw[hti] at h2
 cases h2
 obtain ⟨ms,hu⟩:∃ ms,P.underlying ti=some (.interface ms):=by
  unfold ju at hi
  split at hi
  ·rename_i ms h;exact ⟨ms,h⟩
  ·cases hi
 obtain ⟨_,u,v,hcs,_,_⟩:=iface_of_trod hu h4
 refine ⟨.iface u v,?_,u,v,rfl⟩
 have hcs':cs=#[.iface u v]:=Array.ext' hcs
 subst hcs'
 unfold World.var? at h3
 rw[hg] at h3
 simp only[Option.bind_some] at h3
 split at h3
 ·rename_i c T fr hh
  simp only[Option.some.injEq] at h3
  subst h3
  simp[World.cell?,hh]
 ·cases h3
end
end Go.Km
namespace Go.Km
open Go Go.RowKit
attribute [local irreducible] vc rO_ qz qI qF
def zI (k:Nat):Value:=.int .u32 (k:Int)
def ltU (a b:Nat):Bool:=decide (a<b)
theorem swoU:Go.Sort.SWO ltU:=⟨fun x=>by simp[ltU],fun x y z h1 h2=>by simp only[ltU,decide_eq_true_eq] at *;omega,fun x y z h1 h2=>by simp only[ltU,decide_eq_false_iff_not] at *;omega⟩
structure SortE (P:Program) (E:Env):Prop where
 mixed:P.follows .mixedOrders=true
 row:xd P E.tU32s E.tW 1=true
 oU32s:qQ P E.tU32s=true
 zU32s:qH P E.tU32s=some (.slice none 0 0)
 oU32:qQ P E.tW=true
 iu:qs P E.tW=some .u32
 L:∃ ρ:Go.Shelf.Ren,Go.Proofs.LaysGg.n6 P ρ/\ρ.f 6=E.sortSlice
 enters:Enters P E.sortSlice
 info:∃ i ie,P.info? E.tU32s=some i/\i.desc=.slice E.tW/\P.packed E.tU32s=false/\P.info? E.tW=some ie/\ie.size=1/\ie.hasPointers=false/\ie.bytes=4
 kind:∀ w,(Extern.Rtype.kind E.tW).run P w=.ok 10 w
 sw2:∃ f,P.funcs.findIdx? (·.name == "internal/reflectlite" ++ ".Swapper$"++toString 2)=some f
 sw6:∃ f gS,P.funcs.findIdx? (·.name == "internal/reflectlite" ++ ".Swapper$"++toString 6)=some f/\∀ args W,(callFunc f args).run P W=((Extern.ReflectliteSwapper.swap gS args).run P W).andThen fun v w'=>.ok (.value v) w'
 less:Text P E.gAll1 2 15 #[.tmp 5] (c_gAll1 E)
section
variable {P : Program} {E : Env}
theorem kP {W w':World} {q:Nat} (h:w'=W.drewN q) (a:Addr):w'.cell? a=W.cell? a:=by subst h;rfl
theorem k_gAll1 (H:SortE P E) {W:World} {ob blk size c:Nat} {G:Nat->Nat} (hs:W.cell? ⟨ob,0,none⟩=some (.slice (some ⟨blk,0,none⟩) size c)) (hc:∀ t,t<size->W.cell? ⟨blk,0+t,none⟩=some (zI (G t))) {i j:Nat} (hi:i<size) (hj:j<size) :
  qa P E.gAll1 #[.int .i64 i,.int .i64 j,.pointer (some ⟨ob,0,none⟩)] W fun v w'=>v=.bool (ltU (G i) (G j))/\∃ q,w'=W.drewN q:=by
 refine qa.enter H.less (by simp) ?_
 intro a hsz hdf harg
 have e0:=harg 0 (.int .i64 i) (by simp)
 have e1:=harg 1 (.int .i64 j) (by simp)
 have e2:=harg 2 (.pointer (some ⟨ob,0,none⟩)) (by simp)
 unfold c_gAll1
 refine vX (rA (dn ?_))
 have hst:(∃ q,({ W with drawn:=W.drawn+1 }:World)=W.drewN q):=⟨1,rfl⟩
 generalize hA:Act.put a _ _=A
 have hsA:A.tmps.size=15:=by rw[← hA,zP];exact hsz
 have hdA:A.defers=[]:=by rw[← hA,dF];exact hdf
 have k0:A.eval (.tmp 0)=.int .i64 i:=by rw[← hA];simp (disch:=(try simp only[sP]);omega) only[eV,e0]
 have k1:A.eval (.tmp 1)=.int .i64 j:=by rw[← hA];simp (disch:=(try simp only[sP]);omega) only[eV,e1]
 have k2:A.eval (.tmp 2)=.pointer (some ⟨ob,0,none⟩):=by rw[← hA];simp (disch:=(try simp only[sP]);omega) only[eV,e2]
 clear hA
 refine vS (xh [(0,true),(1,true),(2,true),(3,true),(4,true),(5,true),(6,true),(7,true),(8,true),(9,true)] (fun W'=>∃ q,W'=W.drewN q) H.mixed (by kernel_rfl) rfl (by kernel_rfl) (fun _ _ _ _ h=>False.elim h) ?_)
 have e1o:qb W 0 0 []:=fun i v h=>by simp at h
 refine dP rfl rfl rfl (wN rfl) (by simp only[zP,hsA];omega) hst (fun w' ⟨q,hq⟩=>rL (b:=ob) (o:=0) (v:=.slice (some ⟨blk,0,none⟩) size c) (by simp (disch:=(try simp only[sP]);omega) only[eV,k2]) H.oU32s (by rw[kP hq];exact hs) (dn ⟨rfl,rfl,rfl⟩)) ?_
 refine dP rfl rfl rfl (wN rfl) (by simp only[zP,hsA];omega) hst (fun w' _=>rM (dn ⟨rfl,rfl,rfl⟩)) ?_
 refine dP rfl rfl rfl (wN rfl) (by simp only[zP,hsA];omega) hst (fun w' _=>qA (b:=blk) (o:=0) (len:=size) (cap:=c) (k:=.i64) (j:=i) (rB H.row) (by simp (disch:=(try simp only[sP]);omega) only[eV]) (by simp (disch:=(try simp only[sP]);omega) only[eV,k0]) hi (dn ⟨rfl,rfl,rfl⟩)) ?_
 refine dP rfl rfl rfl (wN rfl) (by simp only[zP,hsA];omega) hst (fun w' ⟨q,hq⟩=>rL (b:=blk) (o:=0+i*1) (v:=zI (G i)) (by simp (disch:=(try simp only[sP]);omega) only[eV]) H.oU32 (by rw[kP hq,Nat.mul_one];exact hc i hi) (dn ⟨rfl,rfl,rfl⟩)) ?_
 refine dP rfl rfl rfl (wN rfl) (by simp only[zP,hsA];omega) hst (fun w' ⟨q,hq⟩=>rL (b:=ob) (o:=0) (v:=.slice (some ⟨blk,0,none⟩) size c) (by simp (disch:=(try simp only[sP]);omega) only[eV,k2]) H.oU32s (by rw[kP hq];exact hs) (dn ⟨rfl,rfl,rfl⟩)) ?_
 refine dP rfl rfl rfl (wN rfl) (by simp only[zP,hsA];omega) hst (fun w' _=>rM (dn ⟨rfl,rfl,rfl⟩)) ?_
 refine dP rfl rfl rfl (wN rfl) (by simp only[zP,hsA];omega) hst (fun w' _=>qA (b:=blk) (o:=0) (len:=size) (cap:=c) (k:=.i64) (j:=j) (rB H.row) (by simp (disch:=(try simp only[sP]);omega) only[eV]) (by simp (disch:=(try simp only[sP]);omega) only[eV,k1]) hj (dn ⟨rfl,rfl,rfl⟩)) ?_
 refine dP rfl rfl rfl (wN rfl) (by simp only[zP,hsA];omega) hst (fun w' ⟨q,hq⟩=>rL (b:=blk) (o:=0+j*1) (v:=zI (G j)) (by simp (disch:=(try simp only[sP]);omega) only[eV]) H.oU32 (by rw[kP hq,Nat.mul_one];exact hc j hj) (dn ⟨rfl,rfl,rfl⟩)) ?_
 refine dP rfl rfl rfl (wN rfl) (by simp only[zP,hsA];omega) hst (fun w' _=>qW (k:=.u32) (m:=(G i:Int)) (n:=(G j:Int)) (by (try simp (disch:=(try simp only[sP]);omega) only[eV])<;>(first | rfl | assumption)) (by (try simp (disch:=(try simp only[sP]);omega) only[eV])<;>(first | rfl | assumption)) (dn ⟨rfl,rfl,rfl⟩)) ?_
 refine dP rfl rfl rfl (wN rfl) (by simp only[zP,hsA];omega) hst (fun w' _=>rA (dn ⟨rfl,rfl,rfl⟩)) ?_
 refine xx ?_
 refine vS (vT ?_)
 refine ⟨by simp only[dF];exact hdA,.bool (ltU (G i) (G j)),rO ?_,rfl,1,rfl⟩
 simp (disch:=(try simp only[sP]);omega) only[eV]
 simp[ltU]
theorem eff_sorted {w:World} {blk:Nat} {d:Array Nat} {n:Nat} {os:Array Obj}:Eff (fun k _=>k=blk) w (Go.Sort.grow (Go.Sort.putRow zI (Go.Sort.ahead w n) blk 0 d) os):=by
 refine ⟨rfl,rfl,rfl,?_,fun k hk=>?_⟩
 ·simp[Go.Sort.grow,Go.Sort.putRow,Go.Sort.mapBlock,Go.Sort.ahead]
 ·have h1:(Go.Sort.grow (Go.Sort.putRow zI (Go.Sort.ahead w n) blk 0 d) os).heap[k]? = (Go.Sort.putRow zI (Go.Sort.ahead w n) blk 0 d).heap[k]?:=Go.Sort.heap_grow_old _ _ (by simpa [Go.Sort.putRow,Go.Sort.mapBlock,Go.Sort.ahead] using hk)
  rw[h1]
  show qN (fun _=>k=blk) w.heap[k]? (w.heap.modify blk (Go.Sort.onCells (Go.Sort.putCells zI 0 d)))[k]?
  rw[Array.getElem?_modify]
  by_cases hb:blk=k
  ·subst hb
   simp only[if_true]
   cases hh:w.heap[blk]? with
   | none=>exact qN.refl _ _
   | some x =>
    cases x with
    | cells c T f=>exact ⟨_,rfl,by simp[Go.Sort.putCells],fun i hi=>absurd trivial hi⟩
    | _=>exact qN.refl _ _
  ·simp only[if_neg hb]
   exact qN.refl _ _
theorem getD_toArray (ks:List Nat) (j:Nat) (h:j<ks.length):ks.toArray[j]! = ks[j]:=by simp[h]
theorem k_sort (H:SortE P E) {w:World} {U n ob:Nat} {v:Value} {ks:List Nat} (hown:w.ownsRow U E.tW 1 v n (ks.map zI)) (hn:ks.length=n) (h1:1<=n) (hbig:n<=big) (hob:w.cell? ⟨ob,0,none⟩=some v) (hne:∀ a c,v=.slice (some ⟨a,0,none⟩) n c->ob≠a) :
  qa P E.sortSlice #[.iface E.tU32s v,.func (.func E.gAll1) #[] #[.pointer (some ⟨ob,0,none⟩)]] w fun _ w'=>∃ (blk cap:Nat) (ks':List Nat),v=.slice (some ⟨blk,0,none⟩) n cap/\U<=blk/\blk<w.heap.size/\ks'.Perm ks/\ks'.Pairwise (·<=·)/\qb w' blk 0 (ks'.map zI)/\Eff (fun k _=>k=blk) w w':=by
 refine ⟨H.enters,?_⟩
 obtain ⟨ρ,L,hρ⟩:=H.L
 obtain ⟨i,ie,hi,hd,hpk,hie,hs1,hptr,hby⟩:=H.info
 have hagg:∀ w,(isAgg E.tW).run P w=.ok false w:=fun w=>ko H.oU32
 rcases hown.2 with ⟨_,h0⟩ | ⟨g,cap,cur,rfl,hbg,hg,hnc,hcm,hcs,htake⟩
 ·omega
 have hglt:g<w.heap.size:=(Array.getElem?_eq_some_iff.1 hg).1
 have hobg:ob≠g:=hne g cap rfl
 have hoblt:ob<w.heap.size:=qj hob
 have hbig':big<=2147483000:=Nat.le_refl _
 have hcells:qb w g 0 (ks.map zI):=by
  intro j u hu
  have:=hown.cells (g:=g) rfl j u hu
  rwa [Addr.add_lit] at this
 by_cases h2:2<=n
 ·have hK:Go.Lib.swapperK n ie 10=6:=by
   have c0:(n==0)=false:=by simp;omega
   have c1:(n==1)=false:=by simp;omega
   simp[Go.Lib.swapperK,hptr,hby,c0,c1]
  obtain ⟨f,gS,hf,hx⟩:=H.sw6
  have hsz:ks.toArray.size=n:=by simpa using hn
  have hH:Go.Sort.Holds zI w g 0 ks.toArray:=by
   intro j hj
   have hj':j<ks.length:=by simpa using hj
   refine ⟨?_,by simp[World.frozen?,hg]⟩
   rw[getD_toArray ks j hj']
   exact hcells j (zI ks[j]) (by simp[hj'])
  have hless:Go.Proofs.LessReads P E.gAll1 #[.pointer (some ⟨ob,0,none⟩)] zI ltU g 0 n w:=by
   intro m os dk hdk x y hx hy
   have hgl:g<(Go.Sort.ahead w m).heap.size:=hglt
   have e:Go.Proofs.sortWorld zI w g 0 m dk os=Go.Sort.grow (Go.Sort.putRow zI (Go.Sort.ahead w m) g 0 dk) os:=rfl
   have hsp:(Go.Sort.putRow zI (Go.Sort.ahead w m) g 0 dk).heap.size=w.heap.size:=by simp[Go.Sort.putRow,Go.Sort.mapBlock,Go.Sort.ahead]
   have hHa:Go.Sort.Holds zI (Go.Sort.ahead w m) g 0 ks.toArray:=Go.Sort.holds_ahead _ _ _ _ _ _ hH
   have:=(k_gAll1 H (W:=Go.Proofs.sortWorld zI w g 0 m dk os) (ob:=ob) (blk:=g) (size:=n) (c:=cap) (G:=fun t=>dk[t]!) ?_ ?_ hx hy).2
   ·refine this.mono ?_
    rintro e w' ⟨v,rfl,rfl,q,hq⟩
    exact ⟨rfl,q,hq⟩
   ·rw[e,Go.Sort.cell?_grow _ _ _ (by show ob<_;rw[hsp];exact hoblt),Go.Sort.cell?_putRow_other _ _ g 0 dk _ (Or.inl (by show ob≠g;exact hobg))]
    exact hob
   ·intro t ht
    rw[e,Go.Sort.cell?_grow _ _ _ (by show g<_;rw[hsp];exact hglt)]
    exact Go.Sort.cell?_putRow zI _ g 0 ks.toArray dk hHa (by rw[hdk,hsz]) t (by omega)
  have hS:=Go.Proofs.Any.sort_Slice_sorted L E.tU32s E.tW i ie hi hd hpk hie 10 H.kind hs1 hagg zI (fun _=>rfl) ltU swoU E.gAll1 #[.pointer (some ⟨ob,0,none⟩)] (fun args w=>H.less.enters args w) g 0 cap ks.toArray (by omega) (by omega) f
   (by rw[hsz,hK];exact hf) gS hx w (by rw[hsz];exact hless) hH hglt
  rw[hρ,hsz] at hS
  refine hS.mono ?_
  rintro e w' ⟨rfl,d',q,os,hp,hso,rfl⟩
  obtain ⟨hpz,_,hpp⟩:=hp
  have hdz:d'.size=n:=by rw[hpz,hsz]
  refine ⟨_,rfl,g,cap,d'.toList,rfl,hbg,hglt,?_,?_,?_,eff_sorted⟩
  ·have e1:d'.extract 0 n=d':=by rw[← hdz];simp
   have e2:ks.toArray.extract 0 n=ks.toArray:=by rw[← hsz];simp
   rw[e1,e2] at hpp
   simpa using hpp
  ·refine List.pairwise_iff_getElem.2 fun x y hx hy hxy=>?_
   have hx':x<d'.size:=by simpa using hx
   have hy':y<d'.size:=by simpa using hy
   have:=hso x y (Nat.zero_le _) hxy (by omega)
   simp only[ltU,decide_eq_false_iff_not] at this
   rw[getElem!_pos d' x hx',getElem!_pos d' y hy'] at this
   simp only[Array.getElem_toList]
   omega
  ·intro j u hu
   have hj:j<d'.size:=by
    rcases Nat.lt_or_ge j d'.size with h | h
    ·exact h
    ·rw[List.getElem?_eq_none (by simpa using h)] at hu;cases hu
   have hsp:(Go.Sort.putRow zI (Go.Sort.ahead w q) g 0 d').heap.size=w.heap.size:=by simp[Go.Sort.putRow,Go.Sort.mapBlock,Go.Sort.ahead]
   have hHa:Go.Sort.Holds zI (Go.Sort.ahead w q) g 0 ks.toArray:=Go.Sort.holds_ahead _ _ _ _ _ _ hH
   rw[Go.Sort.cell?_grow _ _ _ (by show g<_;rw[hsp];exact hglt),Go.Sort.cell?_putRow zI _ g 0 ks.toArray d' hHa (by rw[hdz,hsz]) j hj,getElem!_pos d' j hj]
   simp only[List.getElem?_map,Array.getElem?_toList,Array.getElem?_eq_getElem hj,Option.map_some,Option.some.injEq] at hu
   rw[hu]
 ·have hn1:n=1:=by omega
  subst hn1
  obtain ⟨f,hf⟩:=H.sw2
  have hK:Go.Lib.swapperK 1 ie 10=2:=by simp[Go.Lib.swapperK]
  have hS:=Go.Proofs.Any.sort_Slice_tiny L E.tU32s E.tW i ie hi hd hpk hie 10 H.kind (some ⟨g,0,none⟩) 1 cap (Nat.le_refl _) f (by rw[hK];exact hf) (.func E.gAll1) #[] #[.pointer (some ⟨ob,0,none⟩)] w
  rw[hρ] at hS
  refine hS.mono ?_
  rintro e w' ⟨rfl,os,rfl⟩
  refine ⟨_,rfl,g,cap,ks,rfl,hbg,hglt,List.Perm.refl _,?_,?_,?_⟩
  ·match ks,hn with
   | [x],_=>exact List.pairwise_singleton _ _
  ·intro j u hu
   rw[Go.Sort.cell?_grow _ _ _ hglt]
   exact hcells j u hu
  ·refine ⟨rfl,rfl,rfl,by simp[Go.Sort.grow],fun k hk=>qN.of_eq (Go.Sort.heap_grow_old _ _ hk)⟩
end
end Go.Km
namespace Go.Km
open Go Go.RowKit
attribute [local irreducible] vc rO_ qz qI qF
theorem kc {w w':World} {B:Nat} {e:TypeId} {s:Nat} {v:Value} {n:Nat} {xs:List Value} (h:w.ownsRow B e s v n xs) (hk:∀ g,v.ownBlock=some g->w'.heap[g]? = w.heap[g]?):w'.ownsRow B e s v n xs:=by
 refine ⟨h.1,?_⟩
 rcases h.2 with h | ⟨g,cap,cur,rfl,h2,h3,h4⟩
 ·exact .inl h
 ·exact .inr ⟨g,cap,cur,rfl,h2,by rw[hk g rfl];exact h3,h4⟩
theorem own_lt {w:World} {B:Nat} {e:TypeId} {s:Nat} {v:Value} {n:Nat} {xs:List Value} (h:w.ownsRow B e s v n xs):∀ g,v.ownBlock=some g->B<=g/\g<w.heap.size:=by
 intro g hg
 rcases h.2 with ⟨rfl,_⟩ | ⟨g',cap,cur,rfl,h2,h3,h4⟩
 ·cases hg
 ·simp only[Value.ownBlock,Option.some.injEq] at hg
  subst hg
  exact ⟨h2,(Array.getElem?_eq_some_iff.1 h3).1⟩
theorem gi {w:World} {B:Nat} {e:TypeId} {s:Nat} {v:Value} {n:Nat} {xs:List Value} (h:w.ownsRow B e s v n xs):v.oneCell'=true/\v.cells=#[v]:=by
 rcases h.2 with ⟨rfl,_⟩ | ⟨g',cap,cur,rfl,h2,h3,h4⟩<;>exact ⟨rfl,rfl⟩
structure DSt (E:Env) (U db:Nat) (w:World) (dv:Value) (xs:List UInt8):Prop where
 cell:w.cell? ⟨db,0,none⟩=some dv
 free:qq w db 0
 own:w.ownsRow U E.tU8 1 dv xs.length (xs.map bv)
 ne:dv.ownBlock≠some db
 U:U<=db
structure DKeep (U db:Nat) (w:World) (dv:Value) (w':World) (dv':Value):Prop where
 below:Below U w w'
 same:∀ k,k<w.heap.size->k≠db->dv.ownBlock≠some k->w'.heap[k]? = w.heap[k]?
 row:∀ g,dv'.ownBlock=some g->dv.ownBlock=some g\/w.heap.size<=g
theorem DKeep.refl (U db:Nat) (w:World) (dv:Value):DKeep U db w dv w dv:=⟨Below.refl _ _,fun _ _ _ _=>rfl,fun _ h=>.inl h⟩
theorem DKeep.trans {U db:Nat} {w w1 w2:World} {dv d1 d2:Value} (h:DKeep U db w dv w1 d1) (k:DKeep U db w1 d1 w2 d2):DKeep U db w dv w2 d2:=by
 have hz:=h.below.size
 refine ⟨h.below.trans k.below,fun j hj hd hr=>?_,fun g hg=>?_⟩
 ·rw[k.same j (by omega) hd (fun e=>?_),h.same j hj hd hr]
  rcases h.row j e with h1 | h1
  ·exact hr h1
  ·omega
 ·rcases k.row g hg with h1 | h1
  ·exact h.row g h1
  ·exact .inr (by omega)
theorem DSt.step {E:Env} {U db:Nat} {w w1:World} {dv d1:Value} {xs ys:List UInt8} (h:DSt E U db w dv xs) (ho:w1.ownsRow U E.tU8 1 d1 ys.length (ys.map bv)) (hb:Below U w w1) (hk:Keep w dv d1 w1):qq w1 db 0/\DSt E U db (w1.setCell ⟨db,0,none⟩ d1) d1 ys/\DKeep U db w dv (w1.setCell ⟨db,0,none⟩ d1) d1:=by
 have hdb:db<w.heap.size:=qj h.cell
 have hz:=hb.size
 have hf1:qq w1 db 0:=zh (hk.1 db hdb h.ne) h.free
 have hne:d1.ownBlock≠some db:=fun e=>by
  rcases hk.2 db e with h1 | h1
  ·exact h.ne h1
  ·omega
 refine ⟨hf1,⟨qo _ hf1.1,hf1.eff ((Eff.refl (fun k _=>k=db) _).setCell _ _ _ (fun _=>rfl)),kc ho (fun g hg=>Below.heap_setCell _ _ _ _ (fun e=>hne (by rw[hg,e]))),hne,h.U⟩,hb.setCell (p:=⟨db,0,none⟩) h.U _,fun k hk1 hk2 hk3=>?_,hk.2⟩
 rw[Below.heap_setCell _ _ _ _ hk2]
 exact hk.1 k hk1 hk3
section
variable {P : Program} {E : Env}
theorem k_gEach1 (ht:Text P E.gEach1 2 16 #[] (gE E)) (huv:∀ (n:Nat) U w,n<4294967296->Wr1K P E E.wUvarint U [.int .u32 n] (Go.Km.uvar n) w) (HB:xd P E.tB E.tU8 1=true) (oB:qQ P E.tB=true) (iu:qs P E.tW=some .u32) (ii:qs P E.tI=some .i64)
  {w:World} {U db k:Nat} {dv val:Value} {xs l:List UInt8} (hd:DSt E U db w dv xs) (hk:k<4294967296) (hv:∃ ad cap,val=.slice ad l.length cap) (hsrc:∀ w',Below U w w'->Src P 1 E.tB val l.length (l.map bv) w') (hb:xs.length+(qR (k,l)).length<=big) :
  qa P E.gEach1 #[.int .u32 (k:Int),val,.pointer (some ⟨db,0,none⟩)] w fun _ w'=>∃ dv',DSt E U db w' dv' (xs++qR (k,l))/\DKeep U db w dv w' dv':=by
 have hbig:big<=2147483000:=Nat.le_refl _
 have hwr:(qR (k,l)).length=(Go.Km.uvar k).length+(Go.Km.uvar l.length).length+l.length:=by simp[qR];omega
 obtain ⟨ad,cap,hval⟩:=hv
 refine qa.enter ht (by simp) ?_
 intro a hsz hdf harg
 have e0:=harg 0 (.int .u32 (k:Int)) (by simp)
 have e1:=harg 1 val (by simp)
 have e2:=harg 2 (.pointer (some ⟨db,0,none⟩)) (by simp)
 have hUw:U<=w.heap.size:=by have:=qj hd.cell;have:=hd.U;omega
 unfold gE
 refine vX ?_
 refine rL (b:=db) (o:=0) (v:=dv) (by simp (disch:=(try simp only[sP]);omega) only[eV,e2]) oB hd.cell ?_
 refine rM ?_
 refine q8 (args:=#[dv,.int .u32 (k:Int)]) ?_ (huv k U w hk dv xs hd.own hUw (by omega)) ?_
 ·simp only[lM]
  simp (disch:=(try simp only[sP]);omega) only[eV,e0]
 rintro d1 w1 ⟨ho1,hb1,hk1⟩
 obtain ⟨hf1,hd1,hkp1⟩:=hd.step ho1 hb1 hk1
 refine xq (b:=db) (o:=0) (v:=d1) (by simp (disch:=(try simp only[sP]);omega) only[eV,e2]) (by simp (disch:=(try simp only[sP]);omega) only[eV]) (gi ho1).1 oB hf1 ?_
 refine dn ?_
 generalize w1.setCell ⟨db,0,none⟩ d1=w2 at *
 have hUw2:U<=w2.heap.size:=by have:=hkp1.below.size;omega
 refine vX ?_
 refine rL (b:=db) (o:=0) (v:=d1) (by simp (disch:=(try simp only[sP]);omega) only[eV,e2]) oB hd1.cell ?_
 refine rM ?_
 refine qY (ad:=ad) (n:=l.length) (c:=cap) (rB HB) (by simp (disch:=(try simp only[sP]);omega) only[eV,e1,hval]) ?_
 refine qM (k:=.i64) (k':=.u32) (m:=(l.length:Int)) ii iu (by simp (disch:=(try simp only[sP]);omega) only[eV]) ?_
 rw[wrapu32 (by omega) (by omega)]
 refine q8 (args:=#[d1,.int .u32 (l.length:Int)]) ?_ (huv l.length U w2 (by omega) d1 _ hd1.own hUw2 (by simp only[List.length_append];omega)) ?_
 ·simp only[lM]
  simp (disch:=(try simp only[sP]);omega) only[eV]
 rintro d2 w3 ⟨ho2,hb2,hk2⟩
 obtain ⟨hf2,hd2,hkp2⟩:=hd1.step ho2 hb2 hk2
 refine xq (b:=db) (o:=0) (v:=d2) (by simp (disch:=(try simp only[sP]);omega) only[eV,e2]) (by simp (disch:=(try simp only[sP]);omega) only[eV]) (gi ho2).1 oB hf2 ?_
 refine dn ?_
 generalize w3.setCell ⟨db,0,none⟩ d2=w4 at *
 have hkp12:=hkp1.trans hkp2
 have hUw4:U<=w4.heap.size:=by have:=hkp12.below.size;omega
 refine vX ?_
 refine rL (b:=db) (o:=0) (v:=d2) (by simp (disch:=(try simp only[sP]);omega) only[eV,e2]) oB hd2.cell ?_
 refine rM ?_
 refine r_appendK (U:=U) (v:=d2) (n:=(xs++Go.Km.uvar k++Go.Km.uvar l.length).length) (xs:=(xs++Go.Km.uvar k++Go.Km.uvar l.length).map bv) (u:=val) (m:=l.length) (news:=l.map bv) HB (by simp (disch:=(try simp only[sP]);omega) only[eV]) (by simp (disch:=(try simp only[sP]);omega) only[eV,e1]) hd2.own hUw4 (hsrc _ hkp12.below) (by simp only[List.length_append];omega) ?_
 intro d3 w5 ho3 hb3 hk3
 have ho3':w5.ownsRow U E.tU8 1 d3 (xs++qR (k,l)).length ((xs++qR (k,l)).map bv):=by
  have e:xs++qR (k,l)=(xs++Go.Km.uvar k++Go.Km.uvar l.length)++l:=by simp[qR,List.append_assoc]
  rw[e,List.length_append,List.map_append]
  exact ho3
 obtain ⟨hf3,hd3,hkp3⟩:=hd2.step ho3' hb3 hk3
 refine xq (b:=db) (o:=0) (v:=d3) (by simp (disch:=(try simp only[sP]);omega) only[eV,e2]) (by simp (disch:=(try simp only[sP]);omega) only[eV]) (gi ho3').1 oB hf3 ?_
 refine dn (vN ?_)
 exact ⟨by simp only[dF];exact hdf,.tuple #[],by simp[results],d3,hd3,hkp12.trans hkp3⟩
end
end Go.Km
namespace Go.Km
open Go Go.RowKit Go.ChangeMaps
attribute [local irreducible] vc rO_ qz qI qF
section
variable {P : Program} {a : Act} {w : World} {r : List Oper} {Q : Exit → Act → World → Prop}
theorem r_callF {d f x xs ts ty p af g pre post args} {S:Value->World->Prop} (hx:a.eval x=.func (.func f) pre post) (ha:pre++xs.map a.eval++post=args) (h:qa P f args w S) (hn:∀ v w',S v w'->rO_ P Q r (a.put d v) w') :
  rO_ P Q (⟨d,.call { callee:=.value x,args:=xs,argTypes:=ts },ty,p,af,g⟩::r) a w:=by
 refine st ?_
 obtain ⟨he,hc⟩:=h
 have h3:(callFunc f (pre++xs.map a.eval++post)).run P w=.ok (.enter f args) w:=by rw[ha];exact he args w
 simp only[Oper.wp,execOp,resolve,hx,Deferred.ofValue,Sem.run_bind,Sem.run_pure,Result.andThen_ok,invoke]
 simp only[Oper.upon,h3]
 refine hc.mono ?_
 rintro e w' ⟨v,rfl,hs⟩
 exact hn v w' hs
theorem r_range {d t x ty p af g q es clock kt et} (ht:P.underlying t=some (.map kt et)) (hx:a.eval x=.map (some q)) (hq:w.heap[q]? = some (.map es clock)) (h:rO_ P Q r (a.put (some d) (.pointer (some ⟨w.heap.size,0,none⟩))) (w.alloc (.mapIter (some q) clock #[] clock))) :
  rO_ P Q (⟨some d,.range t x,ty,p,af,g⟩::r) a w:=by
 refine st ?_
 simp only[Oper.wp,execOp,hx,Sem.run_bind,run_range_map w t kt et q es clock ht hq,Sem.run_pure,Result.andThen_ok,Oper.upon_value]
 exact h
theorem r_next {d x ty p af g rr q es clock seen} (hx:a.eval x=.pointer (some ⟨rr,0,none⟩)) (hr:w.heap[rr]? = some (.mapIter (some q) clock seen clock)) (hq:w.heap[q]? = some (.map es clock)) (hold:∀ e ∈ es.toList,e.born<clock)
  (h0:(leftOf es seen).size=0->rO_ P Q r (a.put (some d) (.tuple #[.bool false])) w)
  (h1:∀ e ∈ (leftOf es seen).toList,∀ w1:World,(w1=w\/w1=w.drew)->rO_ P Q r (a.put (some d) (.tuple #[.bool true,e.key,e.val])) (setBlock w1 rr (.mapIter (some q) clock (seen.push e.born) clock))) :
  rO_ P Q (⟨some d,.next x false,ty,p,af,g⟩::r) a w:=by
 refine st ?_
 rcases run_next_at (P:=P) w ty rr q clock clock seen es clock hr hq hold (Nat.le_refl _) with ⟨hz,hrun⟩ | ⟨e,he,w1,hw1,hrun⟩
 ·simp only[Oper.wp,execOp,hx,Sem.run_bind,hrun,Sem.run_pure,Result.andThen_ok,Oper.upon_value]
  exact h0 hz
 ·simp only[Oper.wp,execOp,hx,Sem.run_bind,hrun,Sem.run_pure,Result.andThen_ok,Oper.upon_value]
  exact h1 e he w1 hw1
theorem r_entry {d x ty p af g rr q since} {seen:Array Nat} {es:Array MapEntry} {clock:Nat} {e:MapEntry} (hx:a.eval x=.pointer (some ⟨rr,0,none⟩)) (hr:w.heap[rr]? = some (.mapIter (some q) since (seen.push e.born) clock)) (hq:w.heap[q]? = some (.map es clock)) (he:e ∈ es.toList) (hn:(es.toList.map (·.born)).Nodup)
  (h:rO_ P Q r (a.put (some d) (.tuple #[e.key,e.val])) w):rO_ P Q (⟨some d,.entry x,ty,p,af,g⟩::r) a w:=by
 refine st ?_
 simp only[Oper.wp,execOp,hx,Sem.run_bind,run_entry_at (P:=P) w rr q since seen es clock e hr hq he hn,Sem.run_pure,Result.andThen_ok,Oper.upon_value]
 exact h
theorem r_lookup {d t x i ty p af g kt et q es clock k j e} {l:List (Nat × List UInt8)} (ht:P.underlying t=some (.map kt et)) (hk:P.underlying kt=some (.int .u32)) (hx:a.eval x=.map (some q)) (hi:a.eval i=.int .u32 ((k:Nat):Int)) (hq:w.heap[q]? = some (.map es clock)) (hl:l.length=es.size)
  (hkeys:∀ (i:Nat) x,l[i]? = some x->∃ e:MapEntry,es[i]? = some e/\e.key=.int .u32 (x.1:Int)) (hf:l.findIdx? (·.1==k)=some j) (he:es[j]? = some e)
  (h:rO_ P Q r (a.put (some d) e.val) w):rO_ P Q (⟨some d,.lookup t x i false,ty,p,af,g⟩::r) a w:=by
 refine st ?_
 have hg:(getObj q).run P w=.ok (.map es clock) w:=by simp[getObj,Sem.run,hq]
 have hfk:=run_findKey (P:=P) (k:=k) (w:=w) (es:=es.toList) (l:=l) hk (by simpa using hl) (fun i x hx=>by obtain ⟨e,e1,e2⟩:=hkeys i x hx;exact ⟨e,by simpa using e1,e2⟩)
 rw[hf] at hfk
 simp only[Option.bind_some,Array.getElem?_toList,he,Option.map_some] at hfk
 have hr:(Instr.lookup t (.map (some q)) (.int .u32 ((k:Nat):Int)) false).run P w=.ok e.val w:=by
  simp[Instr.lookup,run_underlying ht,hg,yl hk,hfk]
 simp only[Oper.wp,execOp,hx,hi,Sem.run_bind,hr,Sem.run_pure,Result.andThen_ok,Oper.upon_value]
 exact h
theorem r_makeIface {d t x ty p af g e} (ht:P.underlying t=some (.slice e)) (h:rO_ P Q r (a.put (some d) (.iface t (a.eval x))) w):rO_ P Q (⟨some d,.makeInterface t x,ty,p,af,g⟩::r) a w:=by
 refine st ?_
 have hr:(Instr.makeInterface t (a.eval x)).run P w=.ok (.iface t (a.eval x)) w:=by simp[Instr.makeInterface,run_underlying ht]
 simp only[Oper.wp,execOp,Sem.run_bind,hr,Sem.run_pure,Result.andThen_ok,Oper.upon_value]
 exact h
theorem r_makeSlice {d t l c ty p af g e s} {n:Nat} (hB:xd P t e s=true) (hl:a.eval l=.int .i64 0) (hc:a.eval c=.int .i64 (n:Int)) (hn:n<=big)
  (h:∀ w',w'.ownsRow w.heap.size e s (.slice (some ⟨w.heap.size,0,none⟩) 0 n) 0 []->Below w.heap.size w w'->w'.heap.size=w.heap.size+1->rO_ P Q r (a.put (some d) (.slice (some ⟨w.heap.size,0,none⟩) 0 n)) w') :
  rO_ P Q (⟨some d,.makeSlice t l c,ty,p,af,g⟩::r) a w:=by
 refine st ?_
 obtain ⟨hu,i,z,hi,hsz,hs0,hz,hzs,hby⟩:=xM hB
 have hbig:big<=2147483000:=Nat.le_refl _
 have hbytes:i.bytes*n<=281474976710656:=by
  have:=Nat.mul_le_mul hby hn
  unfold big at this
  omega
 have h63:(n:Int)<=9223372036854775807:=by omega
 have hb':(i.bytes:Int)*(n:Int)<=281474976710656:=by
  have h:((i.bytes*n:Nat):Int)<=281474976710656:=by omega
  rwa [Int.natCast_mul] at h
 have hr:=run_make (P:=P) w t e i z hu hi hz .i64 .i64 0 n (Int.le_refl _) (by omega) hb' h63
 simp only[Int.toNat_zero,Int.toNat_natCast] at hr
 simp only[Oper.wp,execOp,hl,hc,Sem.run_bind,hr,Sem.run_pure,Result.andThen_ok,Oper.upon_value]
 refine h _ ?_ ((Below.refl w.heap.size w).alloc (o:=.cells _ _) (Nat.le_refl _)) (by simp)
 rw[hsz]
 exact World.ownsRow_made w _ n (Nat.le_refl _) (by unfold maxLen;omega) (size_madeCells _ _)
end
theorem perm_left:∀ (L:List MapEntry) (e:MapEntry),(L.map (·.born)).Nodup->e ∈ L->L.Perm (e::L.filter (fun x=>x.born != e.born))
 | [],e,_,h=>by simp at h
 | x::L,e,hn,h=>by
  simp only[List.map_cons] at hn
  have hn2:=List.nodup_cons.1 hn
  rcases List.mem_cons.1 h with rfl | h
  ·have:L.filter (fun x=>x.born != e.born)=L:=by
    refine List.filter_eq_self.2 fun y hy=>?_
    have:y.born≠e.born:=fun hh=>hn2.1 (by rw[← hh];exact List.mem_map.2 ⟨y,hy,rfl⟩)
    simpa using this
   rw[List.filter_cons_of_neg (by simp),this]
  ·have hne:x.born≠e.born:=fun hh=>hn2.1 (by rw[hh];exact List.mem_map.2 ⟨e,h,rfl⟩)
   rw[List.filter_cons_of_pos (by simpa using hne)]
   exact ((perm_left L e hn2.2 h).cons x).trans (List.Perm.swap _ _ _)
theorem left_push (es:Array MapEntry) (seen:Array Nat) (e:MapEntry):(leftOf es (seen.push e.born)).toList=(leftOf es seen).toList.filter (fun x=>x.born != e.born):=by
 unfold leftOf
 simp only[Array.toList_filter,List.filter_filter]
 congr 1
 funext x
 rw[Array.contains_push]
 cases h1:seen.contains x.born<;>cases h2:(x.born==e.born)<;>simp[bne,h1,h2]
theorem left_step {es:Array MapEntry} {seen:Array Nat} {e:MapEntry} (hn:(es.toList.map (·.born)).Nodup) (he:e ∈ (leftOf es seen).toList):(leftOf es seen).toList.Perm (e::(leftOf es (seen.push e.born)).toList):=by
 rw[left_push]
 refine perm_left _ e ?_ he
 unfold leftOf
 rw[Array.toList_filter]
 exact hn.sublist (List.filter_sublist.map _)
def jU (e:MapEntry):Nat:=match e.key with | .int _ n=>n.toNat | _=>0
theorem keyOf_eq {e:MapEntry} {n:Nat} (h:e.key=.int .u32 (n:Int)):jU e=n:=by simp[jU,h]
theorem keys_eq {es:Array MapEntry} {l:List (Nat × List UInt8)} (hl:l.length=es.size) (h:∀ (i:Nat) x,l[i]? = some x->∃ e:MapEntry,es[i]? = some e/\e.key=.int .u32 (x.1:Int)):es.toList.map jU=l.map (·.1):=by
 apply List.ext_getElem?
 intro i
 simp only[List.getElem?_map,Array.getElem?_toList]
 rcases Nat.lt_or_ge i l.length with hi | hi
 ·obtain ⟨e,h1,h2⟩:=h i l[i] (List.getElem?_eq_getElem hi)
  rw[h1,List.getElem?_eq_getElem hi]
  simp[keyOf_eq h2]
 ·rw[List.getElem?_eq_none hi,Array.getElem?_eq_none (by omega)]
  rfl
theorem key_enc {es:Array MapEntry} {l:List (Nat × List UInt8)} (hl:l.length=es.size) (h:∀ (i:Nat) x,l[i]? = some x->∃ e:MapEntry,es[i]? = some e/\e.key=.int .u32 (x.1:Int)) {e:MapEntry} (he:e ∈ es.toList):e.key=zI (jU e):=by
 obtain ⟨i,hi,rfl⟩:=List.mem_iff_getElem.1 he
 have hi':i<es.size:=by simpa using hi
 obtain ⟨e',h1,h2⟩:=h i (l[i]'(by omega)) (List.getElem?_eq_getElem (by omega))
 have h3:es.toList[i]=e':=by
  rw[Array.getElem?_eq_getElem hi'] at h1
  simpa using h1
 rw[h3,keyOf_eq h2,h2]
 rfl
end Go.Km
namespace Go.Km
open Go Go.RowKit Go.ChangeMaps
attribute [local irreducible] vc rO_ qz qI qF
theorem yW:∀ (a b:List Nat),a.Perm b->a.Pairwise (·<=·)->b.Pairwise (· < ·)->a=b
 | [],b,h,_,_=>(List.nil_perm.1 h).symm
 | x::a,[],h,_,_=>by have:=h.length_eq;simp at this
 | x::a,y::b,h,h1,h2=>by
  have h3:=List.pairwise_cons.1 h1
  have h4:=List.pairwise_cons.1 h2
  have hx:x ∈ y::b:=h.mem_iff.1 (by simp)
  have hy:y ∈ x::a:=h.mem_iff.2 (by simp)
  have e:x=y:=by
   rcases List.mem_cons.1 hx with rfl | hx
   ·rfl
   ·rcases List.mem_cons.1 hy with rfl | hy
    ·rfl
    ·have:=h4.1 x hx
     have:=h3.1 y hy
     omega
  subst e
  rw[yW a b h.cons_inv h3.2 h4.2]
theorem tag_unique {tags:List (Nat × List UInt8)} (h:tags.Pairwise (fun x y=>x.1<y.1)) {x y:Nat × List UInt8} (hx:x ∈ tags) (hy:y ∈ tags) (e:x.1=y.1):x=y:=by
 induction tags with
 | nil=>simp at hx
 | cons z l ih =>
  have h2:=List.pairwise_cons.1 h
  rcases List.mem_cons.1 hx with hx1 | hx1
  ·rcases List.mem_cons.1 hy with hy1 | hy1
   ·rw[hx1,hy1]
   ·have:=h2.1 y hy1;rw[hx1] at e;omega
  ·rcases List.mem_cons.1 hy with hy1 | hy1
   ·have:=h2.1 x hx1;rw[hy1] at e;omega
   ·exact ih h2.2 hx1 hy1
theorem tag_find {l tags:List (Nat × List UInt8)} (hp:l.Perm tags) (h:tags.Pairwise (fun x y=>x.1<y.1)) {x:Nat × List UInt8} (hx:x ∈ tags):∃ j,l.findIdx? (·.1==x.1)=some j/\l[j]? = some x:=by
 have hxl:x ∈ l:=hp.mem_iff.2 hx
 cases hf:l.findIdx? (·.1==x.1) with
 | none =>
  have:=List.findIdx?_eq_none_iff.1 hf x hxl
  simp at this
 | some j =>
  obtain ⟨hj,hk,_⟩:=List.findIdx?_eq_some_iff_getElem.1 hf
  have hk:(l[j]).1=x.1:=by simpa using hk
  refine ⟨j,rfl,?_⟩
  rw[List.getElem?_eq_getElem hj,tag_unique h (hp.mem_iff.1 (List.getElem_mem hj)) hx hk]
def TagIn (P:Program) (E:Env) (w:World) (U:Nat) (v:Value) (tags:List (Nat × List UInt8)):Prop :=
 TagsOk tags/\((v=.map none/\tags=[])\/∃ (q:Nat) (es:Array MapEntry) (clock:Nat) (l:List (Nat × List UInt8)),v=.map (some q)/\q<U/\w.heap[q]? = some (.map es clock)/\(∀ e ∈ es.toList,e.born<clock)/\(es.toList.map (·.born)).Nodup/\l.Perm tags/\l.length=es.size ∧
  ∀ (i:Nat) (x:Nat × List UInt8),l[i]? = some x->∃ e:MapEntry,es[i]? = some e/\e.key=.int .u32 (x.1:Int)/\(∃ ad cap,e.val=.slice ad x.2.length cap)/\∀ w',Below U w w'->Src P 1 E.tB e.val x.2.length (x.2.map bv) w')
theorem flat_take {tags:List (Nat × List UInt8)} {i:Nat} (hi:i<tags.length):((tags.take i).map qR).flatten.length+(qR tags[i]).length<=(tags.map qR).flatten.length:=by
 have e:tags=tags.take i++tags[i]::tags.drop (i+1):=by
  rw[List.getElem_cons_drop,List.take_append_drop]
 have:=congrArg (fun t=>(t.map qR).flatten.length) e
 simp only[List.map_append,List.map_cons,List.flatten_append,List.flatten_cons,List.length_append] at this
 omega
section
variable {P : Program} {E : Env}
set_option maxHeartbeats 4000000 in
theorem k_gAll (HT:TagT P E) (HS:SortE P E) (ht:Text P E.gAll 2 53 #[] (wC E)) (ii:qs P E.tI=some .i64)
  (hg1:∀ {w:World} {U db k:Nat} {dv val:Value} {xs l:List UInt8},DSt E U db w dv xs->k<4294967296->(∃ ad cap,val=.slice ad l.length cap)->(∀ w',Below U w w'->Src P 1 E.tB val l.length (l.map bv) w')->xs.length+(qR (k,l)).length<=big →
   qa P E.gEach1 #[.int .u32 (k:Int),val,.pointer (some ⟨db,0,none⟩)] w fun _ w'=>∃ dv',DSt E U db w' dv' (xs++qR (k,l))/\DKeep U db w dv w' dv')
  {w:World} {U b o db:Nat} {v dv:Value} {xs:List UInt8} {tags:List (Nat × List UInt8)} (hcv:w.cell? ⟨b,o,none⟩=some v) (hbU:b<U) (htg:TagIn P E w U v tags) (hd:DSt E U db w dv xs) (hn32:tags.length<=big) (hbg:xs.length+(tags.map qR).flatten.length<=big) :
  qa P E.gAll #[.pointer (some ⟨b,o,none⟩),.func (.func E.gEach1) #[] #[.pointer (some ⟨db,0,none⟩)]] w fun _ w'=>∃ dv',DSt E U db w' dv' (xs++(tags.map qR).flatten)/\Below U w w'/\∀ k,k<w.heap.size->k≠db->dv.ownBlock≠some k->w'.heap[k]? = w.heap[k]?:=by
 obtain ⟨hok,htg⟩:=htg
 have hbig:big<=2147483000:=Nat.le_refl _
 have hdb:db<w.heap.size:=qj hd.cell
 have hUdb:=hd.U
 have hlen:(v=.map none/\tags.length=0)\/∃ q es clock,v=.map (some q)/\w.heap[q]? = some (.map es clock)/\es.size=tags.length:=by
  rcases htg with ⟨h1,rfl⟩ | ⟨q,es,clock,l,h1,_,h2,_,_,hp,hl,_⟩
  ·exact .inl ⟨h1,rfl⟩
  ·exact .inr ⟨q,es,clock,h1,h2,by rw[← hl];exact hp.length_eq⟩
 refine qa.enter ht (by simp) ?_
 intro a hsz hdf harg
 have e0:=harg 0 (.pointer (some ⟨b,o,none⟩)) (by simp)
 have e1:=harg 1 (.func (.func E.gEach1) #[] #[.pointer (some ⟨db,0,none⟩)]) (by simp)
 generalize hfv:Value.func (.func E.gEach1) #[] #[.pointer (some ⟨db,0,none⟩)]=fv at *
 unfold wC
 refine vS (vX (rM ?_))
 refine qV (ad:=⟨b,o,none⟩) (by simp (disch:=(try simp only[sP]);omega) only[eV,e0]) ?_
 refine rF (b:=b) (o:=o) (by simp (disch:=(try simp only[sP]);omega) only[eV]) HT.f0 ?_
 refine rL (b:=b) (o:=o+0) (v:=v) (by simp (disch:=(try simp only[sP]);omega) only[eV]) HT.oMap hcv ?_
 refine gc (v:=v) (n:=tags.length) HT.map (by simp (disch:=(try simp only[sP]);omega) only[eV]) hlen ?_
 refine xA (k:=.i64) (m:=((tags.length:Nat):Int)) (n:=0) (by simp (disch:=(try simp only[sP]);omega) only[eV]) rfl ?_
 refine dn ?_
 refine vS (vC (t:=(((tags.length:Nat):Int)==0)) (by simp (disch:=(try simp only[sP]);omega) only[eV]) ?_ ?_)
 ·intro h
  have h0:tags=[]:=by
   have:tags.length=0:=by simp only[beq_iff_eq] at h;omega
   exact List.eq_nil_of_length_eq_zero this
  subst h0
  refine vT ?_
  exact ⟨by simp only[dF];exact hdf,.tuple #[],by simp[results],dv,by simpa using hd,Below.refl _ _,fun _ _ _ _=>rfl⟩
 intro h
 have hne:1<=tags.length:=by
  rcases Nat.eq_zero_or_pos tags.length with h0 | h0
  ·rw[h0] at h;simp at h
  ·exact h0
 refine vK (vN ?_)
 rcases htg with ⟨_,rfl⟩ | ⟨q,es,clock,l,rfl,hqU,hq,hborn,hnod,hperm,hll,hent⟩
 ·simp at hne
 have hkeys:∀ (i:Nat) x,l[i]? = some x->∃ e:MapEntry,es[i]? = some e/\e.key=.int .u32 (x.1:Int):=fun i x hx=>by obtain ⟨e,h1,h2,_⟩:=hent i x hx;exact ⟨e,h1,h2⟩
 have hqlt:q<w.heap.size:=(Array.getElem?_eq_some_iff.1 hq).1
 have hblt:b<w.heap.size:=qj hcv
 -- the row of numbers
 refine vX (rM ?_)
 refine qV (ad:=⟨b,o,none⟩) (by simp (disch:=(try simp only[sP]);omega) only[eV,e0]) ?_
 refine rF (b:=b) (o:=o) (by simp (disch:=(try simp only[sP]);omega) only[eV]) HT.f0 ?_
 refine rL (b:=b) (o:=o+0) (v:=.map (some q)) (by simp (disch:=(try simp only[sP]);omega) only[eV]) HT.oMap hcv ?_
 refine gc (v:=.map (some q)) (n:=tags.length) HT.map (by simp (disch:=(try simp only[sP]);omega) only[eV]) hlen ?_
 refine r_makeSlice (n:=tags.length) HS.row rfl (by simp (disch:=(try simp only[sP]);omega) only[eV]) hn32 ?_
 intro w1 hown1 hb1 hz1
 refine qK HS.zU32s ?_
 have hf1:qq (w1.alloc (.cells (Value.slice none 0 0).cells E.tU32s)) w1.heap.size 0:=qn w1 _ _ (by simp[Value.cells])
 refine xq (b:=w1.heap.size) (o:=0) (v:=.slice (some ⟨w.heap.size,0,none⟩) 0 tags.length) (by simp (disch:=(try simp only[sP]);omega) only[eV]) (by simp (disch:=(try simp only[sP]);omega) only[eV]) rfl HS.oU32s hf1 ?_
 refine dn ?_
 have hb2:Below w.heap.size w ((w1.alloc (.cells (Value.slice none 0 0).cells E.tU32s)).setCell ⟨w1.heap.size,0,none⟩ (.slice (some ⟨w.heap.size,0,none⟩) 0 tags.length)) :=
  (hb1.alloc (o:=.cells _ _) (by omega)).setCell (p:=⟨w1.heap.size,0,none⟩) (by show w.heap.size<=w1.heap.size;omega) _
 have hc2:((w1.alloc (.cells (Value.slice none 0 0).cells E.tU32s)).setCell ⟨w1.heap.size,0,none⟩ (.slice (some ⟨w.heap.size,0,none⟩) 0 tags.length)).cell? ⟨w1.heap.size,0,none⟩=some (.slice (some ⟨w.heap.size,0,none⟩) 0 tags.length):=qo _ hf1.1
 have hf2:qq ((w1.alloc (.cells (Value.slice none 0 0).cells E.tU32s)).setCell ⟨w1.heap.size,0,none⟩ (.slice (some ⟨w.heap.size,0,none⟩) 0 tags.length)) w1.heap.size 0:=hf1.eff ((Eff.refl (fun k _=>k=w1.heap.size) _).setCell _ _ _ (fun _=>rfl))
 have hown2:((w1.alloc (.cells (Value.slice none 0 0).cells E.tU32s)).setCell ⟨w1.heap.size,0,none⟩ (.slice (some ⟨w.heap.size,0,none⟩) 0 tags.length)).ownsRow w.heap.size E.tW 1 (.slice (some ⟨w.heap.size,0,none⟩) 0 tags.length) 0 []:=by
  refine kc (hown1.alloc _) (fun g hg=>Below.heap_setCell _ _ _ _ ?_)
  simp only[Value.ownBlock,Option.some.injEq] at hg
  show g≠w1.heap.size
  omega
 have hz2:((w1.alloc (.cells (Value.slice none 0 0).cells E.tU32s)).setCell ⟨w1.heap.size,0,none⟩ (.slice (some ⟨w.heap.size,0,none⟩) 0 tags.length)).heap.size=w.heap.size+2:=by simp;omega
 generalize (w1.alloc (.cells (Value.slice none 0 0).cells E.tU32s)).setCell ⟨w1.heap.size,0,none⟩ (.slice (some ⟨w.heap.size,0,none⟩) 0 tags.length)=w2 at *
 generalize ha1:Act.put _ (some 4) _=a1
 have hfr1:Fr (fun k=>k<2) a a1:=by
  subst ha1
  exact ((((((((((((((Fr.refl _ a).put _ (by omega)).put _ (by omega)).put _ (by omega)).put _ (by omega)).put _ (by omega)).put _ (by omega)).put _ (by omega)).put _ (by omega)).put _ (by omega)).put _ (by omega)).put _ (by omega)).put _ (by omega)).put _ (by omega))
 have h14:a1.eval (.tmp 4)=.pointer (some ⟨w1.heap.size,0,none⟩):=by subst ha1;simp (disch:=(try simp only[sP]);omega) only[eV]
 have hs1:=hfr1.size
 clear ha1
 generalize hob:w1.heap.size=ob at *
 have hoB:ob=w.heap.size+1:=by omega
 -- the range
 refine vS (vX (rM ?_))
 refine qV (ad:=⟨b,o,none⟩) (by simp (disch:=(try simp only[sP]);omega) only[eV,hfr1.slot 0 (by omega),e0]) ?_
 refine rF (b:=b) (o:=o) (by simp (disch:=(try simp only[sP]);omega) only[eV]) HT.f0 ?_
 refine rL (b:=b) (o:=o+0) (v:=.map (some q)) (by simp (disch:=(try simp only[sP]);omega) only[eV]) HT.oMap (by rw[hb2.cell (p:=⟨b,o+0,none⟩) hblt];exact hcv) ?_
 refine r_range (q:=q) (es:=es) (clock:=clock) HT.map (by simp (disch:=(try simp only[sP]);omega) only[eV]) (by rw[hb2.block q hqlt];exact hq) ?_
 refine dn ?_
 have hb3:Below w.heap.size w (w2.alloc (.mapIter (some q) clock #[] clock)):=hb2.alloc (o:=.mapIter _ _ _ _) (by omega)
 have hr3:(w2.alloc (.mapIter (some q) clock #[] clock)).heap[w2.heap.size]? = some (.mapIter (some q) clock #[] clock):=heap_alloc_new w2 _
 have hh3:∀ k,k<w2.heap.size->(w2.alloc (.mapIter (some q) clock #[] clock)).heap[k]? = w2.heap[k]?:=fun k hk=>Below.heap_alloc w2 _ k hk
 generalize w2.alloc (.mapIter (some q) clock #[] clock)=w3 at *
 generalize hrr:w2.heap.size=rr at *
 generalize ha2:Act.put _ (some 24) _=a2
 have hfr2:Fr (fun k=>k<5) a1 a2:=by
  subst ha2
  exact (((((Fr.refl _ a1).put _ (by omega)).put _ (by omega)).put _ (by omega)).put _ (by omega)).put _ (by omega)
 have h24:a2.eval (.tmp 24)=.pointer (some ⟨rr,0,none⟩):=by subst ha2;simp (disch:=(try simp only[sP]);omega) only[eV]
 have hs2:=hfr2.size
 clear ha2
 refine vS (qh (zU (fun A W=>∃ (seen:Array Nat) (ks:List Nat) (sv:Value),A.tmps.size=53/\A.defers=[]/\A.eval (.tmp 0)=.pointer (some ⟨b,o,none⟩)/\A.eval (.tmp 1)=fv/\A.eval (.tmp 4)=.pointer (some ⟨ob,0,none⟩)/\A.eval (.tmp 24)=.pointer (some ⟨rr,0,none⟩) ∧
   Below w.heap.size w W/\rr<W.heap.size/\W.heap[rr]? = some (.mapIter (some q) clock seen clock)/\W.cell? ⟨ob,0,none⟩=some sv/\qq W ob 0/\W.ownsRow w.heap.size E.tW 1 sv ks.length (ks.map zI)/\sv.ownBlock≠some ob/\sv.ownBlock≠some rr/\(ks++(leftOf es seen).toList.map jU).Perm (l.map (·.1)))
  (fun _ W=>match W.heap[rr]? with | some (.mapIter _ _ seen _)=>(leftOf es seen).size | _=>0) ?_ ?_))
 ·refine ⟨#[],[],.slice (some ⟨w.heap.size,0,none⟩) 0 tags.length,by rw[hs2,hs1,hsz],by rw[hfr2.defers,hfr1.defers,hdf],by rw[hfr2.slot 0 (by omega),hfr1.slot 0 (by omega)];exact e0,by rw[hfr2.slot 1 (by omega),hfr1.slot 1 (by omega)];exact e1,by rw[hfr2.slot 4 (by omega)];exact h14,h24,hb3,(Array.getElem?_eq_some_iff.1 hr3).1,hr3,by rw[kQ (hh3 ob (by omega))];exact hc2,zh (hh3 ob (by omega)) hf2,kc hown2 (fun g hg=>?_),?_,?_,?_⟩
  ·simp only[Value.ownBlock,Option.some.injEq] at hg
   exact hh3 g (by omega)
  ·simp only[Value.ownBlock,ne_eq,Option.some.injEq];omega
  ·simp only[Value.ownBlock,ne_eq,Option.some.injEq];omega
  ·have e:(leftOf es #[]).toList=es.toList:=by unfold leftOf;simp
   rw[List.nil_append,e,keys_eq hll hkeys]
 ·rintro A W ⟨seen,ks,sv,hsA,hdA,g0,g1,g4,g24,hbW,hrW,hit,hcs,hfs,hown,hne1,hne2,hpm⟩
  have hqW:W.heap[q]? = some (.map es clock):=by rw[hbW.block q hqlt];exact hq
  refine vX ?_
  refine r_next (rr:=rr) (q:=q) (es:=es) (clock:=clock) (seen:=seen) g24 hit hqW hborn ?_ ?_
  ·intro hz
   refine qk (vs:=#[.bool false]) (v:=.bool false) (by simp (disch:=(try simp only[sP]);omega) only[eV]) rfl ?_
   refine dn ?_
   refine vS (vC (t:=false) (by simp (disch:=(try simp only[sP]);omega) only[eV]) (fun h=>by cases h) ?_)
   intro _
   refine xc ?_
   simp only[Exit.then,Exit.inBlock,if_true]
   refine vN ?_
   have hks:ks.Perm (l.map (·.1)):=by
    have e:(leftOf es seen).toList=[]:=by
     have:(leftOf es seen)=#[]:=Array.eq_empty_of_size_eq_zero hz
     rw[this]
    rw[e] at hpm
    simpa using hpm
   have hkn:ks.length=tags.length:=by rw[hks.length_eq,List.length_map,hperm.length_eq]
   -- the sort
   refine vX ?_
   refine rL (b:=ob) (o:=0) (v:=sv) (by simp (disch:=(try simp only[sP]);omega) only[eV,g4]) HS.oU32s hcs ?_
   refine r_makeIface (xM HS.row).1 ?_
   refine wo ?_
   refine q8 (args:=#[.iface E.tU32s sv,.func (.func E.gAll1) #[] #[.pointer (some ⟨ob,0,none⟩)]]) ?_ (k_sort HS (ob:=ob) (n:=ks.length) (ks:=ks) hown rfl (by omega) (by omega) hcs (fun x c e=>fun e2=>hne1 (by rw[e,← e2];rfl))) ?_
   ·simp only[lM]
    simp (disch:=(try simp only[sP]);omega) only[eV,g4]
   rintro _ w5 ⟨blk,cap,ks',rfl,hUb,hblk,hp',hso,hcel,hE5⟩
   have hks':ks'=tags.map (·.1):=yW _ _ ((hp'.trans hks).trans (hperm.map _)) hso (List.pairwise_map.2 hok.1)
   refine dn ?_
   have hz5:=hE5.size
   have hobk:ob≠blk:=fun e=>hne1 (by rw[e];rfl)
   have hc5:w5.cell? ⟨ob,0,none⟩=some (.slice (some ⟨blk,0,none⟩) ks.length cap):=hE5.cellSome hcs hobk
   have hb5:Below w.heap.size w w5:=hbW.trans (hE5.below hbW.size (by rintro k i hk rfl;omega))
   refine vX ?_
   refine rL (b:=ob) (o:=0) (v:=.slice (some ⟨blk,0,none⟩) ks.length cap) (by simp (disch:=(try simp only[sP]);omega) only[eV,g4]) HS.oU32s hc5 ?_
   refine qY (ad:=some ⟨blk,0,none⟩) (n:=ks.length) (c:=cap) (rB HS.row) (by simp (disch:=(try simp only[sP]);omega) only[eV]) ?_
   refine rM (dn ?_)
   generalize hA5:Act.put _ (some 39) _=A5
   have hfr5:Fr (fun k=>k<25) A A5:=by
    subst hA5
    exact ((((((((((Fr.refl _ A).put _ (by omega)).put _ (by omega)).put _ (by omega)).put _ (by omega)).put _ (by omega)).put _ (by omega)).put _ (by omega)).put _ (by omega)).put _ (by omega))
   have h37:A5.eval (.tmp 37)=.slice (some ⟨blk,0,none⟩) ks.length cap:=by subst hA5;simp (disch:=(try simp only[sP]);omega) only[eV]
   have h38:A5.eval (.tmp 38)=.int .i64 (ks.length:Nat):=by subst hA5;simp (disch:=(try simp only[sP]);omega) only[eV]
   have h39:A5.eval (.tmp 39)=.int .i64 ((0:Nat):Int):=by subst hA5;simp (disch:=(try simp only[sP]);omega) only[eV];rfl
   have hs5:=hfr5.size
   clear hA5
   have hd5:DSt E U db w5 dv xs:=⟨by rw[hb5.cell (p:=⟨db,0,none⟩) hdb];exact hd.cell,zh (hb5.block db hdb) hd.free,kc hd.own (fun g hg=>hb5.block g (own_lt hd.own g hg).2),hd.ne,hd.U⟩
   have hUw:U<=w.heap.size:=by omega
   refine vS (qh (zU (fun A W=>∃ (i:Nat) (dvi:Value),i<=ks.length/\A.tmps.size=53/\A.defers=[]/\A.eval (.tmp 0)=.pointer (some ⟨b,o,none⟩)/\A.eval (.tmp 1)=fv/\A.eval (.tmp 37)=.slice (some ⟨blk,0,none⟩) ks.length cap/\A.eval (.tmp 38)=.int .i64 (ks.length:Nat)/\A.eval (.tmp 39)=.int .i64 (i:Int) ∧
     DSt E U db W dvi (xs++((tags.take i).map qR).flatten)/\Below U w W/\qb W blk 0 (ks'.map zI)/\w5.heap.size<=W.heap.size/\(∀ g,dvi.ownBlock=some g->dv.ownBlock=some g\/w5.heap.size<=g)/\∀ k,k<w.heap.size->k≠db->dv.ownBlock≠some k->W.heap[k]? = w.heap[k]?)
    (fun A _=>ks.length-(intOf (A.eval (.tmp 39))).toNat) ?_ ?_))
   ·refine ⟨0,dv,Nat.zero_le _,by rw[hs5];exact hsA,by rw[hfr5.defers];exact hdA,by rw[hfr5.slot 0 (by omega)];exact g0,by rw[hfr5.slot 1 (by omega)];exact g1,h37,h38,h39,by simpa using hd5,hb5.mono hUw,hcel,Nat.le_refl _,fun g hg=>.inl hg,fun k hk _ _=>hb5.block k hk⟩
   ·rintro A6 W6 ⟨i,dvi,hi,hsA6,hdA6,k0,k1,k37,k38,k39,hdst,hbW6,hcel6,hz6,hrow6,hkeep6⟩
    refine vX ?_
    refine qW (k:=.i64) (m:=(i:Int)) (n:=(ks.length:Int)) k39 k38 ?_
    refine dn ?_
    refine vS (vC (t:=decide ((i:Int)<(ks.length:Int))) (by simp (disch:=(try simp only[sP]);omega) only[eV]) ?_ ?_)
    ·intro hlt
     have hlt':i<ks.length:=by simpa using hlt
     have hit':i<tags.length:=by omega
     refine vK ?_
     have hki:(ks'.map zI)[i]? = some (zI (tags[i]).1):=by
      rw[hks',List.map_map,List.getElem?_map,List.getElem?_eq_getElem hit']
      rfl
     refine vS (qh (vX ?_))
     refine qA (b:=blk) (o:=0) (len:=ks.length) (cap:=cap) (k:=.i64) (j:=i) (rB HS.row) (by simp (disch:=(try simp only[sP]);omega) only[eV,k37]) (by simp (disch:=(try simp only[sP]);omega) only[eV,k39]) hlt' ?_
     refine rL (b:=blk) (o:=0+i*1) (v:=zI (tags[i]).1) (by simp (disch:=(try simp only[sP]);omega) only[eV]) HS.oU32 (by rw[Nat.mul_one];exact hcel6 i _ hki) ?_
     refine rA (dn ?_)
     obtain ⟨j,hfj,hlj⟩:=tag_find hperm hok.1 (List.getElem_mem hit')
     obtain ⟨e,hej,hek,hev,hsrc⟩:=hent j _ hlj
     refine vX (rM (rM (rM ?_)))
     refine qV (ad:=⟨b,o,none⟩) (by simp (disch:=(try simp only[sP]);omega) only[eV,k0]) ?_
     refine rF (b:=b) (o:=o) (by simp (disch:=(try simp only[sP]);omega) only[eV]) HT.f0 ?_
     refine rL (b:=b) (o:=o+0) (v:=.map (some q)) (by simp (disch:=(try simp only[sP]);omega) only[eV]) HT.oMap (by rw[hbW6.cell (p:=⟨b,o+0,none⟩) hbU];exact hcv) ?_
     refine rM ?_
     refine r_lookup (q:=q) (es:=es) (clock:=clock) (k:=(tags[i]).1) (j:=j) (e:=e) (l:=l) HT.map HT.u32 (by simp (disch:=(try simp only[sP]);omega) only[eV]) (by (try simp (disch:=(try simp only[sP]);omega) only[eV])<;>(first | rfl | assumption)) (by rw[hbW6.block q hqU];exact hq) hll hkeys hfj hej ?_
     have hlenb:(xs++((tags.take i).map qR).flatten).length+(qR ((tags[i]).1,(tags[i]).2)).length<=big:=by
      have:=flat_take hit'
      rw[List.length_append]
      show _+(qR tags[i]).length<=big
      omega
     refine r_callF (f:=E.gEach1) (pre:=#[]) (post:=#[.pointer (some ⟨db,0,none⟩)]) (args:=#[.int .u32 ((tags[i]).1:Int),e.val,.pointer (some ⟨db,0,none⟩)]) (by rw[hfv];exact (by simp (disch:=(try simp only[sP]);omega) only[eV,k1])) ?_
      (hg1 (k:=(tags[i]).1) (l:=(tags[i]).2) hdst (hok.2 _ (List.getElem_mem hit')) hev (fun w' hb'=>hsrc w' (hbW6.trans hb')) hlenb) ?_
     ·simp only[lM]
      simp (disch:=(try simp only[sP]);omega) only[eV]
      rfl
     rintro _ W7 ⟨dv7,hd7,hkp7⟩
     refine dn (vN ?_)
     have hz7:=hkp7.below.size
     have hcel7:qb W7 blk 0 (ks'.map zI):=by
      have hblk6:blk<W6.heap.size:=by omega
      have:=hkp7.same blk hblk6 (by omega) (fun e=>by
       rcases hrow6 blk e with h1 | h1
       ·have:=(own_lt hd.own blk h1).2;omega
       ·omega)
      intro x u hu
      rw[kQ this]
      exact hcel6 x u hu
     refine vX ?_
     refine xP (k:=.i64) (m:=(i:Int)) (n:=1) (by simp (disch:=(try simp only[sP]);omega) only[eV,k39]) rfl ?_
     rw[wrap_i64 (by omega) (by omega)]
     refine rM (dn (vN ?_))
     generalize hA7:Act.put _ (some 39) _=A7
     have hfr7:Fr (fun k=>k<7\/k=37\/k=38) A6 A7:=by
      subst hA7
      exact (((((((((((((((Fr.refl _ A6).put _ (by omega)).put _ (by omega)).put _ (by omega)).put _ (by omega)).put _ (by omega)).put _ (by omega)).put _ (by omega)).put _ (by omega)).put _ (by omega)).put _ (by omega)).put _ (by omega)).put _ (by omega)).put _ (by omega)).put _ (by omega)).put _ (by omega)
     have h397:A7.eval (.tmp 39)=.int .i64 ((i+1:Nat):Int):=by subst hA7;simp (disch:=(try simp only[sP]);omega) only[eV];rfl
     clear hA7
     refine ⟨⟨i+1,dv7,hlt',by rw[hfr7.size];exact hsA6,by rw[hfr7.defers];exact hdA6,by rw[hfr7.slot 0 (by omega)];exact k0,by rw[hfr7.slot 1 (by omega)];exact k1,by rw[hfr7.slot 37 (by omega)];exact k37,by rw[hfr7.slot 38 (by omega)];exact k38,h397,?_,hbW6.trans hkp7.below,hcel7,by omega,fun g hg=>?_,fun k hk hkd hkv=>?_⟩,?_⟩
     ·have e2:xs++((tags.take (i+1)).map qR).flatten=xs++((tags.take i).map qR).flatten++qR ((tags[i]).1,(tags[i]).2):=by
       rw[List.take_succ_eq_append_getElem hit',List.map_append,List.flatten_append,List.append_assoc]
       simp
      rw[e2]
      exact hd7
     ·rcases hkp7.row g hg with h1 | h1
      ·exact hrow6 g h1
      ·exact .inr (by omega)
     ·have hz56:=hb5.size
      rw[hkp7.same k (by omega) hkd (fun e=>by
       rcases hrow6 k e with h1 | h1
       ·exact hkv h1
       ·omega)]
      exact hkeep6 k hk hkd hkv
     ·show ks.length-(intOf _).toNat<ks.length-(intOf _).toNat
      rw[h397,k39]
      simp only[intOf,Int.toNat_natCast]
      omega
    ·intro hge
     have hin:i=ks.length:=by
      have:¬ ((i:Int)<(ks.length:Int)):=by simpa using hge
      omega
     refine xc ?_
     simp only[Exit.then,Exit.inBlock,if_true]
     refine vN ?_
     have e3:tags.take i=tags:=by rw[hin,hkn];exact List.take_length
     rw[e3] at hdst
     exact ⟨by simp only[dF];exact hdA6,.tuple #[],by simp[results],dvi,hdst,hbW6,hkeep6⟩
  ·intro e he w1' hw1'
   have hheap:w1'.heap=W.heap:=by rcases hw1' with rfl | rfl<;>rfl
   have hees:e ∈ es.toList:=by
    unfold leftOf at he
    rw[Array.toList_filter] at he
    exact (List.mem_filter.1 he).1
   have hbs:Below w.heap.size w (setBlock w1' rr (.mapIter (some q) clock (seen.push e.born) clock)):=by
    have h1:Below w.heap.size w w1':=by rcases hw1' with rfl | rfl;exact hbW;exact ⟨hbW.os,hbW.tape,hbW.output,hbW.size,hbW.block⟩
    exact h1.trans (yQ _ (by omega))
   have hrb:(setBlock w1' rr (.mapIter (some q) clock (seen.push e.born) clock)).heap[rr]? = some (.mapIter (some q) clock (seen.push e.born) clock):=by
    simp only[setBlock]
    rw[Array.getElem?_setIfInBounds_self_of_lt (by rw[hheap];exact hrW)]
   have hkb:∀ k,k≠rr->(setBlock w1' rr (.mapIter (some q) clock (seen.push e.born) clock)).heap[k]? = W.heap[k]?:=fun k hk=>by rw[jo _ hk,hheap]
   have hzb:(setBlock w1' rr (.mapIter (some q) clock (seen.push e.born) clock)).heap.size=W.heap.size:=by rw[jH,hheap]
   generalize setBlock w1' rr (.mapIter (some q) clock (seen.push e.born) clock)=W2 at *
   have hobr:ob≠rr:=by omega
   have hcs2:W2.cell? ⟨ob,0,none⟩=some sv:=by rw[kQ (hkb ob hobr)];exact hcs
   have hfs2:qq W2 ob 0:=zh (hkb ob hobr) hfs
   have hown2':W2.ownsRow w.heap.size E.tW 1 sv ks.length (ks.map zI):=kc hown (fun g hg=>hkb g (fun e=>hne2 (by rw[hg,e])))
   have hke:=key_enc hll hkeys hees
   refine qk (vs:=#[.bool true,e.key,e.val]) (v:=.bool true) (by simp (disch:=(try simp only[sP]);omega) only[eV]) rfl ?_
   refine dn ?_
   refine vS (vC (t:=true) (by simp (disch:=(try simp only[sP]);omega) only[eV]) ?_ (fun h=>by cases h))
   intro _
   refine vK ?_
   refine vS (qh (vX ?_))
   refine r_entry (rr:=rr) (q:=q) (since:=clock) (seen:=seen) (es:=es) (clock:=clock) (e:=e) (by simp (disch:=(try simp only[sP]);omega) only[eV,g24]) hrb (by rw[hbs.block q hqlt];exact hq) hees hnod ?_
   refine qk (vs:=#[e.key,e.val]) (v:=e.key) (by simp (disch:=(try simp only[sP]);omega) only[eV]) rfl ?_
   refine rA (dn (vX ?_))
   refine rL (b:=ob) (o:=0) (v:=sv) (by simp (disch:=(try simp only[sP]);omega) only[eV,g4]) HS.oU32s hcs2 ?_
   refine rM ?_
   refine xB (s:=1) (vs:=[zI (jU e)]) HS.row ?_ rfl (by intro v hv;simp only[List.mem_cons,List.not_mem_nil,or_false] at hv;subst hv;rfl) (by omega) (by omega) ?_
   ·simp only[lM]
    simp (disch:=(try simp only[sP]);omega) only[eV]
    rw[hke]
    rfl
   have hcsl:[zI (jU e)].flatMap (fun v=>v.cells.toList)=[zI (jU e)]:=rfl
   rw[hcsl]
   have hkslen:ks.length<=tags.length:=by
    have h1:=hpm.length_eq
    rw[List.length_append,List.length_map,List.length_map,hperm.length_eq] at h1
    omega
   have hkslt:ks.length<tags.length:=by
    have h1:=hpm.length_eq
    rw[List.length_append,List.length_map,List.length_map,hperm.length_eq] at h1
    have h2:0<(leftOf es seen).toList.length:=List.length_pos_of_mem he
    omega
   refine r_appendK (U:=w.heap.size) (v:=sv) (n:=ks.length) (xs:=ks.map zI) (u:=.slice (some ⟨W2.heap.size,0,none⟩) 1 1) (m:=1) (news:=[zI (jU e)]) HS.row (by simp (disch:=(try simp only[sP]);omega) only[eV]) (by simp (disch:=(try simp only[sP]);omega) only[eV]) (hown2'.alloc _) (by simp;have:=hbs.size;omega) ?_ (by omega) ?_
   ·refine xW (rB HS.row) ?_ rfl (by intro u hu;simp only[List.mem_cons,List.not_mem_nil,or_false] at hu;subst hu;rfl)
    intro j u hu
    rw[Nat.zero_add]
    exact qt W2 _ _ (by simpa using hu)
   intro sv' W3 hown3 hb3' hkp3
   have hz3:=hb3'.size
   have hza:(W2.alloc (.cells [zI (jU e)].toArray E.tW)).heap.size=W2.heap.size+1:=by simp
   have hk3:∀ k,k<W2.heap.size->sv.ownBlock≠some k->W3.heap[k]? = W2.heap[k]?:=fun k hk hn=>by
    rw[hkp3.1 k (by omega) hn]
    exact Below.heap_alloc W2 _ k hk
   have hob2:ob<W2.heap.size:=qj hcs2
   have hf3:qq W3 ob 0:=zh (hk3 ob hob2 hne1) hfs2
   have hsv':sv'.ownBlock≠some ob/\sv'.ownBlock≠some rr:=by
    constructor
    ·intro e9
     rcases hkp3.2 ob e9 with h1 | h1
     ·exact hne1 h1
     ·omega
    ·intro e9
     rcases hkp3.2 rr e9 with h1 | h1
     ·exact hne2 h1
     ·omega
   refine xq (b:=ob) (o:=0) (v:=sv') (by simp (disch:=(try simp only[sP]);omega) only[eV,g4]) (by simp (disch:=(try simp only[sP]);omega) only[eV]) (gi hown3).1 HS.oU32s hf3 ?_
   refine dn (vN (vN ?_))
   generalize hA3:Act.put _ (some 32) _=A3
   have hfr3:Fr (fun k=>k<5\/k=24) A A3:=by
    subst hA3
    exact ((((((((Fr.refl _ A).put _ (by omega)).put _ (by omega)).put _ (by omega)).put _ (by omega)).put _ (by omega)).put _ (by omega)).put _ (by omega)).put _ (by omega) |>.put _ (by omega)
   clear hA3
   have hrr3:(W3.setCell ⟨ob,0,none⟩ sv').heap[rr]? = some (.mapIter (some q) clock (seen.push e.born) clock):=by
    rw[Below.heap_setCell _ _ _ _ (by show rr≠ob;omega),hk3 rr (by omega) hne2]
    exact hrb
   have hbW3:Below w.heap.size w (W3.setCell ⟨ob,0,none⟩ sv'):=by
    have h1:Below w.heap.size w W3:=(hbs.alloc (o:=.cells _ _) hbs.size).trans hb3'
    exact h1.setCell (p:=⟨ob,0,none⟩) (by show w.heap.size<=ob;omega) _
   have hpm3:((ks++[jU e])++(leftOf es (seen.push e.born)).toList.map jU).Perm (l.map (·.1)):=by
    refine List.Perm.trans ?_ hpm
    rw[List.append_assoc]
    refine List.Perm.append_left ks ?_
    have:=((left_step hnod he).map jU).symm
    simpa using this
   refine ⟨⟨seen.push e.born,ks++[jU e],sv',by rw[hfr3.size];exact hsA,by rw[hfr3.defers];exact hdA,by rw[hfr3.slot 0 (by omega)];exact g0,by rw[hfr3.slot 1 (by omega)];exact g1,by rw[hfr3.slot 4 (by omega)];exact g4,by rw[hfr3.slot 24 (by omega)];exact g24,hbW3,by simp;omega,hrr3,qo _ hf3.1,hf3.eff ((Eff.refl (fun k _=>k=ob) _).setCell _ _ _ (fun _=>rfl)),?_,hsv'.1,hsv'.2,hpm3⟩,?_⟩
   ·have:W3.ownsRow w.heap.size E.tW 1 sv' (ks++[jU e]).length ((ks++[jU e]).map zI):=by simpa using hown3
    exact kc this (fun g hg=>Below.heap_setCell _ _ _ _ (fun e9=>hsv'.1 (by rw[hg,e9])))
   ·simp only[hrr3,hit]
    have h1:=(left_step hnod he).length_eq
    simp only[Array.length_toList,List.length_cons] at h1
    omega
end
end Go.Km
namespace Go.Km
open Go Go.RowKit Go.ChangeMaps
attribute [local irreducible] vc rO_ qz qI qF
theorem xG.tagIn {P:Program} {E:Env} {W0 w:World} {sb:Sb} {v:Value} {tags:List (Nat × List UInt8)} (HB:xw P E.tB=some (E.tU8,1)) (h:xG W0 sb 0 v tags) (hw:Below W0.heap.size W0 w):TagIn P E w W0.heap.size v tags:=by
 obtain ⟨h1,_,h2⟩:=h
 refine ⟨h1,?_⟩
 rcases h2 with h2 | ⟨q,es,clock,hv,_,hq,hm,hb,hn,l,hp,hl,hx⟩
 ·exact .inl h2
 ·refine .inr ⟨q,es,clock,l,hv,hq,by rw[hw.block q hq];exact hm,hb,hn,hp,hl,fun i x hi=>?_⟩
  obtain ⟨e,e1,e2,e3⟩:=hx i x hi
  refine ⟨e,e1,e2,?_,?_⟩
  ·rcases e3 with ⟨e3,e4⟩ | ⟨c,o,cap,e3,_⟩
   ·exact ⟨none,0,by rw[e3,e4];rfl⟩
   ·exact ⟨_,cap,e3⟩
  ·intro w' hw'
   rcases e3 with ⟨e3,e4⟩ | ⟨c,o,cap,e3,_,hc,hcs⟩
   ·rw[e3,e4];exact wV HB
   ·rw[e3]
    refine xW HB ?_ (by simp) (xo _)
    intro j u hu
    rw[kQ ((hw.trans hw').block c hc)]
    exact hcs j u hu
theorem _root_.Go.World.ownsG.keepB {w w':World} {U:Gd} {e s n db:Nat} {v:Value} {xs:List Value} (h:w.ownsG U e s v n xs) (hlt:∀ b o,U.g b=some o->b<db) (hk:∀ k,k<w.heap.size->k≠db->v.ownBlock≠some k->w'.heap[k]? = w.heap[k]?):KeptG w' U.g e:=by
 intro b o hb
 obtain ⟨h1,h2⟩:=h.kept b o hb
 refine ⟨?_,h2⟩
 rw[hk b (Array.getElem?_eq_some_iff.1 h1).1 (by have:=hlt b o hb;omega) (fun e1=>?_)]
 ·exact h1
 ·rcases h.own.2 with ⟨rfl,_⟩ | ⟨g,cap,cur,rfl,_,h3,_⟩
  ·cases e1
  ·simp only[Value.ownBlock,Option.some.injEq] at e1
   subst e1
   rw[h1] at h3
   exact h2 cur (Option.some.inj h3)
section
variable {P : Program} {E : Env}
theorem k_teach (HT:TagT P E) (HS:SortE P E) (ht:Text P E.tEach 2 9 #[.tmp 4] (gx E)) (hta:Text P E.gAll 2 53 #[] (wC E)) (ht1:Text P E.gEach1 2 16 #[] (gE E)) (huv:∀ (n:Nat) U w,n<4294967296->Wr1K P E E.wUvarint U [.int .u32 n] (Go.Km.uvar n) w)
  (row:xd P E.tB E.tU8 1=true) (hob:qQ P E.tB=true) (ii:qs P E.tI=some .i64)
  {W0 w:World} {sb:Sb} {b o:Nat} {v:Value} {tags:List (Nat × List UInt8)} (hc:W0.cell? ⟨b,o,none⟩=some v) (hr:xG W0 sb 0 v tags) (hw:Below W0.heap.size W0 w)
  {G:Nat->Option Obj} {dv:Value} {xs:List UInt8} (hown:w.ownsG ⟨W0.heap.size,G⟩ E.tU8 1 dv xs.length (xs.map bv)) (hbg:xs.length+(tags.map qR).flatten.length<=big) :
  qa P E.tEach #[.pointer (some ⟨b,o,none⟩),dv] w fun v' w'=>w'.ownsG ⟨W0.heap.size,G⟩ E.tU8 1 v' (xs++(tags.map qR).flatten).length ((xs++(tags.map qR).flatten).map bv)/\Below W0.heap.size w w':=by
 refine qa.enter ht (by simp) ?_
 intro a hsz hdf harg
 have e0:=harg 0 (.pointer (some ⟨b,o,none⟩)) (by simp)
 have e1:=harg 1 dv (by simp)
 have hdc:dv.cells=#[dv]:=(gi hown.own).2
 have hz:=hw.size
 have hbl:Below W0.heap.size w (w.alloc (.cells dv.cells E.tB)):=(Below.refl _ w).alloc (o:=.cells _ _) hw.size
 have hw1:Below W0.heap.size W0 (w.alloc (.cells dv.cells E.tB)):=hw.trans hbl
 have hcw:(w.alloc (.cells dv.cells E.tB)).cell? ⟨b,o,none⟩=some v:=by rw[hw1.cell (p:=⟨b,o,none⟩) (qj hc)];exact hc
 have hn:=we tags
 have hd:DSt E W0.heap.size w.heap.size (w.alloc (.cells dv.cells E.tB)) dv xs:=by
  refine ⟨qt w _ _ (by rw[hdc];rfl),qn w _ _ (by rw[hdc];simp),hown.own.alloc _,fun e=>?_,hz⟩
  have:=(own_lt hown.own _ e).2
  omega
 unfold gx
 refine vX ?_
 refine xJ (v:=dv) (by simp (disch:=(try simp only[sP]);omega) only[eV,e1]) ?_
 refine rA (dn (vX (rM ?_)))
 refine wo ?_
 refine q8 (args:=#[.pointer (some ⟨b,o,none⟩),.func (.func E.gEach1) #[] #[.pointer (some ⟨w.heap.size,0,none⟩)]]) ?_
  (k_gAll HT HS hta ii (fun hd hk hv hs hb=>k_gEach1 ht1 huv row hob HS.iu ii hd hk hv hs hb) hcw (qj hc) (hr.tagIn (rB row) hw1) hd (by omega) hbg) ?_
 ·simp only[lM]
  simp (disch:=(try simp only[sP]);omega) only[eV,e0]
 rintro v' w' ⟨dv',hd',hb',hkeep⟩
 refine dn (vX ?_)
 refine rL (b:=w.heap.size) (o:=0) (v:=dv') (by simp (disch:=(try simp only[sP]);omega) only[eV]) hob hd'.cell ?_
 refine rA (dn (vS (vT ?_)))
 exact ⟨by simp only[dF];exact hdf,dv',rO (by simp (disch:=(try simp only[sP]);omega) only[eV]),⟨hd'.own,(hown.alloc _).keepB (db:=w.heap.size) (fun b o hb=>(Array.getElem?_eq_some_iff.1 (hown.kept b o hb).1).1) hkeep⟩,hbl.trans hb'⟩
structure TTexts (P:Program) (E:Env):Prop where
 tagT:TagT P E
 sortE:SortE P E
 gEach1:Text P E.gEach1 2 16 #[] (gE E)
 uv:E.wUvarint≠0
theorem envWT (HT:KTexts P E) (hB:kB P E=true) (HG:TTexts P E):EnvW P E (fun _=>True):=by
 have H0:=envW0 HT hB
 have hB':=hB
 simp only[kB,Bool.and_eq_true,beq_iff_eq,bne_iff_ne,ne_eq] at hB'
 obtain ⟨⟨⟨⟨⟨⟨⟨⟨⟨⟨⟨⟨⟨⟨⟨⟨⟨⟨⟨⟨⟨⟨⟨⟨⟨⟨⟨⟨⟨row,u8⟩,ii⟩,ob⟩,s8⟩,oU16⟩,oU32⟩,oU64⟩,oI8⟩,oI16⟩,oI32⟩,oI64⟩,oUv⟩,oStr⟩,oCStr⟩,oNStr⟩,oCNStr⟩,oB⟩,oCB⟩,oNB⟩,oCNB⟩,oL⟩,oCL⟩,oNL⟩,oCNL⟩,oUu⟩,oTl⟩,oTe⟩,oUv2⟩,oF⟩:=hB'
 have cUv:∀ (n:Nat) U w,n<4294967296->Wr1K P E E.wUvarint U [.int .u32 n] (Go.Km.uvar n) w:=fun n U w hn=>by
  have h2:=on_inv oUv HG.uv
  simp only[Bool.and_eq_true,beq_iff_eq,bne_iff_ne,ne_eq] at h2
  exact k_uvarK (HT.wUvarint HG.uv) (HT.uvLen h2.1.2) (HT.len32 h2.2) row u8 h2.1.1.1 ii (ki h2.1.1.2) hn
 refine { bytes:=H0.bytes,scal:=H0.scal,uuid:=H0.uuid,str:=H0.str,cstr:=H0.cstr,nstr:=H0.nstr,cnstr:=H0.cnstr,octs:=H0.octs,cocts:=H0.cocts,nocts:=H0.nocts,cnocts:=H0.cnocts,len:=H0.len,clen:=H0.clen,nlen:=H0.nlen,cnlen:=H0.cnlen,uvar:=H0.uvar,tlen:=?_,teach:=?_ }
 ·intro h W0 sb b o v tags w _ hc hr hw
  have h2:=on_inv oTl h
  simp only[Bool.and_eq_true,beq_iff_eq] at h2
  exact k_tlen (HT.tLen h) h2.1.1 h2.2 h2.1.2 hc hr hw
 ·intro h W0 sb b o v tags w hT hc hr hw G dv xs hown hb
  have h2:=on_inv oTe h
  simp only[Bool.and_eq_true,beq_iff_eq,bne_iff_ne,ne_eq] at h2
  exact k_teach HG.tagT HG.sortE (HT.tEach h) (HT.gAll h2.2) HG.gEach1 cUv row ob ii hc hr hw hown hb
end
end Go.Km
