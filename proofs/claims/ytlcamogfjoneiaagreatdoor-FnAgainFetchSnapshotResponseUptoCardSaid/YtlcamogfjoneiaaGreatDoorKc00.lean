/- Over any program: what the functions of kmsg, kbin and the spec compute. -/
import Derived.Test.YtlcamogfjoneiaaGreatDoorKb01
import Derived.Test.YtlcamogfjoneiaaGreatDoorKb03
import Derived.Test.YtlcamogfjoneiaaGreatDoorKb05
import Derived.Laws.CopyRow
import Derived.Laws.IdiomCopy
import Derived.Laws.OwnMore
set_option maxHeartbeats 4000000
set_option linter.unusedSimpArgs false
set_option linter.unusedVariables false
namespace Go.Km
open Go Go.RowKit
variable {B U b cap k o t ver:Nat} {E:Env} {P:Program} {Q:Exit->Act->World->Prop} {W w w':World} {a:Act} {ad:Option Addr} {cs ts xs:List Value} {e:TypeId} {fx:Bool} {r:List Oper} {u:List (Nat × List UInt8)} {v:Value}
theorem vI:∀ (k:Nat) (n m:Int),n % (256 ^ k:Nat)=m % (256 ^ k:Nat)->be k n=be k m
 | 0,_,_,_=>rfl
 | k+1,n,m,h=>by
  have hp:(0:Int)<((256 ^ k:Nat):Int):=by
   have:0<256 ^ k:=Nat.pow_pos (by decide)
   omega
  have e1:((256 ^ (k+1):Nat):Int)=((256 ^ k:Nat):Int)*256:=by rw[Nat.pow_succ];simp
  rw[e1] at h
  have h1:n % ((256 ^ k:Nat):Int)=m % ((256 ^ k:Nat):Int):=by
   have:=congrArg (fun x=>x % ((256 ^ k:Nat):Int)) h
   simpa only[Int.emod_emod_of_dvd _ (Int.dvd_mul_right _ _)] using this
  rw[emod_mul' n _ hp,emod_mul' m _ hp,h1] at h
  have h2:n / ((256 ^ k:Nat):Int) % 256=m / ((256 ^ k:Nat):Int) % 256:=by
   have h3:((256 ^ k:Nat):Int)*(n / ((256 ^ k:Nat):Int) % 256)=((256 ^ k:Nat):Int)*(m / ((256 ^ k:Nat):Int) % 256):=by omega
   exact Int.eq_of_mul_eq_mul_left zH h3
  have h4:∀ x:Int,x.fdiv (256 ^ k)=x / ((256 ^ k:Nat):Int):=fun x=>by
   rw[Int.fdiv_eq_ediv_of_nonneg _ (by have:=hp;simpa using Int.le_of_lt this)]
   simp
  simp only[be,h4,h2,vI k n m h1]
theorem sgn_mod {n:Nat} (hk:0<k) (h:n<256 ^ k):(sgn k n) % (256 ^ k:Nat)=(n:Int):=by
 have e0:2 ^ (8*k)=256 ^ k:=by rw[Nat.pow_mul]
 have e:(2:Int) ^ (8*k)=((256 ^ k:Nat):Int):=by rw[← e0];simp
 have hn:(n:Int)<((256 ^ k:Nat):Int):=by exact_mod_cast h
 unfold sgn
 split
 ·exact Int.emod_eq_of_lt zH hn
 ·rw[e,Int.sub_emod_right]
  exact Int.emod_eq_of_lt zH hn
def Scal.fit:Scal->Int->Int
 | .bool,n=>n % 2
 | .i8,n=>sgn 1 (n % (256 ^ 1:Nat)).toNat
 | .i16,n=>sgn 2 (n % (256 ^ 2:Nat)).toNat
 | .u16,n=>n % (256 ^ 2:Nat)
 | .i32,n=>sgn 4 (n % (256 ^ 4:Nat)).toNat
 | .i64,n=>sgn 8 (n % (256 ^ 8:Nat)).toNat
 | .f64,n=>n % (256 ^ 8:Nat)
def Scal.knd:Scal->Int
 | .bool=>0
 | .i8=>1
 | .i16=>2
 | .i32=>3
 | .i64=>4
 | .u16=>5
 | .f64=>6
theorem jr (n:Int) (k:Nat):(n % (256 ^ k:Nat)).toNat<256 ^ k:=by
 have hp:0<256 ^ k:=Nat.pow_pos (by decide)
 have h1:=Int.emod_nonneg n (show ((256 ^ k:Nat):Int)≠0 by omega)
 have h2:=Int.emod_lt_of_pos n (show (0:Int)<((256 ^ k:Nat):Int) by omega)
 omega
theorem be_fit (hk:0<k) (n:Int):be k (sgn k (n % (256 ^ k:Nat)).toNat)=be k n:=by
 refine vI k _ _ ?_
 have h1:=Int.emod_nonneg n (show ((256 ^ k:Nat):Int)≠0 by have:0<256 ^ k:=Nat.pow_pos (by decide);omega)
 rw[sgn_mod hk (jr n k)]
 omega
theorem Scal.fit_ok (s:Scal) (n:Int):s.ok (s.fit n):=by
 cases s
 case bool=>simp only[Scal.ok,Scal.fit];omega
 case u16=>simp only[Scal.ok,Scal.fit];omega
 case f64=>simp only[Scal.ok,Scal.fit];omega
 case i8=>have:=y7 (k:=1) (by decide) (jr n 1);simp only[Scal.ok,Scal.fit];omega
 case i16=>have:=y7 (k:=2) (by decide) (jr n 2);simp only[Scal.ok,Scal.fit];omega
 case i32=>have:=y7 (k:=4) (by decide) (jr n 4);simp only[Scal.ok,Scal.fit];omega
 case i64=>have:=y7 (k:=8) (by decide) (jr n 8);simp only[Scal.ok,Scal.fit];omega
theorem Scal.fit_wr (s:Scal) (n:Int) (h0:s≠.bool):s.wr (s.fit n)=be (xJ s.knd.toNat) n:=by
 cases s
 case bool=>exact absurd rfl h0
 case i8=>exact be_fit (k:=1) (by decide) n
 case i16=>exact be_fit (k:=2) (by decide) n
 case i32=>exact be_fit (k:=4) (by decide) n
 case i64=>exact be_fit (k:=8) (by decide) n
 case u16=>exact vI 2 _ _ (Int.emod_emod_of_dvd _ (Int.dvd_refl _))
 case f64 =>
  refine vI 8 _ _ ?_
  simp only[Scal.fit]
  omega
theorem Scal.fit_bool (n:Int):Scal.bool.wr (Scal.bool.fit n)=[o8 (n % 2)]:=by
 have:n % 2=0\/n % 2=1:=by omega
 rcases this with h | h<;>simp[Scal.wr,Scal.fit,h,o8]
def SF.subs:SF->SFs
 | .mk _ _ _ _ _ _ _ sub=>sub
def zk (kn:Nat) (fx:Bool) (t:Tr):List (Nat × List UInt8):=if fx then (unk kn (match t with | .mk _ _ _ _ u=>u)).map (fun x=>(x.1,x.2.take 32767)) else []
def Ver.nxT (m:Nat):Ver->Nat
 | .tag _ _=>m+1
 | _=>m
def Tr.s:Tr->List UInt8
 | .mk _ s _ _ _=>s
def Tr.n:Tr->Int
 | .mk n _ _ _ _=>n
def Tr.l:Tr->List Tr
 | .mk _ _ _ l _=>l.toL
mutual
def Ty.toD (fx:Bool) (ver:Nat):Ty->SFs->Bool->Tr->D
 | .scal s _,_,_,t | .named s _ _,_,_,t=>.int (s.fit t.n)
 | .uuid,_,_,t=>.bytes (some (t.s.take 16++List.replicate (16-t.s.length) 0))
 | .text,_,nl,t | .bytes,_,nl,t=>.bytes (some (if nl then [] else t.s.take 32767))
 | .ntext,_,nl,t | .nbytes,_,nl,t | .ntextFrom _,_,nl,t=>.bytes (if nl then none else some (t.s.take 32767))
 | .list _ null e,sub,nl,t=>if nl||(null.isNone&&t.l.isEmpty) then .list none else .list (some ((t.l.take 32767).map fun t=>e.toD fx ver sub false t))
 | .struct _ _ _ fs,sub,_,t=>.obj (fs.toD fx ver sub 0 t) (zk (known sub.tags) fx t)
 | .nstruct _ _ _ _ _,_,_,_=>.list none
def Flds.toD (fx:Bool) (ver:Nat):Flds->SFs->Nat->Tr->List D
 | .nil _,_,_,_=>[]
 | .cons v ty r,.cons f rs,i,t=>(if v.has ver||(v.isTag&&fx) then ty.toD fx ver f.subs (f.isNull ver (t.at i)) (t.at i) else ty.dflt)::r.toD fx ver rs (i+1) t
 | .cons v ty r,.nil,i,t=>ty.dflt::r.toD fx ver .nil (i+1) t
end
def Ver.agr:Ver->Int->Int->Bool
 | .tag _ _,_,_=>false
 | .all,fr,to=>decide (fr<=0)&&decide (to<0)
 | .ge n,fr,to=>decide (fr=n)&&decide (to<0)
 | .btw n m,fr,to=>decide (fr=n)&&decide (to=m)
def Ver.agrT (m:Nat) (fr to tag:Int):Ver->Bool
 | .tag k _=>k==m&&decide (k<65536)&&decide (tag=(k:Int))
 | v=>v.agr fr to&&decide (tag<0)
def SFs.zz:SFs->Bool
 | .cons (.mk _ _ _ _ _ d _ _) (.cons (.mk _ _ _ _ _ d' _ _) .nil)=>decide (d=0)&&decide (d'=0)
 | _=>false
def Ty.agrD (df:Int) (sub:SFs):Ty->Bool
 | .scal s d=>decide (d=df)&&s != .bool&&s != .f64&&s.okB d
 | .list _ none _=>true
 | t=>t.two&&sub.zz
mutual
def Ty.agr:Ty->Int->Int->Int->SFs->Bool
 | .scal s _,kind,_,_,_ | .named s _ _,kind,_,_,_=>kind==s.knd
 | .uuid,kind,_,_,_=>kind==7
 | .text,kind,nul,_,_=>kind==8&&decide (nul<0)
 | .ntext,kind,_,_,_=>kind==8
 | .ntextFrom N,kind,nul,_,_=>kind==8&&decide (nul=(N:Int))
 | .bytes,kind,nul,_,_=>kind==9&&decide (nul<0)
 | .nbytes,kind,_,_,_=>kind==9
 | .list _ null e,kind,nul,el,sub=>kind==11&&(match null with | none=>decide (nul<0) | some N=>decide (nul<0)||decide ((N:Int)<=nul))&&(el != 11)&&e.agr el (-1) 0 sub
 | .struct _ _ _ fs,kind,nul,_,sub=>kind==10&&decide (nul<0)&&fs.agr sub
 | .nstruct _ _ _ _ _,_,_,_,_=>false
def Flds.agr:Flds->SFs->(m:Nat:=0)->Bool
 | .nil _,.nil,_=>true
 | .cons v ty r,.cons (.mk kind fr to nul tag df el sub) rs,m=>v.agrT m fr to tag&&(!v.isTag||ty.agrD df sub)&&ty.agr kind nul el sub&&Flds.agr r rs (v.nxT m)
 | _,_,_=>false
end
mutual
def Tr.tok:Tr->Prop
 | .mk _ _ _ l u=>(∀ x ∈ u,x.1<4294967296)/\l.tok
def Trs.tok:Trs->Prop
 | .nil=>True
 | .cons t r=>t.tok/\r.tok
end
theorem Trs.tok_get:∀ {l:Trs},l.tok->∀ {i:Nat} {t:Tr},l.get i=some t->t.tok
 | .nil,_,_,_,h=>by cases h
 | .cons t r,h,0,u,e=>by
  simp only[Trs.get,Option.some.injEq] at e
  subst e
  exact h.1
 | .cons t r,h,i+1,u,e=>Trs.tok_get (l:=r) h.2 e
theorem Trs.tok_toL:∀ {l:Trs},l.tok->∀ t ∈ l.toL,t.tok
 | .nil,_,t,h=>by simp[Trs.toL] at h
 | .cons u r,h,t,e=>by
  simp only[Trs.toL,List.mem_cons] at e
  rcases e with rfl | e
  ·exact h.1
  ·exact Trs.tok_toL (l:=r) h.2 t e
theorem Tr.tok_at {t:Tr} (h:t.tok) (i:Nat):(t.at i).tok:=by
 cases t with
 | mk n s nl l u =>
  simp only[Tr.at]
  cases hg:l.get i with
  | none=>exact ⟨by simp,trivial⟩
  | some x=>exact Trs.tok_get h.2 hg
theorem Tr.tok_l {t:Tr} (h:t.tok):∀ x ∈ t.l,x.tok:=by
 cases t with
 | mk n s nl l u=>exact Trs.tok_toL h.2
theorem gO (x:Nat × List UInt8):∀ l y,y ∈ zL x l->y=x\/y ∈ l
 | [],y,h=>by simpa [zL] using h
 | z::r,y,h=>by
  unfold zL at h
  split at h
  ·rcases List.mem_cons.1 h with h | h
   ·exact .inr (by simp[h])
   ·rcases gO x r y h with h | h
    ·exact .inl h
    ·exact .inr (by simp[h])
  ·split at h
   ·exact .inr h
   ·rcases List.mem_cons.1 h with h | h
    ·exact .inl h
    ·exact .inr h
theorem insU_lenD (x:Nat × List UInt8):∀ l,(zL x l).length<=l.length+1
 | []=>by simp[zL]
 | z::r=>by
  have:=insU_lenD x r
  unfold zL
  split
  ·simp only[List.length_cons];omega
  ·split<;>simp
theorem insU_sorted (x:Nat × List UInt8):∀ l:List (Nat × List UInt8),l.Pairwise (fun a b=>a.1<b.1)->(zL x l).Pairwise (fun a b=>a.1<b.1)
 | [],_=>by simp[zL]
 | z::r,h=>by
  have h1:=List.pairwise_cons.1 h
  unfold zL
  split
  ·rename_i hz
   refine List.pairwise_cons.2 ⟨fun y hy=>?_,insU_sorted x r h1.2⟩
   rcases gO x r y hy with rfl | hy
   ·exact hz
   ·exact h1.1 y hy
  ·split
   ·exact h
   ·rename_i h2 h3
    refine List.pairwise_cons.2 ⟨fun y hy=>?_,h⟩
    rcases List.mem_cons.1 hy with rfl | hy
    ·omega
    ·have:=h1.1 y hy
     omega
theorem gl (P:(Nat × List UInt8)->Prop) (least:Nat):∀ (u acc:List (Nat × List UInt8)),(∀ x ∈ u,P x)->(∀ x ∈ acc,P x)->acc.Pairwise (fun a b=>a.1<b.1) →
  (∀ x ∈ u.foldl (fun l x=>if x.1<least then l else zL x l) acc,P x)/\(u.foldl (fun l x=>if x.1<least then l else zL x l) acc).Pairwise (fun a b=>a.1<b.1)/\(u.foldl (fun l x=>if x.1<least then l else zL x l) acc).length<=acc.length+u.length
 | [],acc,_,h1,h2=>⟨h1,h2,Nat.le_refl _⟩
 | x::u,acc,h0,h1,h2=>by
  simp only[List.foldl_cons,List.length_cons]
  by_cases hx:x.1<least
  ·rw[if_pos hx]
   have:=gl P least u acc (fun y hy=>h0 y (by simp[hy])) h1 h2
   exact ⟨this.1,this.2.1,by omega⟩
  ·rw[if_neg hx]
   have h3:=gl P least u (zL x acc) (fun y hy=>h0 y (by simp[hy])) (fun y hy=>by
    rcases gO x acc y hy with rfl | hy
    ·exact h0 _ zS
    ·exact h1 y hy) (insU_sorted x acc h2)
   have:=insU_lenD x acc
   exact ⟨h3.1,h3.2.1,by have:=h3.2.2;omega⟩
theorem tagsD_good {kn:Nat} {t:Tr} (h:t.tok):if fx then kO (zk kn fx t) else zk kn fx t=[]:=by
 cases fx with
 | false=>simp[zk]
 | true =>
  simp only[if_true]
  cases t with
  | mk n s nl l u =>
   have h1:=gl (fun x=>x.1<4294967296) kn (u.take 32767) [] (fun x hx=>h.1 x (List.mem_of_mem_take hx)) zS List.Pairwise.nil
   have e:zk kn true (.mk n s nl l u)=(unk kn u).map (fun x=>(x.1,x.2.take 32767)):=rfl
   have hu:unk kn u=(u.take 32767).foldl (fun l x=>if x.1<kn then l else zL x l) []:=rfl
   rw[e]
   rw[← hu] at h1
   have h2:=List.length_take_le 32767 u
   refine ⟨⟨List.pairwise_map.2 h1.2.1,fun x hx=>?_⟩,?_,fun x hx=>?_⟩
   ·obtain ⟨y,hy,rfl⟩:=List.mem_map.1 hx
    exact h1.1 y hy
   ·rw[List.length_map]
    have:=h1.2.2
    simp only[List.length_nil] at this
    omega
   ·obtain ⟨y,hy,rfl⟩:=List.mem_map.1 hx
    have:=List.length_take_le 32767 y.2
    show (y.2.take 32767).length<_
    omega
theorem Ver.agr_has {v:Ver} {fr to:Int} (h:v.agr fr to=true) (ver:Nat) {kind nul tag df el:Int} {sub:SFs}:(SF.mk kind fr to nul tag df el sub).has (ver:Int)=v.has ver:=by
 cases v with
 | all =>
  simp only[Ver.agr,Bool.and_eq_true,decide_eq_true_eq] at h
  have h1:fr<=(ver:Int):=by omega
  simp[SF.has,Ver.has,h1,h.2]
 | ge n =>
  simp only[Ver.agr,Bool.and_eq_true,decide_eq_true_eq] at h
  obtain ⟨rfl,h2⟩:=h
  simp[SF.has,Ver.has,h2]
 | tag k lb=>cases h
 | btw n m =>
  simp only[Ver.agr,Bool.and_eq_true,decide_eq_true_eq] at h
  obtain ⟨rfl,rfl⟩:=h
  have h1:¬ ((m:Int)<0):=by omega
  simp[SF.has,Ver.has,h1]
theorem wT {kind fr to nul tag df el v:Int} {sub:SFs} {t:Tr} (h:nul<0):(SF.mk kind fr to nul tag df el sub).isNull v t=false:=by
 cases t with
 | mk n s nl l u =>
  have:¬ (nul ≥ 0):=by omega
  simp[SF.isNull,this]
theorem wj {kind fr to nul tag df el v:Int} {sub:SFs} {t:Tr} (h:(SF.mk kind fr to nul tag df el sub).isNull v t=true):0<=nul/\nul<=v:=by
 cases t with
 | mk n s nl l u =>
  simp only[SF.isNull,Bool.and_eq_true,decide_eq_true_eq] at h
  exact ⟨h.1.2,h.2⟩
theorem cnt2 (fx:Bool) (l:List UInt8):cnt fx false l.length 2++l=ze fx l:=by
 unfold cnt ze
 cases fx<;>simp
theorem cnt4 (fx:Bool) (l:List UInt8):cnt fx false l.length 4++l=xn fx l:=by
 unfold cnt xn
 cases fx<;>simp
theorem wrTg_eq (x:Nat × List UInt8):kA x.1 x.2=qV x:=rfl
theorem insU_ge {m:Nat} (x:Nat × List UInt8) (hx:m<=x.1) (l:List (Nat × List UInt8)) (h:∀ y ∈ l,m<=y.1):∀ y ∈ zL x l,m<=y.1:=fun y hy=>by
 rcases gO x l y hy with rfl | hy
 ·exact hx
 ·exact h y hy
theorem unk_ge (m:Nat) (u:List (Nat × List UInt8)):∀ x ∈ unk m u,m<=x.1:=by
 unfold unk
 generalize u.take 32767=v
 have:∀ (v acc:List (Nat × List UInt8)),(∀ y ∈ acc,m<=y.1)->∀ y ∈ v.foldl (fun l x=>if x.1<m then l else zL x l) acc,m<=y.1:=by
  intro v
  induction v with
  | nil=>exact fun acc h=>h
  | cons x r ih =>
   intro acc h
   refine ih _ ?_
   show ∀ y ∈ (if x.1<m then acc else zL x acc),m<=y.1
   split
   ·exact h
   ·exact insU_ge x zH acc h
 exact this v [] zS
theorem gq {kn:Nat} {t:Tr}:∀ x ∈ zk kn fx t,kn<=x.1:=by
 intro x hx
 unfold zk at hx
 split at hx
 ·obtain ⟨y,hy,rfl⟩:=List.mem_map.1 hx
  exact unk_ge kn _ y hy
 ·simp at hx
def Rec.ou (r:Rec):List UInt8:=if r.1<0&&r.2.1 then r.2.2.2 else []
def Rec.tg (r:Rec):Option (Nat × List UInt8):=if decide (0<=r.1) && !r.2.2.1 then some (r.1.toNat,r.2.2.2) else none
def Rec.one (k:Nat) (r:Rec):Option (Nat × List UInt8):=if decide (r.1=((k:Nat):Int)) && !r.2.2.1 then some ((k:Nat),r.2.2.2) else none
def ordR:Nat->List Rec->Nat->Prop
 | m,[],n=>m=n
 | m,r::rs,n=>(r.1<0/\ordR m rs n)\/(r.1=(m:Int)/\ordR (m+1) rs n)
theorem ordR_le:∀ {rs:List Rec} {m n:Nat},ordR m rs n->m<=n
 | [],m,n,h=>by
  simp only[ordR] at h
  omega
 | r::rs,m,n,h=>by
  rcases h with ⟨_,h⟩ | ⟨_,h⟩
  ·exact ordR_le h
  ·have:=ordR_le h;omega
theorem ordR_ge:∀ {rs:List Rec} {m n:Nat},ordR m rs n->∀ r ∈ rs,0<=r.1->(m:Int)<=r.1
 | [],m,n,h,r,hr,_=>by simp at hr
 | x::rs,m,n,h,r,hr,h0=>by
  rcases h with ⟨hx,h⟩ | ⟨hx,h⟩
  ·rcases List.mem_cons.1 hr with rfl | hr
   ·omega
   ·exact ordR_ge h r hr h0
  ·rcases List.mem_cons.1 hr with rfl | hr
   ·omega
   ·have:=ordR_ge h r hr h0
    omega
theorem one_none {rs:List Rec} {m n:Nat} (h:ordR m rs n) (hk:k<m):rs.filterMap (Rec.one k)=[]:=by
 refine List.filterMap_eq_nil_iff.2 (fun r hr=>?_)
 unfold Rec.one
 have:¬ r.1=(k:Int):=fun e=>by
  have:=ordR_ge h r hr zH
  omega
 simp[this]
theorem tg_ord:∀ (rs:List Rec) (m n:Nat),ordR m rs n->(List.range' m (n-m)).flatMap (fun k=>rs.filterMap (Rec.one k))=rs.filterMap Rec.tg
 | [],m,n,h=>by simp
 | r::rs,m,n,h=>by
  rcases h with ⟨hr,h⟩ | ⟨hr,h⟩
  ·have e:∀ k,Rec.one k r=none:=fun k=>by
    unfold Rec.one
    have:¬ r.1=(k:Int):=by omega
    simp[this]
   have e2:Rec.tg r=none:=by
    unfold Rec.tg
    have:¬ 0<=r.1:=by omega
    simp[this]
   rw[List.filterMap_cons_none e2,← tg_ord rs m n h]
   congr 1
   funext k
   rw[List.filterMap_cons_none (e k)]
  ·have hle:=ordR_le h
   have hnm:n-m=(n-(m+1))+1:=by omega
   rw[hnm,List.range'_succ,List.flatMap_cons]
   have e1:(r::rs).filterMap (Rec.one m)=(Rec.one m r).toList:=by
    cases ho:Rec.one m r with
    | none=>rw[List.filterMap_cons_none ho,one_none h zH];rfl
    | some x=>rw[List.filterMap_cons_some ho,one_none h zH];rfl
   have e2:(List.range' (m+1) (n-(m+1))).flatMap (fun k=>(r::rs).filterMap (Rec.one k))=(List.range' (m+1) (n-(m+1))).flatMap (fun k=>rs.filterMap (Rec.one k)):=by
    simp only[List.flatMap]
    congr 1
    refine List.map_congr_left (fun k hk=>?_)
    have hk':=(List.mem_range'_1.1 hk).1
    have:Rec.one k r=none:=by
     unfold Rec.one
     have:¬ r.1=(k:Int):=by omega
     simp[this]
    rw[List.filterMap_cons_none this]
   have e3:Rec.one m r=Rec.tg r:=by
    unfold Rec.one Rec.tg
    rw[hr]
    simp
   rw[e1,e2,tg_ord rs (m+1) n h,e3]
   cases ho:Rec.tg r with
   | none=>rw[List.filterMap_cons_none ho];rfl
   | some x=>rw[List.filterMap_cons_some ho];rfl
theorem wh:∀ (rs:List Rec) (m n:Nat),ordR m rs n->(rs.map (·.1)).foldl (fun n t=>if 0<=t then max n (t.toNat+1) else n) m=n
 | [],m,n,h=>h
 | r::rs,m,n,h=>by
  rw[List.map_cons,List.foldl_cons]
  rcases h with ⟨hr,h⟩ | ⟨hr,h⟩
  ·rw[if_neg zH]
   exact wh rs m n h
  ·rw[if_pos zH,hr]
   have:max m ((m:Int).toNat+1)=m+1:=by simp
   rw[this]
   exact wh rs (m+1) n h
theorem pe {rs:List Rec} {t:Tr} {n:Nat} (h:ordR 0 rs n):
  y5 fx rs (match t with | .mk _ _ _ _ u=>u)=(rs.map Rec.ou).flatten++(if fx then xU (rs.filterMap Rec.tg++zk n fx t) else []):=by
 have h2:known (rs.map (·.1))=n:=wh rs 0 n h
 have h3:(List.range n).flatMap (fun (k:Nat)=>rs.filterMap fun r=>if decide (r.1=((k:Nat):Int)) && !r.2.2.1 then some ((k:Nat),r.2.2.2) else none)=rs.filterMap Rec.tg:=by
  have:=tg_ord rs 0 n h
  rw[Nat.sub_zero,← List.range_eq_range'] at this
  exact this
 have ho:(rs.map fun r=>if r.1<0&&r.2.1 then r.2.2.2 else [])=rs.map Rec.ou:=rfl
 unfold y5
 simp only[h2,ho]
 cases fx with
 | false=>simp
 | true =>
  simp only[if_true,h3]
  simp[xU,zk,wrTg_eq]
def Flds.topT:Flds->Nat->Nat
 | .nil _,m=>m
 | .cons v _ r,m=>r.topT (v.nxT m)
theorem Flds.agr_ord:∀ {fs:Flds} {sub:SFs} {m:Nat},fs.agr sub m=true->∀ (v:Int) (fx:Bool) (i:Nat) (t:Tr),ordR m (sub.recs v fx i t) (fs.topT m)
 | .nil _,.nil,m,_,v,fx,i,t=>by simp[SFs.recs,ordR,Flds.topT]
 | .nil _,.cons _ _,_,h,_,_,_,_=>by simp[Flds.agr] at h
 | .cons _ _ _,.nil,_,h,_,_,_,_=>by simp[Flds.agr] at h
 | .cons vv ty fs,.cons (.mk kind fr to nul tag df el sub) rs,m,h,v,fx,i,t=>by
  simp only[Flds.agr,Bool.and_eq_true] at h
  have ih:=Flds.agr_ord h.2 v fx (i+1) t
  simp only[SFs.recs,Flds.topT]
  cases hv:vv.isTag with
  | true =>
   cases vv with
   | tag k lb =>
    have:=h.1.1.1
    simp only[Ver.agrT,Bool.and_eq_true,beq_iff_eq,decide_eq_true_eq] at this
    obtain ⟨⟨rfl,_⟩,rfl⟩:=this
    exact .inr ⟨rfl,ih⟩
   | _=>cases hv
  | false =>
   have:=h.1.1.1
   have h2:tag<0:=by
    cases vv<;>first | (cases hv;done) | (simp only[Ver.agrT,Bool.and_eq_true,decide_eq_true_eq] at this;exact this.2)
   have h3:vv.nxT m=m:=by cases vv<;>first | (cases hv;done) | rfl
   rw[h3] at ih ⊢
   exact .inl ⟨h2,ih⟩
theorem Flds.agr_known {fs:Flds} {sub:SFs} (h:fs.agr sub=true):known sub.tags=fs.topT 0:=by
 have h1:=wh _ 0 _ (Flds.agr_ord h 0 false 0 (.mk 0 [] false .nil []))
 have h2:∀ (s:SFs) (i:Nat),(s.recs 0 false i (.mk 0 [] false .nil [])).map (·.1)=s.tags:=by
  intro s
  induction s using SFs.rec (motive_1:=fun _=>True) with
  | mk=>trivial
  | nil=>intro i;simp[SFs.recs,SFs.tags]
  | cons f r _ ih =>
   intro i
   cases f
   simp[SFs.recs,SFs.tags,ih]
 rw[h2] at h1
 exact h1
theorem Scal.wr_be (s:Scal) (n:Int) (h:s≠.bool) (h':s≠.f64):s.wr n=be (xJ s.knd.toNat) n:=by cases s<;>first | exact absurd rfl h | exact absurd rfl h' | rfl
theorem Scal.wr_inj {s:Scal} {a b:Int} (ha:s.ok a) (hb:s.ok b) (h:s.wr a=s.wr b):a=b:=by
 have h1:=Scal.rd_wr ha []
 have h2:=Scal.rd_wr hb []
 rw[h,h2] at h1
 exact (Prod.mk.inj h1).1.symm
theorem usual_isD {s:Scal} {d fr to nul tag el:Int} {sub:SFs} {t:Tr} (hb:s≠.bool) (hb':s≠.f64) (hd:s.ok d):(SF.mk s.knd fr to nul tag d el sub).usual t=(s.fit t.n==d):=by
 cases t with
 | mk n sv nl l u =>
  have h1:(SF.mk s.knd fr to nul tag d el sub).usual (.mk n sv nl l u)=(be (xJ s.knd.toNat) n==be (xJ s.knd.toNat) d):=by
   cases s<;>first | exact absurd rfl hb | (simp[SF.usual,Scal.knd])
  rw[h1,← Scal.fit_wr s n hb,← Scal.wr_be s d hb hb']
  by_cases h:s.fit n=d
  ·simp[Tr.n,h]
  ·have h2:¬ s.wr (s.fit n)=s.wr d:=fun e=>h (Scal.wr_inj (s.fit_ok n) hd e)
   rw[show (Tr.mk n sv nl l u).n=n from rfl,beq_eq_false_iff_ne.2 h2,beq_eq_false_iff_ne.2 h]
theorem Tr.nl_len:∀ l:Trs,l.toL.length=l.len
 | .nil=>rfl
 | .cons t r=>by simp[Trs.toL,Trs.len,Tr.nl_len r]
theorem usual_ten {fr to nul tag df el n:Int} {sub:SFs} {s:List UInt8} {nl:Bool} {l:Trs}:(SF.mk 10 fr to nul tag df el sub).usual (.mk n s nl l u)=(sub.usual 0 (.mk n s nl l u)&&(unk (known sub.tags) u).isEmpty):=by
 simp[SF.usual]
theorem usual_D {ty:Ty} {kind fr to nul tag df el:Int} {sub:SFs} {t:Tr} (hD:ty.agrD df sub=true) (ha:ty.agr kind nul el sub=true):
  (SF.mk kind fr to nul tag df el sub).usual t=ty.isD (ty.toD true ver sub ((SF.mk kind fr to nul tag df el sub).isNull ver t) t) ∧
  (ty.isD (ty.toD true ver sub ((SF.mk kind fr to nul tag df el sub).isNull ver t) t)=true->ty.toD true ver sub ((SF.mk kind fr to nul tag df el sub).isNull ver t) t=ty.dflt):=by
 have h2:ty.two=true->sub.zz=true->(SF.mk kind fr to nul tag df el sub).usual t=ty.isD (ty.toD true ver sub ((SF.mk kind fr to nul tag df el sub).isNull ver t) t) ∧
  (ty.isD (ty.toD true ver sub ((SF.mk kind fr to nul tag df el sub).isNull ver t) t)=true->ty.toD true ver sub ((SF.mk kind fr to nul tag df el sub).isNull ver t) t=ty.dflt):=by
  intro ht hz
  obtain ⟨TP,TU,F,rfl⟩:=vU ht
  match sub,hz with
  | .cons (.mk k0 f0 t0 n0 g0 d0 e0 s0) (.cons (.mk k1 f1 t1 n1 g1 d1 e1 s1) .nil),hz =>
  simp only[SFs.zz,Bool.and_eq_true,decide_eq_true_eq] at hz
  obtain ⟨rfl,rfl⟩:=hz
  simp only[Ty.agr,Flds.agr,Ver.agrT,Ver.isTag,Ver.nxT,Bool.and_eq_true,beq_iff_eq,decide_eq_true_eq] at ha
  obtain ⟨⟨rfl,hn⟩,⟨⟨⟨_,hg0⟩,_⟩,rfl⟩,⟨⟨⟨_,hg1⟩,_⟩,rfl⟩,_⟩:=ha
  have u0:=fun t:Tr=>usual_isD (s:=.i32) (d:=0) (fr:=f0) (to:=t0) (nul:=n0) (tag:=g0) (el:=e0) (sub:=s0) (t:=t) zS zS (by simp[Scal.ok])
  have u1:=fun t:Tr=>usual_isD (s:=.i32) (d:=0) (fr:=f1) (to:=t1) (nul:=n1) (tag:=g1) (el:=e1) (sub:=s1) (t:=t) zS zS (by simp[Scal.ok])
  cases t with
  | mk n s nl l u =>
  have hk:known (SFs.tags (.cons (.mk Scal.i32.knd f0 t0 n0 g0 0 e0 s0) (.cons (.mk Scal.i32.knd f1 t1 n1 g1 0 e1 s1) .nil)))=0:=by
   simp[SFs.tags,known,show ¬ 0<=g0 by omega,show ¬ 0<=g1 by omega]
  have e:(SF.mk 10 fr to nul tag df el (.cons (.mk Scal.i32.knd f0 t0 n0 g0 0 e0 s0) (.cons (.mk Scal.i32.knd f1 t1 n1 g1 0 e1 s1) .nil))).usual (.mk n s nl l u)=((Scal.i32.fit ((Tr.mk n s nl l u).at 0).n==0)&&(Scal.i32.fit ((Tr.mk n s nl l u).at 1).n==0)&&(unk 0 u).isEmpty):=by
   rw[usual_ten,hk,SFs.usual,SFs.usual,SFs.usual,u0,u1,Bool.and_true]
  have e2:Ty.toD true ver (.struct TP TU F (.cons .all (.scal .i32 0) (.cons .all (.scal .i32 0) (.nil true)))) (.cons (.mk Scal.i32.knd f0 t0 n0 g0 0 e0 s0) (.cons (.mk Scal.i32.knd f1 t1 n1 g1 0 e1 s1) .nil)) ((SF.mk 10 fr to nul tag df el (.cons (.mk Scal.i32.knd f0 t0 n0 g0 0 e0 s0) (.cons (.mk Scal.i32.knd f1 t1 n1 g1 0 e1 s1) .nil))).isNull ver (.mk n s nl l u)) (.mk n s nl l u) =
    .obj [.int (Scal.i32.fit ((Tr.mk n s nl l u).at 0).n),.int (Scal.i32.fit ((Tr.mk n s nl l u).at 1).n)] ((unk 0 u).map (fun x=>(x.1,x.2.take 32767))):=by
   simp only[Ty.toD,Flds.toD,Ver.has,Bool.true_or,if_true,zk,hk]
  rw[e,e2]
  simp only[Ty.isD,List.isEmpty_map]
  refine ⟨trivial,fun h=>?_⟩
  simp only[Bool.and_eq_true,beq_iff_eq,List.isEmpty_iff] at h
  obtain ⟨⟨h1,h2⟩,h3⟩:=h
  rw[h1,h2,h3]
  rfl
 cases ty with
 | scal s d =>
  simp only[Ty.agrD,Bool.and_eq_true,bne_iff_ne,ne_eq,decide_eq_true_eq] at hD
  obtain ⟨⟨⟨rfl,hb⟩,hb'⟩,hokd⟩:=hD
  simp only[Ty.agr,beq_iff_eq] at ha
  subst ha
  refine ⟨usual_isD hb hb' (s.okB_ok hokd),fun h=>?_⟩
  simp only[Ty.toD,Ty.isD,beq_iff_eq] at h
  simp only[Ty.toD,Ty.dflt,h]
 | list TS null e =>
  cases null with
  | none =>
   simp only[Ty.agr,Bool.and_eq_true,beq_iff_eq,decide_eq_true_eq] at ha
   obtain ⟨⟨⟨rfl,hn⟩,_⟩,_⟩:=ha
   rw[wT hn]
   cases t with
   | mk n s nl l u =>
   have e1:(SF.mk 11 fr to nul tag df el sub).usual (.mk n s nl l u)=(l.len==0):=by simp[SF.usual]
   have e2:(Tr.mk n s nl l u).l=l.toL:=rfl
   rw[e1]
   simp only[Ty.toD,Option.isNone_none,Bool.false_or,Bool.true_and,e2,← Tr.nl_len]
   cases l.toL with
   | nil=>exact ⟨rfl,fun _=>rfl⟩
   | cons x r=>exact ⟨rfl,fun h=>by cases h⟩
  | some N=>exact absurd hD (by simp[Ty.agrD,Ty.two])
 | struct TP TU F fs =>
  simp only[Ty.agrD,Bool.and_eq_true] at hD
  exact h2 hD.1 hD.2
 | _=>exact absurd hD (by simp[Ty.agrD,Ty.two])
theorem Flds.topT_ge:∀ (fs:Flds) (m:Nat),m<=fs.topT m
 | .nil _,m=>Nat.le_refl _
 | .cons v _ r,m=>by
  have:=Flds.topT_ge r (v.nxT m)
  have h2:m<=v.nxT m:=by cases v<;>simp[Ver.nxT]
  simp only[Flds.topT]
  omega
theorem Flds.topT_le:∀ {fs:Flds} {sub:SFs} {m:Nat},fs.agr sub m=true->m<=65536->fs.topT m<=65536
 | .nil _,.nil,m,_,h=>h
 | .nil _,.cons _ _,_,h,_=>by simp[Flds.agr] at h
 | .cons _ _ _,.nil,_,h,_=>by simp[Flds.agr] at h
 | .cons v ty r,.cons (.mk kind fr to nul tag df el sub) rs,m,h,hm=>by
  simp only[Flds.agr,Bool.and_eq_true] at h
  simp only[Flds.topT]
  refine Flds.topT_le h.2 ?_
  cases v with
  | tag k lb =>
   have:=h.1.1.1
   simp only[Ver.agrT,Bool.and_eq_true,beq_iff_eq,decide_eq_true_eq] at this
   simp only[Ver.nxT]
   omega
  | _=>exact hm
def ptOf (fx:Bool) (v:Int) (sub:SFs):Tr->List UInt8:=fun t=>y5 fx (sub.recs v fx 0 t) (match t with | .mk _ _ _ _ u=>u)
theorem SF.wrV {v kind fr to nul tag df el:Int} {sub:SFs} {t:Tr} (h11:kind≠11) (h10:kind=10->nul<0):
  SF.wr v fx (.mk kind fr to nul tag df el sub) t=z7 kind (ptOf fx v sub) ((SF.mk kind fr to nul tag df el sub).isNull v t) fx t:=by
 have h:¬ ((decide (kind=10)&&decide (nul ≥ 0))=true):=by
  simp only[Bool.and_eq_true,decide_eq_true_eq]
  rintro ⟨h1,h2⟩
  have:=h10 h1
  omega
 simp only[SF.wr,h11,if_false,h]
 rfl
theorem SF.wrL {v fr to nul tag df el:Int} {sub:SFs} {t:Tr}:
  SF.wr v fx (.mk 11 fr to nul tag df el sub) t=cnt fx ((SF.mk 11 fr to nul tag df el sub).isNull v t) (if (SF.mk 11 fr to nul tag df el sub).isNull v t then [] else t.l.take 32767).length 4++((if (SF.mk 11 fr to nul tag df el sub).isNull v t then [] else t.l.take 32767).map fun t=>z7 el (ptOf fx v sub) false fx t).flatten:=by
 cases t
 simp only[SF.wr,if_true]
 rfl
theorem valW_num {s:Scal} {pt:Tr->List UInt8} {nl:Bool} {t:Tr}:z7 s.knd pt nl fx t=s.wr (s.fit t.n):=by
 cases t with
 | mk n sv b l u =>
  by_cases hb:s=.bool
  ·subst hb
   rw[Scal.fit_bool]
   rfl
  ·rw[Scal.fit_wr s _ hb]
   cases s<;>first | exact absurd rfl hb | rfl
theorem valW_uuid {pt:Tr->List UInt8} {nl:Bool} {t:Tr}:z7 7 pt nl fx t=t.s.take 16++List.replicate (16-t.s.length) 0:=by
 cases t;rfl
theorem valW_text {pt:Tr->List UInt8} {nl:Bool} {t:Tr}:z7 8 pt nl fx t=cnt fx nl (if nl then [] else t.s.take 32767).length 2++(if nl then [] else t.s.take 32767):=by
 cases t;rfl
theorem valW_bytes {pt:Tr->List UInt8} {nl:Bool} {t:Tr}:z7 9 pt nl fx t=cnt fx nl (if nl then [] else t.s.take 32767).length 4++(if nl then [] else t.s.take 32767):=by
 cases t;rfl
theorem valW_struct {pt:Tr->List UInt8} {nl:Bool} {t:Tr}:z7 10 pt nl fx t=pt t:=by
 cases t;rfl
theorem Scal.knd_le (s:Scal):s.knd<=6:=by cases s<;>decide
theorem unk_len2 (m:Nat) (u:List (Nat × List UInt8)):(unk m u).length<=32767:=by
 have h1:=gl (fun _=>True) m (u.take 32767) [] (fun _ _=>trivial) zS List.Pairwise.nil
 have h2:=List.length_take_le 32767 u
 have h3:=h1.2.2
 simp only[List.length_nil] at h3
 have:(unk m u).length=((u.take 32767).foldl (fun l x=>if x.1<m then l else zL x l) []).length:=rfl
 omega
theorem tagsD_len {kn:Nat} {t:Tr}:(zk kn fx t).length<=32767:=by
 unfold zk
 split
 ·rw[List.length_map];exact unk_len2 _ _
 ·simp
mutual
theorem Ty.toD_wr (fx:Bool) (ver:Nat):∀ (ty:Ty) (kind fr to nul tag df el:Int) (sub:SFs) (t:Tr),ty.agr kind nul el sub=true →
  (∀ nl:Bool,(nl=true->0<=nul/\nul<=ver)->kind≠11->z7 kind (ptOf fx ver sub) nl fx t=ty.wr fx ver (ty.toD fx ver sub nl t)) ∧
  SF.wr ver fx (.mk kind fr to nul tag df el sub) t=ty.wr fx ver (ty.toD fx ver sub ((SF.mk kind fr to nul tag df el sub).isNull ver t) t)
 | .scal s _,kind,fr,to,nul,tag,df,el,sub,t,h | .named s _ _,kind,fr,to,nul,tag,df,el,sub,t,h=>by
  simp only[Ty.agr,beq_iff_eq] at h
  subst h
  have hk:=s.knd_le
  have hA:∀ nl:Bool,z7 s.knd (ptOf fx ver sub) nl fx t=s.wr (s.fit t.n):=fun nl=>valW_num
  refine ⟨fun nl _ _=>by simp only[Ty.toD,Ty.wr];exact hA nl,?_⟩
  rw[SF.wrV zH zH,hA]
  simp only[Ty.toD,Ty.wr]
 | .uuid,kind,fr,to,nul,tag,df,el,sub,t,h=>by
  simp only[Ty.agr,beq_iff_eq] at h
  subst h
  refine ⟨fun nl _ _=>by simp only[Ty.toD,Ty.wr];exact valW_uuid,?_⟩
  rw[SF.wrV zH zH,valW_uuid]
  simp only[Ty.toD,Ty.wr]
 | .text,kind,fr,to,nul,tag,df,el,sub,t,h=>by
  simp only[Ty.agr,Bool.and_eq_true,beq_iff_eq,decide_eq_true_eq] at h
  obtain ⟨rfl,h2⟩:=h
  have hA:∀ nl:Bool,nl=false->z7 8 (ptOf fx ver sub) nl fx t=Ty.wr fx ver .text (Ty.toD fx ver .text sub nl t):=fun nl hn=>by
   subst hn
   rw[valW_text]
   simp only[Ty.toD,Ty.wr,Bool.false_eq_true,if_false]
   exact cnt2 fx _
  refine ⟨fun nl hn _=>hA nl (by cases nl with | false=>rfl | true=>have:=hn rfl;omega),?_⟩
  rw[SF.wrV zH zH]
  exact hA _ (wT h2)
 | .ntext,kind,fr,to,nul,tag,df,el,sub,t,h=>by
  simp only[Ty.agr,beq_iff_eq] at h
  subst h
  have hA:∀ nl:Bool,z7 8 (ptOf fx ver sub) nl fx t=Ty.wr fx ver .ntext (Ty.toD fx ver .ntext sub nl t):=fun nl=>by
   rw[valW_text]
   cases nl with
   | false =>
    simp only[Ty.toD,Ty.wr,Bool.false_eq_true,if_false,xV]
    exact cnt2 fx _
   | true=>cases fx<;>simp[Ty.toD,Ty.wr,xV,cnt]
  refine ⟨fun nl _ _=>hA nl,?_⟩
  rw[SF.wrV zH zH]
  exact hA _
 | .ntextFrom N,kind,fr,to,nul,tag,df,el,sub,t,h=>by
  simp only[Ty.agr,Bool.and_eq_true,beq_iff_eq,decide_eq_true_eq] at h
  obtain ⟨rfl,h2⟩:=h
  have hA:∀ nl:Bool,(nl=true->0<=nul/\nul<=ver)->z7 8 (ptOf fx ver sub) nl fx t=Ty.wr fx ver (.ntextFrom N) (Ty.toD fx ver (.ntextFrom N) sub nl t):=fun nl hn=>by
   rw[valW_text]
   cases nl with
   | false =>
    have e:Ty.wr fx ver (.ntextFrom N) (.bytes (some (t.s.take 32767)))=ze fx (t.s.take 32767):=by
     simp only[Ty.wr]
     split<;>rfl
    simp only[Ty.toD,Bool.false_eq_true,if_false,e]
    exact cnt2 fx _
   | true =>
    have hN:¬ ver<N:=by have:=hn rfl;omega
    cases fx<;>simp[Ty.toD,Ty.wr,xV,cnt,hN]
  refine ⟨fun nl hn _=>hA nl hn,?_⟩
  rw[SF.wrV zH zH]
  exact hA _ (fun h=>wj h)
 | .bytes,kind,fr,to,nul,tag,df,el,sub,t,h=>by
  simp only[Ty.agr,Bool.and_eq_true,beq_iff_eq,decide_eq_true_eq] at h
  obtain ⟨rfl,h2⟩:=h
  have hA:∀ nl:Bool,nl=false->z7 9 (ptOf fx ver sub) nl fx t=Ty.wr fx ver .bytes (Ty.toD fx ver .bytes sub nl t):=fun nl hn=>by
   subst hn
   rw[valW_bytes]
   simp only[Ty.toD,Ty.wr,Bool.false_eq_true,if_false,Option.getD_some]
   exact cnt4 fx _
  refine ⟨fun nl hn _=>hA nl (by cases nl with | false=>rfl | true=>have:=hn rfl;omega),?_⟩
  rw[SF.wrV zH zH]
  exact hA _ (wT h2)
 | .nbytes,kind,fr,to,nul,tag,df,el,sub,t,h=>by
  simp only[Ty.agr,beq_iff_eq] at h
  subst h
  have hA:∀ nl:Bool,z7 9 (ptOf fx ver sub) nl fx t=Ty.wr fx ver .nbytes (Ty.toD fx ver .nbytes sub nl t):=fun nl=>by
   rw[valW_bytes]
   cases nl with
   | false =>
    simp only[Ty.toD,Ty.wr,Bool.false_eq_true,if_false,xz]
    exact cnt4 fx _
   | true=>cases fx<;>simp[Ty.toD,Ty.wr,xz,cnt]
  refine ⟨fun nl _ _=>hA nl,?_⟩
  rw[SF.wrV zH zH]
  exact hA _
 | .list TS null e,kind,fr,to,nul,tag,df,el,sub,t,h=>by
  simp only[Ty.agr,Bool.and_eq_true,beq_iff_eq,bne_iff_ne,ne_eq] at h
  obtain ⟨⟨⟨rfl,hnul⟩,hel⟩,he⟩:=h
  refine ⟨fun nl _ h11=>absurd rfl h11,?_⟩
  have hE:∀ x:Tr,z7 el (ptOf fx ver sub) false fx x=e.wr fx ver (e.toD fx ver sub false x):=fun x=>(Ty.toD_wr fx ver e el 0 0 (-1) 0 0 0 sub x he).1 false (fun h=>by cases h) hel
  rw[SF.wrL]
  have hgn:(SF.mk 11 fr to nul tag df el sub).isNull ver t=true->∃ N,null=some N:=fun h=>by
   have:=wj h
   cases null with
   | none=>simp only[decide_eq_true_eq] at hnul;omega
   | some N=>exact ⟨N,rfl⟩
  generalize hb:(SF.mk 11 fr to nul tag df el sub).isNull ver t=b at *
  cases b with
  | true =>
   obtain ⟨N,rfl⟩:=hgn rfl
   cases fx<;>simp[Ty.toD,Ty.wr,cnt,jl]
  | false =>
   simp only[Bool.false_eq_true,if_false,Ty.toD,Bool.false_or]
   cases hc:(null.isNone&&t.l.isEmpty) with
   | true =>
    simp only[Bool.and_eq_true,Option.isNone_iff_eq_none,List.isEmpty_iff] at hc
    obtain ⟨rfl,h2⟩:=hc
    rw[h2]
    cases fx<;>simp[Ty.wr,cnt,zu]
   | false =>
    simp only[Bool.false_eq_true,if_false,Ty.wr,List.length_map,List.map_map]
    have e1:cnt fx false (t.l.take 32767).length 4=zu fx (t.l.take 32767).length:=by cases fx<;>simp[cnt,zu]
    rw[e1]
    congr 2
    exact List.map_congr_left fun x _=>hE x
 | .nstruct _ _ _ _ _,kind,fr,to,nul,tag,df,el,sub,t,h=>by simp[Ty.agr] at h
 | .struct TP TU F fs,kind,fr,to,nul,tag,df,el,sub,t,h=>by
  simp only[Ty.agr,Bool.and_eq_true,beq_iff_eq,decide_eq_true_eq] at h
  obtain ⟨⟨rfl,h2⟩,h3⟩:=h
  have hA:∀ nl:Bool,z7 10 (ptOf fx ver sub) nl fx t=Ty.wr fx ver (.struct TP TU F fs) (Ty.toD fx ver (.struct TP TU F fs) sub nl t):=fun nl=>by
   rw[valW_struct]
   simp only[Ty.toD,Ty.wr]
   unfold ptOf
   refine (pe (t:=t) (Flds.agr_ord h3 _ _ _ _)).trans ?_
   rw[Flds.agr_known h3]
   have:=Flds.toD_wr fx ver fs sub 0 t 0 [] (zk (fs.topT 0) fx t) h3 zS gq
   simp only[List.nil_append] at this
   rw[this]
   congr 1
   cases fx<;>simp[zk]
  refine ⟨fun nl _ _=>hA nl,?_⟩
  rw[SF.wrV zH zH]
  exact hA _
theorem Flds.toD_wr (fx:Bool) (ver:Nat):∀ (fs:Flds) (sub:SFs) (i:Nat) (t:Tr) (m:Nat) (acc un:List (Nat × List UInt8)),fs.agr sub m=true->(∀ x ∈ acc,x.1<m)->(∀ x ∈ un,fs.topT m<=x.1) →
  ((sub.recs ver fx i t).map Rec.ou).flatten++(if fx then xU (acc++(sub.recs ver fx i t).filterMap Rec.tg++un) else [])=fs.wr fx ver (fs.toD fx ver sub i t) (if fx then acc++un else [])
 | .nil _,.nil,i,t,m,acc,un,h,ha,hu=>by cases fx<;>simp[SFs.recs,Flds.wr]
 | .nil _,.cons _ _,i,t,m,acc,un,h,ha,hu=>by simp[Flds.agr] at h
 | .cons _ _ _,.nil,i,t,m,acc,un,h,ha,hu=>by simp[Flds.agr] at h
 | .cons v ty r,.cons (.mk kind fr to nul tag df el sub) rs,i,t,m,acc,un,h,ha,hu=>by
  simp only[Flds.agr,Bool.and_eq_true] at h
  simp only[Flds.topT] at hu
  have h2:=(Ty.toD_wr fx ver ty kind fr to nul tag df el sub (t.at i) h.1.2).2
  simp only[SFs.recs,List.map_cons,List.flatten_cons,Flds.toD,Flds.wr,List.append_assoc]
  cases hv:v.isTag with
  | false =>
   have hag:=h.1.1.1
   obtain ⟨hagr,htag⟩:v.agr fr to=true/\tag<0:=by
    cases v<;>first | (cases hv;done) | (simp only[Ver.agrT,Bool.and_eq_true,decide_eq_true_eq] at hag;exact hag)
   have hnx:v.nxT m=m:=by cases v<;>first | (cases hv;done) | rfl
   rw[hnx] at hu
   have h1:=Flds.toD_wr fx ver r rs (i+1) t m acc un (by rw[← hnx];exact h.2) ha hu
   rw[Ver.addTag_no hv]
   have e1:Rec.tg (tag,(SF.mk kind fr to nul tag df el sub).has ver,(SF.mk kind fr to nul tag df el sub).usual (t.at i),SF.wr ver fx (.mk kind fr to nul tag df el sub) (t.at i))=none:=by
    unfold Rec.tg
    have:¬ 0<=tag:=by omega
    simp[this]
   have e2:Rec.ou (tag,(SF.mk kind fr to nul tag df el sub).has ver,(SF.mk kind fr to nul tag df el sub).usual (t.at i),SF.wr ver fx (.mk kind fr to nul tag df el sub) (t.at i))=if v.has ver then SF.wr ver fx (.mk kind fr to nul tag df el sub) (t.at i) else []:=by
    unfold Rec.ou
    rw[Ver.agr_has hagr ver]
    simp[htag]
   rw[List.filterMap_cons_none e1,e2]
   simp only[List.append_assoc] at h1
   rw[h1]
   congr 1
   cases hh:v.has ver with
   | false=>simp
   | true =>
    simp only[if_true,Bool.true_or]
    exact h2
  | true =>
   cases v with
   | tag k lb =>
    have hag:=h.1.1.1
    simp only[Ver.agrT,Bool.and_eq_true,beq_iff_eq,decide_eq_true_eq] at hag
    obtain ⟨⟨rfl,hk⟩,rfl⟩:=hag
    simp only[Ver.nxT] at hu h
    have hD:=h.1.1.2
    simp only[Ver.isTag,Bool.not_true,Bool.false_or] at hD
    have hus:=(usual_D (fr:=fr) (to:=to) (tag:=((k:Nat):Int)) (ver:=ver) (t:=t.at i) hD h.1.2).1
    have h4:(SF.mk kind fr to nul (k:Int) df el sub).subs=sub:=rfl
    have hou:∀ a b c,Rec.ou (((k:Nat):Int),a,b,c)=[]:=fun a b c=>by
     unfold Rec.ou
     have:¬ ((k:Int)<0):=by omega
     simp[this]
    rw[hou]
    simp only[Ver.has,Bool.false_eq_true,if_false,List.nil_append,Ver.isTag,Bool.false_or,Bool.true_and]
    cases fx with
    | false =>
     have h1:=Flds.toD_wr false ver r rs (i+1) t (k+1) acc un h.2 (fun x hx=>by have:=ha x hx;omega) hu
     simp only[Bool.false_eq_true,if_false] at h1 ⊢
     exact h1
    | true =>
     simp only[if_true,Ver.addTag,Bool.true_and,h4]
     generalize ty.toD true ver sub ((SF.mk kind fr to nul (k:Int) df el sub).isNull ver (t.at i)) (t.at i)=d at hus h2
     generalize ty.isD d=b at hus
     have htg:Rec.tg (((k:Nat):Int),(SF.mk kind fr to nul (k:Int) df el sub).has ver,(SF.mk kind fr to nul (k:Int) df el sub).usual (t.at i),SF.wr ver true (.mk kind fr to nul (k:Int) df el sub) (t.at i))=if b then none else some (k,Ty.wr true ver ty d):=by
      unfold Rec.tg
      rw[hus,h2]
      have h0:(0:Int)<=(k:Int):=by omega
      cases b<;>simp[h0]
     cases b with
     | true =>
      simp only[if_true] at htg
      rw[List.filterMap_cons_none htg]
      have h1:=Flds.toD_wr true ver r rs (i+1) t (k+1) acc un h.2 (fun x hx=>by have:=ha x hx;omega) hu
      simp only[if_true,List.append_assoc] at h1
      simp only[Bool.not_true,Bool.false_eq_true,if_false]
      exact h1
     | false =>
      simp only[Bool.false_eq_true,if_false] at htg
      rw[List.filterMap_cons_some htg]
      have hge:=Flds.topT_ge r (k+1)
      have h1:=Flds.toD_wr true ver r rs (i+1) t (k+1) (acc++[(k,Ty.wr true ver ty d)]) un h.2 (fun x hx=>by
       rcases List.mem_append.1 hx with hx | hx
       ·have:=ha x hx;omega
       ·rw[List.mem_singleton.1 hx]
        exact Nat.lt_succ_self _) hu
      simp only[if_true,List.append_assoc,List.singleton_append] at h1
      simp only[Bool.not_false,if_true,List.cons_append]
      rw[yJ acc k _ un ha (fun x hx=>by have:=hu x hx;omega)]
      exact h1
   | _=>cases hv
end
theorem gp (l:List UInt8):(l.take 32767).length<=32767:=List.length_take_le _ _
theorem wI (fx:Bool) {l:List UInt8} (h:l.length<=32767):gv fx l:=by
 unfold gv
 cases fx<;>simp<;>omega
theorem octOk_take (fx:Bool) {l:List UInt8} (h:l.length<=32767):vx fx l:=by
 unfold vx
 cases fx<;>simp<;>omega
theorem setTag_keep (k:Nat) (v:List UInt8):∀ (l:List (Nat × List UInt8)) (x:Nat × List UInt8),x ∈ l->x.1≠k->x ∈ qs k v l
 | [],x,h,_=>by simp at h
 | y::l,x,h,hk=>by
  unfold qs
  split
  ·exact List.mem_cons_of_mem _ h
  ·rcases List.mem_cons.1 h with rfl | h
   ·rw[if_neg (fun e=>hk e.symm)]
    simp
   ·split
    ·exact List.mem_cons_of_mem _ h
    ·exact List.mem_cons_of_mem _ (setTag_keep k v l x h hk)
theorem len_flat {α:Type} {g:α->List UInt8} {l:List α} {x:α} (h:x ∈ l):(g x).length<=((l.map g).flatten).length:=by
 obtain ⟨a,b,rfl⟩:=List.append_of_mem h
 simp only[List.map_append,List.map_cons,List.flatten_append,List.flatten_cons,List.length_append]
 omega
theorem wrTags_mem {tags:List (Nat × List UInt8)} {x:Nat × List UInt8} (h:x ∈ tags):x.2.length<=(xU tags).length:=by
 have h1:=len_flat (g:=qV) h
 have h2:x.2.length<=(qV x).length:=by simp only[qV,List.length_append];omega
 simp only[xU,List.length_append]
 omega
theorem Flds.wr_mem (ver:Nat):∀ (fs:Flds) (sub:SFs) (i:Nat) (t:Tr) (m:Nat) (tags:List (Nat × List UInt8)),fs.agr sub m=true->∀ x ∈ tags,x.1<m->x.2.length<=(fs.wr true ver (fs.toD true ver sub i t) tags).length
 | .nil _,.nil,i,t,m,tags,h,x,hx,hm=>by
  simp only[Flds.wr,if_true]
  exact wrTags_mem hx
 | .nil _,.cons _ _,i,t,m,tags,h,x,hx,hm=>by simp[Flds.agr] at h
 | .cons _ _ _,.nil,i,t,m,tags,h,x,hx,hm=>by simp[Flds.agr] at h
 | .cons v ty r,.cons (.mk kind fr to nul tag df el sub) rs,i,t,m,tags,h,x,hx,hm=>by
  simp only[Flds.agr,Bool.and_eq_true] at h
  simp only[Flds.toD,Flds.wr,List.length_append]
  refine Nat.le_trans ?_ (Nat.le_add_left _ _)
  cases v with
  | tag k lb =>
   have hag:=h.1.1.1
   simp only[Ver.agrT,Bool.and_eq_true,beq_iff_eq,decide_eq_true_eq] at hag
   obtain ⟨⟨rfl,_⟩,_⟩:=hag
   refine Flds.wr_mem ver r rs (i+1) t (k+1) _ h.2 x ?_ zH
   unfold Ver.addTag
   dsimp only
   generalize (true && !_)=b
   cases b with
   | true=>exact setTag_keep _ _ _ _ hx zH
   | false=>exact hx
  | _=>exact Flds.wr_mem ver r rs (i+1) t m tags h.2 x hx hm
theorem dflt_len {ty:Ty} {df:Int} {sub:SFs} (hD:ty.agrD df sub=true) (ver:Nat):(ty.wr true ver ty.dflt).length<4294967296:=by
 have h2:ty.two=true->(ty.wr true ver ty.dflt).length<4294967296:=by
  intro ht
  obtain ⟨TP,TU,F,rfl⟩:=vU ht
  show (Flds.wr true ver (.cons .all (.scal .i32 0) (.cons .all (.scal .i32 0) (.nil true))) [.int 0,.int 0] []).length<_
  simp[Flds.wr,Ver.has,Ver.addTag,Ty.wr,Scal.wr,qO,xU]
  have:=yG 9 0
  have:(Go.Km.uvar 0).length=1:=by decide
  omega
 cases ty with
 | scal s d =>
  simp only[Ty.agrD,Bool.and_eq_true,bne_iff_ne,ne_eq,decide_eq_true_eq] at hD
  simp only[Ty.wr,Ty.dflt,Scal.wr_be s _ hD.1.1.2 hD.1.2,qO]
  unfold xJ
  repeat' (first | omega | split)
 | list TS null e =>
  cases null with
  | none =>
   have:(zu true 0).length=1:=by decide
   simp only[Ty.wr,Ty.dflt,Option.isSome_none,Bool.false_eq_true,if_false]
   omega
  | some N=>exact absurd hD (by simp[Ty.agrD,Ty.two])
 | struct TP TU F fs =>
  simp only[Ty.agrD,Bool.and_eq_true] at hD
  exact h2 hD.1
 | _=>exact absurd hD (by simp[Ty.agrD,Ty.two])
mutual
theorem Ty.toD_good (fx:Bool) (ver:Nat):∀ (ty:Ty) (kind nul el:Int) (sub:SFs) (nl:Bool) (t:Tr),ty.agr kind nul el sub=true->t.tok->(nl=true->0<=nul/\nul<=ver)->(ty.wr fx ver (ty.toD fx ver sub nl t)).length<4294967296->ty.good fx ver (ty.toD fx ver sub nl t)
 | .scal s _,kind,nul,el,sub,nl,t,h,ht,hn,hB | .named s _ _,kind,nul,el,sub,nl,t,h,ht,hn,hB=>by
  simp only[Ty.toD,Ty.good]
  exact s.fit_ok _
 | .uuid,kind,nul,el,sub,nl,t,h,ht,hn,hB=>by
  simp only[Ty.toD,Ty.good,List.length_append,List.length_take,List.length_replicate]
  omega
 | .text,kind,nul,el,sub,nl,t,h,ht,hn,hB=>by
  simp only[Ty.toD,Ty.good]
  refine wI fx ?_
  split
  ·simp
  ·exact gp _
 | .ntext,kind,nul,el,sub,nl,t,h,ht,hn,hB=>by
  simp only[Ty.toD]
  cases nl with
  | true=>simp[Ty.good]
  | false=>simp only[Bool.false_eq_true,if_false,Ty.good];exact wI fx (gp _)
 | .ntextFrom N,kind,nul,el,sub,nl,t,h,ht,hn,hB=>by
  simp only[Ty.agr,Bool.and_eq_true,beq_iff_eq,decide_eq_true_eq] at h
  simp only[Ty.toD]
  cases nl with
  | true =>
   simp only[if_true,Ty.good]
   have:=hn rfl
   omega
  | false=>simp only[Bool.false_eq_true,if_false,Ty.good];exact wI fx (gp _)
 | .bytes,kind,nul,el,sub,nl,t,h,ht,hn,hB=>by
  simp only[Ty.toD,Ty.good]
  refine octOk_take fx ?_
  split
  ·simp
  ·exact gp _
 | .nbytes,kind,nul,el,sub,nl,t,h,ht,hn,hB=>by
  simp only[Ty.toD]
  cases nl with
  | true=>simp[Ty.good]
  | false=>simp only[Bool.false_eq_true,if_false,Ty.good];exact octOk_take fx (gp _)
 | .list TS null e,kind,nul,el,sub,nl,t,h,ht,hn,hB=>by
  simp only[Ty.agr,Bool.and_eq_true,beq_iff_eq,bne_iff_ne,ne_eq] at h
  obtain ⟨⟨⟨rfl,hnul⟩,hel⟩,he⟩:=h
  simp only[Ty.toD] at hB ⊢
  cases hc:(nl||(null.isNone&&t.l.isEmpty)) with
  | true =>
   simp only[if_true,Ty.good]
   cases null with
   | none=>exact .inl rfl
   | some N =>
    simp only[Option.isNone_some,Bool.false_and,Bool.or_false] at hc
    simp only[Bool.or_eq_true,decide_eq_true_eq] at hnul
    have:=hn hc
    exact .inr ⟨N,rfl,by omega⟩
  | false =>
   simp only[Bool.or_eq_false_iff] at hc
   simp only[Bool.false_eq_true,if_false,Ty.good,List.length_map,List.mem_map]
   have hl:=List.length_take_le 32767 t.l
   refine ⟨fun h0 hm=>?_,by omega,?_⟩
   ·subst h0
    have h1:=hc.2
    simp only[Option.isNone_none,Bool.true_and] at h1
    have h2:=congrArg List.length hm
    simp only[List.length_map,List.length_nil,List.length_take] at h2
    have h3:t.l=[]:=List.eq_nil_of_length_eq_zero zH
    rw[h3] at h1
    simp at h1
   ·rintro d ⟨x,hx,rfl⟩
    refine Ty.toD_good fx ver e el (-1) 0 sub false x he (Tr.tok_l ht x (List.mem_of_mem_take hx)) (fun h=>by cases h) ?_
    have hcf:(nl||(null.isNone&&t.l.isEmpty))=false:=by rw[hc.1,hc.2];rfl
    rw[hcf] at hB
    simp only[Bool.false_eq_true,if_false,Ty.wr,List.length_append] at hB
    have:=len_flat (g:=fun d=>e.wr fx ver d) (List.mem_map.2 ⟨x,hx,rfl⟩:e.toD fx ver sub false x ∈ (t.l.take 32767).map fun t=>e.toD fx ver sub false t)
    omega
 | .nstruct _ _ _ _ _,kind,nul,el,sub,nl,t,h,ht,hn,hB=>by simp[Ty.agr] at h
 | .struct TP TU F fs,kind,nul,el,sub,nl,t,h,ht,hn,hB=>by
  simp only[Ty.agr,Bool.and_eq_true,beq_iff_eq,decide_eq_true_eq] at h
  simp only[Ty.toD,Ty.good,Ty.wr] at hB ⊢
  rw[Flds.agr_known h.2] at hB ⊢
  have hle:=Flds.topT_le h.2 zH
  have:=Flds.toD_good fx ver fs sub 0 t 0 [] (zk (fs.topT 0) fx t) h.2 ht zH zS List.Pairwise.nil zS (tagsD_good ht) gq tagsD_len (by cases fx with | true=>simpa using hB | false=>simpa [zk] using hB)
  cases fx with
  | true=>simpa using this
  | false=>simpa [zk] using this
theorem Flds.toD_good (fx:Bool) (ver:Nat):∀ (fs:Flds) (sub:SFs) (i:Nat) (t:Tr) (m:Nat) (acc un:List (Nat × List UInt8)),fs.agr sub m=true->t.tok->m<=65536->(∀ x ∈ acc,x.1<m)->acc.Pairwise (fun x y=>x.1<y.1)->acc.length<=m->(if fx then kO un else un=[])->(∀ x ∈ un,fs.topT m<=x.1)->un.length<=32767->(fs.wr fx ver (fs.toD fx ver sub i t) (if fx then acc++un else [])).length<4294967296 →
  fs.good fx ver (fs.toD fx ver sub i t) (if fx then acc++un else [])
 | .nil _,.nil,i,t,m,acc,un,h,ht,hm,ha,hs,hl,hg,hu,hul,hB=>by
  simp only[Flds.toD,Flds.good]
  cases fx with
  | false=>simp
  | true =>
   simp only[if_true,Flds.topT] at hg hu ⊢
   obtain ⟨⟨g1,g2⟩,g3,g4⟩:=hg
   refine ⟨⟨List.pairwise_append.2 ⟨hs,g1,fun x hx y hy=>?_⟩,fun x hx=>?_⟩,?_,fun x hx=>?_⟩
   ·have:=ha x hx;have:=hu y hy;omega
   ·rcases List.mem_append.1 hx with hx | hx
    ·have:=ha x hx;omega
    ·exact g2 x hx
   ·rw[List.length_append];omega
   ·simp only[Flds.toD,Flds.wr,if_true] at hB
    have:=wrTags_mem hx
    omega
 | .nil _,.cons _ _,i,t,m,acc,un,h,ht,hm,ha,hs,hl,hg,hu,hul,hB=>by simp[Flds.agr] at h
 | .cons _ _ _,.nil,i,t,m,acc,un,h,ht,hm,ha,hs,hl,hg,hu,hul,hB=>by simp[Flds.agr] at h
 | .cons v ty r,.cons (.mk kind fr to nul tag df el sub) rs,i,t,m,acc,un,h,ht,hm,ha,hs,hl,hg,hu,hul,hB=>by
  simp only[Flds.agr,Bool.and_eq_true] at h
  simp only[Flds.topT] at hu
  simp only[Flds.toD,Flds.wr,List.length_append] at hB
  simp only[Flds.toD,Flds.good]
  cases hv:v.isTag with
  | false =>
   have hnx:v.nxT m=m:=by cases v<;>first | (cases hv;done) | rfl
   rw[hnx] at hu h
   rw[Ver.addTag_no hv] at hB ⊢
   refine ⟨?_,Flds.toD_good fx ver r rs (i+1) t m acc un h.2 ht hm ha hs hl hg hu hul zH⟩
   cases hh:v.has ver with
   | false =>
    simp only[Bool.false_eq_true,if_false,Bool.false_or,Bool.false_and]
    exact (Ver.okD_no hv).2 trivial
   | true =>
    simp only[hh,if_true,Bool.true_or] at hB ⊢
    exact Ty.toD_good fx ver ty kind nul el sub _ (t.at i) h.1.2 (Tr.tok_at ht i) (fun hb=>wj hb) (by have h4:(SF.mk kind fr to nul tag df el sub).subs=sub:=rfl;rw[h4] at hB;omega)
  | true =>
   cases v with
   | tag k lb =>
    have hag:=h.1.1.1
    simp only[Ver.agrT,Bool.and_eq_true,beq_iff_eq,decide_eq_true_eq] at hag
    obtain ⟨⟨rfl,hk⟩,rfl⟩:=hag
    simp only[Ver.nxT] at hu h
    have hge:=Flds.topT_ge r (k+1)
    have hD:=h.1.1.2
    simp only[Ver.isTag,Bool.not_true,Bool.false_or] at hD
    have hus:=(usual_D (fr:=fr) (to:=to) (tag:=((k:Nat):Int)) (ver:=ver) (t:=t.at i) hD h.1.2).2
    have h4:(SF.mk kind fr to nul (k:Int) df el sub).subs=sub:=rfl
    rw[h4] at hB ⊢
    have hGd:=Ty.toD_good true ver ty kind nul el sub ((SF.mk kind fr to nul (k:Int) df el sub).isNull ver (t.at i)) (t.at i) h.1.2 (Tr.tok_at ht i) (fun hb=>wj hb)
    simp only[Ver.has,Bool.false_eq_true,if_false,Ver.isTag,Bool.false_or,Bool.true_and,Ver.okD,List.length_nil,Nat.zero_add] at hB ⊢
    cases fx with
    | false =>
     simp only[Bool.false_eq_true,if_false,Ver.addTag,Bool.false_and] at hB ⊢
     refine ⟨⟨trivial,by simp⟩,?_⟩
     have:=Flds.toD_good false ver r rs (i+1) t (k+1) acc un h.2 ht zH (fun x hx=>by have:=ha x hx;omega) hs zH hg hu hul (by simpa using hB)
     simp only[Bool.false_eq_true,if_false] at this
     exact this
    | true =>
     simp only[if_true,Ver.addTag,Bool.true_and] at hB ⊢
     have hd0:ty.isD (ty.toD true ver sub ((SF.mk kind fr to nul (k:Int) df el sub).isNull ver (t.at i)) (t.at i))=true->(ty.wr true ver (ty.toD true ver sub ((SF.mk kind fr to nul (k:Int) df el sub).isNull ver (t.at i)) (t.at i))).length<4294967296:=fun hb=>by
      rw[hus hb]
      exact dflt_len hD ver
     generalize ty.toD true ver sub ((SF.mk kind fr to nul (k:Int) df el sub).isNull ver (t.at i)) (t.at i)=d at *
     have hno:∀ x ∈ acc++un,x.1≠k:=fun x hx=>by
      rcases List.mem_append.1 hx with hx | hx
      ·have:=ha x hx;omega
      ·have:=hu x hx;omega
     cases hd:ty.isD d with
     | true =>
      rw[hd] at hB hus hd0
      refine ⟨⟨⟨hGd (hd0 rfl),fun _=>hus rfl⟩,hno⟩,?_⟩
      simp only[Bool.not_true,Bool.false_eq_true,if_false] at hB ⊢
      have:=Flds.toD_good true ver r rs (i+1) t (k+1) acc un h.2 ht zH (fun x hx=>by have:=ha x hx;omega) hs zH hg hu hul (by simpa using hB)
      simp only[if_true] at this
      exact this
     | false =>
      rw[hd] at hB
      simp only[Bool.not_false,if_true] at hB ⊢
      rw[yJ acc k _ un ha (fun x hx=>by have:=hu x hx;omega)] at hB ⊢
      have hmem:=Flds.wr_mem ver r rs (i+1) t (k+1) _ h.2 (k,ty.wr true ver d) (show (k,ty.wr true ver d) ∈ acc++(k,ty.wr true ver d)::un by simp) (Nat.lt_succ_self k)
      refine ⟨⟨⟨hGd (Nat.lt_of_le_of_lt hmem hB),fun h=>by cases h⟩,hno⟩,?_⟩
      have:=Flds.toD_good true ver r rs (i+1) t (k+1) (acc++[(k,ty.wr true ver d)]) un h.2 ht zH (fun x hx=>by
       rcases List.mem_append.1 hx with hx | hx
       ·have:=ha x hx;omega
       ·rw[List.mem_singleton.1 hx]
        exact Nat.lt_succ_self _) (List.pairwise_append.2 ⟨hs,by simp,fun x hx y hy=>by
        rw[List.mem_singleton.1 hy]
        exact ha x hx⟩) (by simp;omega) hg hu hul (by simpa using hB)
      simp only[if_true,List.append_assoc,List.singleton_append] at this
      exact this
   | _=>cases hv
end
theorem wg {fs:Flds} {sf:SFs} (h:fs.agr sf=true) (t:Tr):sf.part ver fx t=fs.wr fx ver (fs.toD fx ver sf 0 t) (zk (fs.topT 0) fx t):=by
 unfold SFs.part
 refine (pe (t:=t) (Flds.agr_ord h _ _ _ _)).trans ?_
 have:=Flds.toD_wr fx ver fs sf 0 t 0 [] (zk (fs.topT 0) fx t) h zS gq
 simp only[List.nil_append] at this
 rw[this]
 congr 1
 cases fx<;>simp[zk]
theorem part_good {fs:Flds} {sf:SFs} (h:fs.agr sf=true) {t:Tr} (ht:t.tok) (hB:(sf.part ver fx t).length<4294967296):fs.good fx ver (fs.toD fx ver sf 0 t) (zk (fs.topT 0) fx t):=by
 rw[wg h] at hB
 have:=Flds.toD_good fx ver fs sf 0 t 0 [] (zk (fs.topT 0) fx t) h ht zH zS List.Pairwise.nil zS (tagsD_good ht) gq tagsD_len (by cases fx with | true=>simpa using hB | false=>simpa [zk] using hB)
 cases fx with
 | true=>simpa using this
 | false=>simpa [zk] using this
section
attribute [local irreducible] vc rO_ qz qP qJ
structure STexts (P:Program) (E:Env):Prop where
 has:Text P E.sHas 2 20 #[.tmp 4] (c_sHas E)
 null:Text P E.sNull 3 20 #[.tmp 6] (c_sNull E)
 whole:Text P E.sWhole 1 8 #[.tmp 2] (c_sWhole E)
 things:Text P E.sThings 1 8 #[.tmp 2] (c_sThings E)
 at':Text P E.sAt 2 16 #[.cell 4 E.tT] (c_sAt E)
 uvar:Text P E.sUvar 1 20 #[.tmp 2] (c_sUvar E)
 fixed:Text P E.sFixed 2 22 #[.tmp 4] (vD E)
 width:Text P E.sWidth 1 11 #[.tmp 2] (c_sWidth E)
 counted:Text P E.sCounted 4 28 #[.tmp 8] (wY E)
 value:Text P E.sValue 6 70 #[.tmp 12] (c_sValue E)
 field:Text P E.sField 4 76 #[.tmp 8] (c_sField E)
 known:Text P E.sKnown 1 23 #[.tmp 2] (c_sKnown E)
 usual:Text P E.sUsual 2 91 #[.tmp 4] (c_sUsual E)
 unknown:Text P E.sUnknown 2 85 #[.tmp 4] (c_sUnknown E)
 part:Text P E.sPart 4 132 #[.tmp 8] (c_sPart E)
 dflt:E.sDefault≠0->Text P E.sDefault 1 35 #[.cell 2 E.tT] (c_sDefault E)
 write:Text P E.sWrite 3 21 #[.tmp 6] (c_sWrite E)
 same:Text P E.sSame 2 26 #[.tmp 4] (gW E)
 mixed:P.follows .mixedOrders=true
def SlF (w:World) (U:Nat) (v:Value) (fs:SFs):Prop :=
 (v=.slice none 0 0/\fs.len=0)\/∃ q o cap,v=.slice (some ⟨q,o,none⟩) fs.len cap/\fs.len<=cap/\q<U/\fs.Rep w U q o
theorem SlF.below {w w':World} {U:Nat} {v:Value} {fs:SFs} (h:SlF w U v fs) (hw:Below U w w'):SlF w' U v fs:=by
 rcases h with h | ⟨q,o,cap,h1,h2,h3,h4⟩
 ·exact .inl h
 ·exact .inr ⟨q,o,cap,h1,h2,h3,h4.below hw h3⟩
theorem z9.mono {B':Nat} {l:List UInt8} (h:z9 W B v l) (hB:B<=B'):z9 W B' v l:=by
 rcases h with h | ⟨q,o,cap,h1,h2,h3,h4⟩
 ·exact .inl h
 ·exact .inr ⟨q,o,cap,h1,h2,by omega,h4⟩
theorem yh.mono {W:World} {B B':Nat} {v:Value} {u:List (Nat × List UInt8)} (h:yh W B v u) (hB:B<=B'):yh W B' v u:=by
 rcases h with h | ⟨q,o,cap,h1,h2,h3,h4⟩
 ·exact .inl h
 ·refine .inr ⟨q,o,cap,h1,h2,by omega,fun i x hx=>?_⟩
  obtain ⟨sv,h0,h5,h6⟩:=h4 i x hx
  exact ⟨sv,h0,h5,h6.mono hB⟩
mutual
theorem Tr.Rep.mono {w:World} {U U':Nat} (hU:U<=U'):∀ {t:Tr} {cs:List Value},t.Rep w U cs->t.Rep w U' cs
 | .mk n s nl l u,cs,⟨sv,lv,uv,h1,h2,h3,h4⟩=>by
  refine ⟨sv,lv,uv,h1,h2.mono hU,h3.mono hU,?_⟩
  rcases h4 with h4 | ⟨q,o,cap,h5,h6,h7,h8⟩
  ·exact .inl h4
  ·exact .inr ⟨q,o,cap,h5,h6,by omega,Trs.Rep.mono hU h8⟩
theorem Trs.Rep.mono {w:World} {U U' q:Nat} (hU:U<=U'):∀ {l:Trs} {o:Nat},l.Rep w U q o->l.Rep w U' q o
 | .nil,_,_=>trivial
 | .cons t r,o,⟨⟨c,h1,h2⟩,h3⟩=>⟨⟨c,h1,Tr.Rep.mono hU h2⟩,Trs.Rep.mono hU h3⟩
end
mutual
theorem SF.Rep.mono {w:World} {U U':Nat} (hU:U<=U'):∀ {t:SF} {cs:List Value},t.Rep w U cs->t.Rep w U' cs
 | .mk kind fr to nul tag df el sub,cs,⟨sv,h1,h4⟩=>by
  refine ⟨sv,h1,?_⟩
  rcases h4 with h4 | ⟨q,o,cap,h5,h6,h7,h8⟩
  ·exact .inl h4
  ·exact .inr ⟨q,o,cap,h5,h6,by omega,SFs.Rep.mono hU h8⟩
theorem SFs.Rep.mono {w:World} {U U' q:Nat} (hU:U<=U'):∀ {l:SFs} {o:Nat},l.Rep w U q o->l.Rep w U' q o
 | .nil,_,_=>trivial
 | .cons t r,o,⟨⟨c,h1,h2⟩,h3⟩=>⟨⟨c,h1,SF.Rep.mono hU h2⟩,SFs.Rep.mono hU h3⟩
end
theorem SlF.mono {w:World} {U U':Nat} {v:Value} {fs:SFs} (h:SlF w U v fs) (hU:U<=U'):SlF w U' v fs:=by
 rcases h with h | ⟨q,o,cap,h1,h2,h3,h4⟩
 ·exact .inl h
 ·exact .inr ⟨q,o,cap,h1,h2,by omega,h4.mono hU⟩
def pg (P:Program) (E:Env) (ver:Int) (fx:Bool) (fs:SFs):Prop :=
 ∀ (U:Nat) (w:World) (sv:Value) (t:Tr) (ts:List Value),U<=w.heap.size->SlF w U sv fs->t.Rep w U ts->(fs.part ver fx t).length<=big →
  vL P E E.sPart U #[sv,.int .i64 ver,.bool fx,.agg ts.toArray] (fs.part ver fx t) w
def cText (E:Env) (X t:Nat) (size:Int):Code :=
 sq [(rg [(qF t E.tT 11 1),
    (qL (t+1) t E.tB),
    (oQ (t+2) (qC E.sWhole #[(.tmp (t+1))] #[E.tB]) E.tB),
    (oQ X (.assign (.tmp (t+2))) E.tB)]),
   (sq [(rg [(qM (t+3) 2 E.tO)]),
    (.cond (.tmp (t+3))
     (rg [(oQ X (.assign (.const (.slice none 0 0))) E.tB)])
     .skip)]),
   (rg [(qM (t+4) 4 E.tO),
    (qM (t+5) 2 E.tO),
    (qM (t+6) X E.tB),
    (oQ (t+7) (.call { callee:=.builtin .len,args:=#[(.tmp (t+6))],argTypes:=#[E.tB] }) E.tI),
    (oQ (t+8) (qC E.sCounted #[(.tmp (t+4)),(.tmp (t+5)),(.tmp (t+7)),(.const (.int .i64 size))] #[E.tO,E.tO,E.tI,E.tI]) E.tB),
    (qM (t+9) X E.tB),
    (oQ (t+10) (.call { callee:=.builtin .append,args:=#[(.tmp (t+8)),(.tmp (t+9))],argTypes:=#[E.tB,E.tB] }) E.tB),
    (oQ 12 (.assign (.tmp (t+10))) E.tB)]),
   .ret]
theorem z9.form {l:List UInt8} (h:z9 w U v l):∃ ad cap,v=.slice ad l.length cap/\l.length<=cap/\∀ n w',n<=l.length->Below U w w'->z9 w' U (.slice ad n cap) (l.take n):=by
 rcases h with ⟨⟨ad,cap,rfl⟩,rfl⟩ | ⟨q,o,cap,rfl,hcap,hq,hc⟩
 ·refine ⟨ad,cap,rfl,Nat.zero_le _,fun n w' hn _=>?_⟩
  simp only[List.length_nil,Nat.le_zero] at hn
  subst hn
  exact .inl ⟨⟨_,_,rfl⟩,rfl⟩
 ·refine ⟨_,cap,rfl,hcap,fun n w' hn hw=>.inr ⟨q,o,cap,?_,?_,hq,?_⟩⟩
  ·rw[List.length_take,Nat.min_eq_left hn]
  ·rw[List.length_take];omega
  ·rw[List.map_take]
   exact (hc.below hw hq).take n
theorem src_empty {t:TypeId} {s:Nat} (ht:xK P t=some (e,s)):Src P s t (.slice ad 0 cap) 0 [] w:=by
 cases ad with
 | none=>exact gx ht
 | some a=>exact Src.ofSlice w (ja ht).1 a 0 cap [] zS (fun j u hu=>by simp at hu) (fun u hu=>by simp at hu)
theorem z9.src {l:List UInt8} {T:TypeId} (hT:xK P T=some (e,1)) (h:z9 w U v l):Src P 1 T v l.length (l.map bv) w:=by
 rcases h with ⟨⟨ad,cap,rfl⟩,rfl⟩ | ⟨q,o,cap,rfl,hcap,hq,hc⟩
 ·exact src_empty hT
 ·exact zh hT hc zS (xH l)
theorem s_text (H:SEnv P E) (HT:STexts P E) {A:Act} {X size:Nat} {nl:Bool} {sv:Value} {s:List UInt8} (hX:X=14\/X=15) (ht:16<t) (ht2:t+11<=70) (hsz8:size<=8) (hs:A.tmps.size=70) (hd:A.defers=[]) (f2:A.eval (.tmp 2)=.bool nl) (f4:A.eval (.tmp 4)=.bool fx) (f11:A.eval (.tmp 11)=.pointer (some ⟨b,0,none⟩)) (hc:W.cell? ⟨b,1,none⟩=some sv) (ho:z9 w U sv s) (hw:Below U w W) (hU:U<=w.heap.size) (hbig:(cnt fx nl (if nl then [] else s.take 32767:List UInt8).length size++(if nl then [] else s.take 32767)).length<=big) (hQ:∀ a' w',(Out P #[.tmp 12] fun v w'=>w'.ownsRow U E.tU8 1 v (cnt fx nl (if nl then [] else s.take 32767:List UInt8).length size++(if nl then [] else s.take 32767)).length ((cnt fx nl (if nl then [] else s.take 32767:List UInt8).length size++(if nl then [] else s.take 32767)).map bv)/\Below U w w') .ret a' w'->Q .ret a' w'):vc P (cText E X t size) Q A W:=by
 obtain ⟨ad,cap,rfl,hcap,htake⟩:=ho.form
 have hsl:=rB H.row
 unfold cText
 refine vX ?_
 refine rF (b:=b) (o:=0) zA (qn H.fTree (by decide)) ?_
 refine rL (b:=b) (o:=0+1) zE H.oBytes (by simpa using hc) ?_
 refine q8 (args:=#[.slice ad s.length cap]) ?_ (s_first (T:=E.tB) (e:=E.tU8) (c:=.skip) (.inl hsl) H.int hcap HT.whole) ?_
 ·simp only[lM]
  exact zE
 rintro v w' ⟨rfl,rfl⟩
 refine rA (dn ?_)
 have hlt:s.take (min s.length 32767)=s.take 32767:=by
  rcases Nat.le_total s.length 32767 with h | h
  ·rw[Nat.min_eq_left h,List.take_length,List.take_of_length_le h]
  ·rw[Nat.min_eq_right h]
 have ho2:∀ w2,Below U w w2->z9 w2 U (.slice ad (min s.length 32767) cap) (s.take 32767):=by
  intro w2 hw2
  have:=htake (min s.length 32767) w2 (Nat.min_le_left _ _) hw2
  rwa [hlt] at this
 have tail:∀ (B:Act) (xv:Value) (x:List UInt8),B.tmps.size=70->B.defers=[]->B.eval (.tmp 2)=.bool nl->B.eval (.tmp 4)=.bool fx->B.eval (.tmp X)=xv->(∀ w2,Below U w w2->z9 w2 U xv x)->x=(if nl then [] else s.take 32767) →
   vc P (sq [(rg [(qM (t+4) 4 E.tO),
    (qM (t+5) 2 E.tO),
    (qM (t+6) X E.tB),
    (oQ (t+7) (.call { callee:=.builtin .len,args:=#[(.tmp (t+6))],argTypes:=#[E.tB] }) E.tI),
    (oQ (t+8) (qC E.sCounted #[(.tmp (t+4)),(.tmp (t+5)),(.tmp (t+7)),(.const (.int .i64 size))] #[E.tO,E.tO,E.tI,E.tI]) E.tB),
    (qM (t+9) X E.tB),
    (oQ (t+10) (.call { callee:=.builtin .append,args:=#[(.tmp (t+8)),(.tmp (t+9))],argTypes:=#[E.tB,E.tB] }) E.tB),
    (oQ 12 (.assign (.tmp (t+10))) E.tB)]),.ret]) Q B w':=by
  intro B xv x hs2 hd2 g2 g4 gX hox hx
  rw[← hx] at hbig hQ
  obtain ⟨ad2,cap2,rfl,_,_⟩:=(hox w (Below.refl _ _)).form
  have hxl:x.length<=big:=by rw[List.length_append] at hbig;omega
  have hX70:X<t:=by omega
  refine vX (rM (rM (rM ?_)))
  refine xh (ad:=ad2) (n:=x.length) (c:=cap2) hsl zA ?_
  refine q8 (args:=#[.bool fx,.bool nl,.int .i64 (x.length:Int),.int .i64 (size:Int)]) ?_ (s_counted (U:=U) HT.counted HT.uvar HT.fixed H.row H.u8 H.u64 H.i64 H.int hxl hsz8 (Nat.le_trans hU hw.size)) ?_
  ·simp only[lM]
   simp (disch:=(try simp only[sP]);omega) only[eV,g2,g4]
  rintro v w2 ⟨hown,hb2⟩
  have hbw:Below U w w2:=hw.trans hb2
  refine rM ?_
  refine xD (sz:=1) (U:=U) (m:=x.length) (news:=x.map bv) H.row zE zA hown (Nat.le_trans hU hbw.size) ((hox w2 hbw).src hsl) (by rw[List.length_append] at hbig;exact hbig) ?_
  intro v' w3 h1 h2
  rw[← List.length_append,← List.map_append] at h1
  refine rA (dn (vS (vT ?_)))
  exact hQ _ _ ⟨by simp only[dF];exact hd2,v',rO zE,h1,hbw.trans h2⟩
 refine vS (vX (rM (dn ?_)))
 refine vS (vC (t:=nl) zA ?_ ?_)
 ·intro hn
  refine vR zS ?_
  refine rA (dn (vN ?_))
  exact tail _ (.slice none 0 0) [] (by simp only[zP];exact hs) (by simp only[dF];exact hd) zA zA zE (fun _ _=>.inl ⟨nilS,rfl⟩) (by rw[hn];rfl)
 ·intro hn
  refine vK (vN ?_)
  exact tail _ (.slice ad (min s.length 32767) cap) (s.take 32767) (by simp only[zP];exact hs) (by simp only[dF];exact hd) zA zA zE ho2 (by rw[hn];rfl)
theorem i64_and1 (n:Int):bits .and .i64 n 1=n % 2:=by
 have h1:(BitVec.ofInt 64 1).toNat=2 ^ 1-1:=by decide
 have key:(BitVec.ofInt 64 n &&& BitVec.ofInt 64 1).toNat=(n % ((2 ^ 64:Nat):Int)).toNat % 2 ^ 1:=by
  rw[BitVec.toNat_and,BitVec.toNat_ofInt,h1,Nat.and_two_pow_sub_one_eq_mod]
 show IntKind.i64.wrap ((BitVec.ofInt 64 n &&& BitVec.ofInt 64 1).toNat:Nat)=n % 2
 rw[key,IntKind.wrap_i64]
 omega
theorem r_and1 {d xt x c yt ty p af g} {n:Int} (hx:a.eval x=.int .i64 n) (hc:c=.const (.int .i64 1)) (h:rO_ P Q r (a.put (some d) (.int .i64 (n % 2))) w):rO_ P Q (⟨some d,.binOp .and xt x c yt,ty,p,af,g⟩::r) a w:=by
 subst hc
 refine vu (v:=.int .i64 (n % 2)) hx rfl zS ?_ h
 show (pure (Value.int .i64 (bits .and .i64 n 1)):Sem Value)=_
 rw[i64_and1]
theorem r_make16 {d t ty p af g e} (hB:xo P t e 1=true) (hz:qQ P e=some (.int .u8 0)) (hU:U<=w.heap.size) (h:∀ w',w'.ownsRow U e 1 (.slice (some ⟨w.heap.size,0,none⟩) 16 16) 16 (List.replicate 16 (.int .u8 0))->Below U w w'->U<=w.heap.size->rO_ P Q r (a.put (some d) (.slice (some ⟨w.heap.size,0,none⟩) 16 16)) w'):
  rO_ P Q (⟨some d,.makeSlice t (.const (.int .i64 16)) (.const (.int .i64 16)),ty,p,af,g⟩::r) a w:=by
 refine st ?_
 obtain ⟨hu,i,z,hi,hs,hs0,hzz,hzs,hby⟩:=xW hB
 have hz0:z=.int .u8 0:=by
  simp only[qQ,hi,Option.bind_some,hzz,Option.some.injEq] at hz
  exact hz
 obtain ⟨w',hr,hown,hg⟩:=run_makeSlice_full (P:=P) w U t e i z 1 hu hi hzz hs .i64 .i64 16 (by decide) zH (by decide) hU
 subst hz0
 have e1:(madeCells (Value.int .u8 0).cells (16*1)).toList=List.replicate 16 (.int .u8 0):=toList_madeCells_one _ _
 rw[e1] at hown
 have hr':(Instr.makeSlice t (.int .i64 16) (.int .i64 16)).run P w=.ok (.slice (some ⟨w.heap.size,0,none⟩) 16 16) w':=hr
 simp only[Oper.wp,execOp,xr,Sem.run_bind,hr',Sem.run_pure,Result.andThen_ok,Oper.upon_value]
 exact h w' hown ⟨hg.os,hg.tape,hg.output,hg.size,fun k hk=>hg.block k zH zS⟩ hU
theorem r_copy16 {d x y t ty p af g e gb sv} {s:List UInt8} (hB:xo P t e 1=true) (hx:a.eval x=.slice (some ⟨gb,0,none⟩) 16 16) (hy:a.eval y=sv) (hown:w.ownsRow U e 1 (.slice (some ⟨gb,0,none⟩) 16 16) 16 (List.replicate 16 (.int .u8 0))) (ho:z9 w U sv s) (hgU:U<=gb) (h:∀ w',w'.ownsRow U e 1 (.slice (some ⟨gb,0,none⟩) 16 16) 16 ((s.take 16++List.replicate (16-s.length) 0).map bv)->Below U w w'->rO_ P Q r (a.put (some d) (.int .i64 (min s.length 16:Nat))) w'):
  rO_ P Q (⟨some d,.call { callee:=.builtin .copy,args:=#[x,y],argTypes:=#[t,t] },ty,p,af,g⟩::r) a w:=by
 refine st ?_
 obtain ⟨hu,i,z,hi,hs,hs0,hzz,hzs,hby⟩:=xW hB
 have hsz:(P.info? e).map (·.size)=some 1:=by simp[hi,hs]
 have fin:∀ (n:Nat) (w':World),(Builtin.copy_ #[t,t] ty #[.slice (some ⟨gb,0,none⟩) 16 16,sv]).run P w=.ok (goInt n) w'->n=min s.length 16->w'.ownsRow U e 1 (.slice (some ⟨gb,0,none⟩) 16 16) 16 ((s.take 16++List.replicate (16-s.length) 0).map bv)->Below U w w' →
   Oper.wp P ⟨some d,.call { callee:=.builtin .copy,args:=#[x,y],argTypes:=#[t,t] },ty,p,af,g⟩ a w (rO_ P Q r) Q:=by
  intro n w' hr hn h1 h2
  simp only[Oper.wp,execOp,resolve,invoke,builtin,Sem.run_bind,Sem.run_pure,Result.andThen_ok,List.map_toArray,List.map_cons,List.map_nil,hx,hy,hr,Oper.upon_value]
  subst hn
  exact h w' h1 h2
 rcases hown.2 with ⟨hh,_⟩ | ⟨g',cap,cur,hv,hbg,hg,hnc,hcm,hcs,htake⟩
 ·cases hh
 simp only[Value.slice.injEq,Option.some.injEq,Addr.mk.injEq,and_true,true_and] at hv
 obtain ⟨rfl,rfl⟩:=hv
 have hcur:cur.toList=List.replicate 16 (.int .u8 0):=by
  rw[← htake,List.take_of_length_le (by simp[hcs])]
 rcases ho with ⟨⟨ad,cap,rfl⟩,rfl⟩ | ⟨q,o,cap,rfl,hcap,hq,hc⟩
 ·refine fin 0 w (run_copy_none w t t ty e _ _ _ _ _ _ hu hsz rfl) zS ?_ (Below.refl _ _)
  have:(([]:List UInt8).take 16++List.replicate (16-([]:List UInt8).length) 0).map bv=List.replicate 16 (.int .u8 0):=by simp[bv]
  rw[this]
  exact hown
 ·have hnl:((s.take 16).map bv).length=Nat.min s.length 16:=by simp[Nat.min_comm]
  have hr:=run_copy_row (P:=P) w t t ty e gb 0 16 16 ⟨q,o,none⟩ s.length cap cur e ((s.take 16).map bv) hu hsz hg hnl (by
   intro j v hv
   rw[Addr.add_lit]
   refine hc j v ?_
   rw[List.map_take,List.getElem?_take] at hv
   split at hv
   ·exact hv
   ·cases hv) (by rw[hnl,hcs];show 0+min s.length 16<=16*1;omega) (xH _)
  refine fin _ _ hr hnl ?_ ?_
  ·refine ⟨by simp;omega,.inr ⟨gb,16,_,rfl,hbg,setRow_heap w gb cur _ e _ hg,by omega,hcm,?_,?_⟩⟩
   ·simp[hcs];omega
   ·rw[hcur]
    simp only[List.take_zero,List.nil_append,Nat.zero_add]
    rw[List.take_of_length_le (by simp;omega)]
    rw[List.map_append,List.drop_replicate]
    congr 1
    rw[List.map_replicate]
    congr 1
    ·simp;omega
  ·refine ⟨rfl,rfl,rfl,by simp,fun k hk=>setRow_other w gb k _ zH⟩
theorem kX {B':Nat} {s:Nat} {n:Nat} (h:W.ownsRow B e s v n xs) (hB:B'<=B):W.ownsRow B' e s v n xs:=by
 refine ⟨h.1,?_⟩
 rcases h.2 with h | ⟨g,cap,cur,h1,h2,h3⟩
 ·exact .inl h
 ·exact .inr ⟨g,cap,cur,h1,Nat.le_trans hB h2,h3⟩
theorem s_value (H:SEnv P E) (HT:STexts P E) (hz8:qQ P E.tU8=some (.int .u8 0)) {kind:Nat} {ver:Int} {nl:Bool} {fs:SFs} {sv:Value} {t:Tr} (hk:kind<=10) (hp:kind=10->pg P E ver fx fs) (hU:U<=w.heap.size) (hsf:kind=10->SlF w U sv fs) (hr:t.Rep w U ts) (hbig:(z7 kind (fs.part ver fx) nl fx t).length<=big):
  vL P E E.sValue U #[.int .i64 kind,sv,.bool nl,.int .i64 ver,.bool fx,.agg ts.toArray] (z7 kind (fs.part ver fx) nl fx t) w:=by
 refine qa.enter HT.value zS ?_
 intro a hsz hdf harg
 have e0:=harg 0 (.int .i64 kind) zS
 have e1:=harg 1 sv zS
 have e2:=harg 2 (.bool nl) zS
 have e3:=harg 3 (.int .i64 ver) zS
 have e4:=harg 4 (.bool fx) zS
 have e5:=harg 5 (.agg ts.toArray) zS
 cases t with
 | mk n s tnl l u =>
 have hr0:=hr
 obtain ⟨s1,lv,uv,rfl,ho,hu,hl⟩:=hr
 unfold c_sValue
 refine vX ?_
 refine xN (v:=.agg [Value.int .i64 n,s1,.bool tnl,lv,uv].toArray) zA ?_
 refine rA (dn ?_)
 generalize hw1:w.alloc (.cells (Value.agg [Value.int .i64 n,s1,.bool tnl,lv,uv].toArray).cells E.tT)=W
 have hb:Below U w W:=by rw[← hw1];exact (Below.refl U w).alloc (o:=.cells _ _) hU
 have c0:W.cell? ⟨w.heap.size,0,none⟩=some (.int .i64 n):=by rw[← hw1];exact qm w _ E.tT (i:=0) rfl
 have c1:W.cell? ⟨w.heap.size,1,none⟩=some s1:=by rw[← hw1];exact qm w _ E.tT (i:=1) rfl
 have call:qb W w.heap.size 0 [.int .i64 n,s1,.bool tnl,lv,uv]:=by
  intro i v hv
  rw[← hw1,Nat.zero_add]
  exact qm w _ E.tT (by simpa [Value.cells] using hv)
 have hUW:U<=W.heap.size:=Nat.le_trans hU hb.size
 clear hw1
 refine vS (vX (rM (dn ?_)))
 generalize hA:((a.put (some 11) _).put (some 12) _).put (some 16) _=A
 have g0:A.eval (.tmp 0)=.int .i64 kind:=by rw[← hA];exact zA
 have g1:A.eval (.tmp 1)=sv:=by rw[← hA];exact zA
 have g2:A.eval (.tmp 2)=.bool nl:=by rw[← hA];exact zA
 have g3:A.eval (.tmp 3)=.int .i64 ver:=by rw[← hA];exact zA
 have g4:A.eval (.tmp 4)=.bool fx:=by rw[← hA];exact zA
 have g11:A.eval (.tmp 11)=.pointer (some ⟨w.heap.size,0,none⟩):=by rw[← hA];exact zE
 have g16:A.eval (.tmp 16)=.int .i64 kind:=by rw[← hA];exact zA
 have hs:A.tmps.size=70:=by rw[← hA];simp only[zP];exact hsz
 have hd:A.defers=[]:=by rw[← hA];simp only[dF];exact hdf
 clear hA
 refine vS (qk ?_)
 refine vX ?_
 refine xG (k:=.i64) (m:=(kind:Int)) (n:=0) zA rfl ?_
 refine rA (dn ?_)
 refine vS (vC (t:=((kind:Int)==0)) zM ?_ ?_)
 ·intro hk0
  have hk0':kind=0:=by simp only[beq_iff_eq] at hk0;omega
  subst hk0'
  refine vX ?_
  refine rF (b:=w.heap.size) (o:=0) zA (qn H.fTree (by decide)) ?_
  refine rL (b:=w.heap.size) (o:=0) zM H.oI64 c0 ?_
  refine r_and1 (n:=n) zE rfl ?_
  refine qY (k:=.i64) (k':=.u8) (m:=n % 2) H.i64 H.u8 zE ?_
  have hw8:IntKind.u8.wrap (n % 2)=n % 2:=by rw[yj];omega
  rw[hw8]
  refine xM (s:=1) (vs:=[.int .u8 (n % 2)]) H.row ?_ rfl (by intro v hv;simp only[List.mem_cons,List.not_mem_nil,or_false] at hv;subst hv;rfl) zH zH ?_
  ·simp only[lM]
   simp (disch:=(try simp only[sP]);omega) only[eV]
   rfl
  refine rA (dn (vS (vT ?_)))
  refine ⟨by simp only[dF];exact hd,_,rO zM,?_,hb.trans ((Below.refl U W).alloc (o:=.cells _ _) hUW)⟩
  have hv:z7 ((0:Nat):Int) (fs.part ver fx) nl fx (Tr.mk n s tnl l u)=[o8 (n % 2)]:=by simp[z7]
  rw[hv]
  have:=World.ownsRow_lit W (base:=U) (e:=E.tU8) (size:=1) #[.int .u8 (n % 2)] 1 hUW (by decide) rfl
  have hbv:[o8 (n % 2)].map bv=[Value.int .u8 (n % 2)]:=by
   simp only[List.map_cons,List.map_nil]
   rw[bv_o8 zH zH]
  rw[hbv]
  exact this
 intro hk0
 have hk0':kind≠0:=by simp only[beq_eq_false_iff_ne,ne_eq] at hk0;omega
 refine vX ?_
 refine xG (k:=.i64) (m:=(kind:Int)) (n:=7) zA rfl ?_
 refine rA (dn ?_)
 refine vS (vC (t:=((kind:Int)==7)) zM ?_ ?_)
 ·intro hk7
  have hk7':kind=7:=by simp only[beq_iff_eq] at hk7;omega
  subst hk7'
  have hv:z7 ((7:Nat):Int) (fs.part ver fx) nl fx (Tr.mk n s tnl l u)=s.take 16++List.replicate (16-s.length) 0:=by simp[z7]
  rw[hv]
  refine vX ?_
  have hlt:w.heap.size<W.heap.size:=qi c0
  refine r_make16 (U:=W.heap.size) H.row hz8 (Nat.le_refl _) ?_
  intro w2 hown2 hb2' _
  have hb2:Below U W w2:=hb2'.mono hUW
  refine rA (dn (vX (rM ?_)))
  refine rF (b:=w.heap.size) (o:=0) zA (qn H.fTree (by decide)) ?_
  refine rL (b:=w.heap.size) (o:=0+1) zE H.oBytes (v:=s1) (by rw[hb2'.cell (p:=⟨w.heap.size,0+1,none⟩) hlt];simpa using c1) ?_
  refine r_copy16 (U:=W.heap.size) (gb:=W.heap.size) (sv:=s1) (s:=s) H.row zE zE hown2 ((ho.below (hb.trans hb2)).mono hUW) (Nat.le_refl _) ?_
  intro w3 hown3' hb3'
  have hb3:Below U w2 w3:=hb3'.mono hUW
  have hown3:=kX hown3' hUW
  refine dn (vX (rM (rA (dn (vS (vT ?_))))))
  refine ⟨by simp only[dF];exact hd,.slice (some ⟨W.heap.size,0,none⟩) 16 16,rO zE,?_,(hb.trans hb2).trans hb3⟩
  rw[show (List.take 16 s++List.replicate (16-s.length) (0:UInt8)).length=16 by simp;omega]
  exact hown3
 intro hk7
 have hk7':kind≠7:=by simp only[beq_eq_false_iff_ne,ne_eq] at hk7;omega
 refine vX ?_
 refine xG (k:=.i64) (m:=(kind:Int)) (n:=8) zA rfl ?_
 refine rA (dn ?_)
 refine vS (vC (t:=((kind:Int)==8)) zM ?_ ?_)
 ·intro hk8
  have hk8':kind=8:=by simp only[beq_iff_eq] at hk8;omega
  subst hk8'
  have hv:z7 ((8:Nat):Int) (fs.part ver fx) nl fx (Tr.mk n s tnl l u)=cnt fx nl (if nl then [] else s.take 32767:List UInt8).length 2++(if nl then [] else s.take 32767):=by simp[z7]
  rw[hv] at hbig ⊢
  exact s_text (w:=w) (U:=U) (X:=14) (t:=34) (size:=2) (sv:=s1) (s:=s) H HT (.inl rfl) (by decide) (by decide) (by decide) (by simp only[zP];exact hs) (by simp only[dF];exact hd) zA zA zA c1 ho hb hU hbig (fun _ _ h=>h)
 intro hk8
 have hk8':kind≠8:=by simp only[beq_eq_false_iff_ne,ne_eq] at hk8;omega
 refine vX ?_
 refine xG (k:=.i64) (m:=(kind:Int)) (n:=9) zA rfl ?_
 refine rA (dn ?_)
 refine vS (vC (t:=((kind:Int)==9)) zM ?_ ?_)
 ·intro hk9
  have hk9':kind=9:=by simp only[beq_iff_eq] at hk9;omega
  subst hk9'
  have hv:z7 ((9:Nat):Int) (fs.part ver fx) nl fx (Tr.mk n s tnl l u)=cnt fx nl (if nl then [] else s.take 32767:List UInt8).length 4++(if nl then [] else s.take 32767):=by simp[z7]
  rw[hv] at hbig ⊢
  exact s_text (w:=w) (U:=U) (X:=15) (t:=47) (size:=4) (sv:=s1) (s:=s) H HT (.inr rfl) (by decide) (by decide) (by decide) (by simp only[zP];exact hs) (by simp only[dF];exact hd) zA zA zA c1 ho hb hU hbig (fun _ _ h=>h)
 intro hk9
 have hk9':kind≠9:=by simp only[beq_eq_false_iff_ne,ne_eq] at hk9;omega
 refine vX ?_
 refine xG (k:=.i64) (m:=(kind:Int)) (n:=10) zA rfl ?_
 refine rA (dn ?_)
 refine vS (vC (t:=((kind:Int)==10)) zM ?_ ?_)
 ·intro hka
  have hka':kind=10:=by simp only[beq_iff_eq] at hka;omega
  subst hka'
  have hv:z7 ((10:Nat):Int) (fs.part ver fx) nl fx (Tr.mk n s tnl l u)=fs.part ver fx (Tr.mk n s tnl l u):=by simp[z7]
  rw[hv] at hbig ⊢
  refine vX (rM (rM (rM ?_)))
  refine qf (b:=w.heap.size) (o:=0) (cs:=[.int .i64 n,s1,.bool tnl,lv,uv]) zA H.aTree call ?_
  refine q8 (args:=#[sv,.int .i64 ver,.bool fx,.agg [Value.int .i64 n,s1,.bool tnl,lv,uv].toArray]) ?_ (hp rfl U W sv (Tr.mk n s tnl l u) _ hUW ((hsf rfl).below hb) (hr0.below hb) hbig) ?_
  ·simp only[lM]
   simp (disch:=(try simp only[sP]);omega) only[eV,g1,g3,g4]
  rintro v w2 ⟨h1,h2⟩
  refine rA (dn (vS (vT ?_)))
  exact ⟨by simp only[dF];exact hd,v,rO zE,h1,hb.trans h2⟩
 intro hka
 have hka':kind≠10:=by simp only[beq_eq_false_iff_ne,ne_eq] at hka;omega
 have hv:z7 (kind:Int) (fs.part ver fx) nl fx (Tr.mk n s tnl l u)=be (xJ kind) n:=by
  simp[z7,hk0',show ¬ (kind:Int)=0 by omega,show ¬ (kind:Int)=7 by omega,show ¬ (kind:Int)=8 by omega,show ¬ (kind:Int)=9 by omega,show ¬ (kind:Int)=10 by omega]
 rw[hv] at hbig ⊢
 refine vK ?_
 generalize hA2:((((((((((A.put (some 18) _).put (some 17) _).put (some 25) _).put (some 24) _).put (some 33) _).put (some 32) _).put (some 46) _).put (some 45) _).put (some 59) _).put (some 58) _)=B
 have b0:B.eval (.tmp 0)=.int .i64 kind:=by rw[← hA2];exact zA
 have b11:B.eval (.tmp 11)=.pointer (some ⟨w.heap.size,0,none⟩):=by rw[← hA2];exact zA
 have hsB:B.tmps.size=70:=by rw[← hA2];simp only[zP];exact hs
 have hdB:B.defers=[]:=by rw[← hA2];simp only[dF];exact hd
 clear hA2
 simp only[Exit.then,Exit.inBlock]
 repeat (refine vN ?_)
 have hlt:w.heap.size<W.heap.size:=qi c0
 have hw8:xJ kind<=8:=by unfold xJ;repeat' (first | omega | split)
 refine vS (xq [(0,true),(1,true),(2,true),(3,false),(4,false),(5,true)] (fun W'=>W'.cell? ⟨w.heap.size,0,none⟩=some (.int .i64 n)) HT.mixed (by kernel_rfl) rfl (by kernel_rfl) (fun _ _ _ _ h=>False.elim h) ?_)
 have hS:({ W with drawn:=W.drawn+1 }:World).cell? ⟨w.heap.size,0,none⟩=some (.int .i64 n):=c0
 have hbd:Below W.heap.size W { W with drawn:=W.drawn+1 }:=⟨rfl,rfl,rfl,Nat.le_refl _,fun _ _=>rfl⟩
 refine dP rfl rfl rfl (wN rfl) (by simp only[zP,hsB];decide) hS (fun w' hS'=>rF (b:=w.heap.size) (o:=0) zA (qn H.fTree (by decide)) (dn ⟨rfl,rfl,rfl⟩)) ?_
 refine dP rfl rfl rfl (wN rfl) (by simp only[zP,hsB];decide) hS (fun w' hS'=>rL (b:=w.heap.size) (o:=0) (v:=.int .i64 n) zM H.oI64 hS' (dn ⟨rfl,rfl,rfl⟩)) ?_
 refine dP rfl rfl rfl (wN rfl) (by simp only[zP,hsB];decide) hS (fun w' hS'=>rM (dn ⟨rfl,rfl,rfl⟩)) ?_
 refine qw rfl (wN rfl) ?_
 refine q8 (args:=#[.int .i64 kind]) ?_ (s_width HT.width zH) ?_
 ·simp only[lM]
  simp (disch:=(try simp only[sP]);omega) only[eV,b0]
 rintro v w2 ⟨rfl,rfl⟩
 refine dn (qv hS ?_)
 refine qw rfl (wN rfl) ?_
 refine q8 (args:=#[.int .i64 n,.int .i64 (xJ kind:Nat)]) ?_ (j6 (U:=W.heap.size) HT.fixed H.row H.u8 H.i64 H.int hw8 (Nat.le_refl _)) ?_
 ·simp only[lM]
  exact zE
 rintro v w3 ⟨h1,h2⟩
 have hS3:w3.cell? ⟨w.heap.size,0,none⟩=some (.int .i64 n):=by rw[(hbd.trans h2).cell (p:=⟨w.heap.size,0,none⟩) hlt];exact c0
 refine dn (qv hS3 ?_)
 refine dP rfl rfl rfl (wN rfl) (by simp only[zP,hsB];decide) hS3 (fun w' hS'=>rA (dn ⟨rfl,rfl,rfl⟩)) ?_
 refine xI ?_
 refine vS (vT ?_)
 exact ⟨by simp only[dF];exact hdB,v,rO zE,kX h1 hUW,hb.trans ((hbd.trans h2).mono hUW)⟩
theorem xa {C:Nat} {s:Nat} {n:Nat} (h:w.ownsRow B e s v n xs) (hb:Below C w w') (hC:C=w.heap.size:=by rfl):w'.ownsRow B e s v n xs:=by
 subst hC
 refine ⟨h.1,?_⟩
 rcases h.2 with h | ⟨g,cap,cur,h1,h2,h3,h4⟩
 ·exact .inl h
 ·have hg:g<w.heap.size:=(Array.getElem?_eq_some_iff.1 h3).1
  exact .inr ⟨g,cap,cur,h1,h2,by rw[hb.block g hg];exact h3,h4⟩
def FieldC (P:Program) (E:Env) (ver:Int) (fx:Bool) (f:SF):Prop :=
 ∀ (U:Nat) (w:World) (cs:List Value) (t:Tr) (ts:List Value),U<=w.heap.size->f.Rep w U cs->t.Rep w U ts->(f.wr ver fx t).length<=big →
  vL P E E.sField U #[.agg cs.toArray,.int .i64 ver,.bool fx,.agg ts.toArray] (f.wr ver fx t) w
def SF.kindOk:SF->Bool
 | .mk kind _ _ _ _ _ el _=>decide (0<=kind)&&decide (kind<=11)&&decide (0<=el)&&decide (el<=10)
def SF.sub:SF->SFs
 | .mk _ _ _ _ _ _ _ sub=>sub
structure FFr (P:Program) (E:Env) (w:World) (U:Nat) (ver:Int) (fx nl:Bool) (cs ts:List Value) (b:Nat) (A:Act) (W:World):Prop where
 size:A.tmps.size=76
 defers:A.defers=[]
 s1:A.eval (.tmp 1)=.int .i64 ver
 s2:A.eval (.tmp 2)=.bool fx
 s4:A.eval (.tmp 4)=.pointer (some ⟨b,0,none⟩)
 s7:A.eval (.tmp 7)=.pointer (some ⟨b+1,0,none⟩)
 s9:A.eval (.tmp 9)=.bool nl
 below:Below U w W
 bU:U<=b
 bW:b+1<W.heap.size
 cf:qb W b 0 cs
 ct:qb W (b+1) 0 ts
theorem FFr.put {P : Program} {E : Env} {w : World} {U : Nat} {ver : Int} {fx nl : Bool} {cs ts : List Value} {b : Nat} {A : Act} {W : World} (h : FFr P E w U ver fx nl cs ts b A W) {d : Nat} (v : Value) (hd : 9 < d ∨ d = 8) : FFr P E w U ver fx nl cs ts b (A.put (some d) v) W :=
  ⟨by rw [zP]; exact h.size, by rw [dF]; exact h.defers, by rw [qj _ _ _ _ zH]; exact h.s1, by rw [qj _ _ _ _ zH]; exact h.s2, by rw [qj _ _ _ _ zH]; exact h.s4,
   by rw [qj _ _ _ _ zH]; exact h.s7, by rw [qj _ _ _ _ zH]; exact h.s9, h.below, h.bU, h.bW, h.cf, h.ct⟩
theorem FFr.world {ver:Int} {nl:Bool} {A:Act} {W':World} (h:FFr P E w U ver fx nl cs ts b A W) (hb:Below B W W') (hB:b+2<=B):FFr P E w U ver fx nl cs ts b A W' :=
 ⟨h.size,h.defers,h.s1,h.s2,h.s4,h.s7,h.s9,h.below.trans (hb.mono (by have:=h.bU;omega)),h.bU,Nat.lt_of_lt_of_le h.bW hb.size,h.cf.below hb zH,h.ct.below hb zH⟩
theorem s_fieldV (H:SEnv P E) (HT:STexts P E) (hz8:qQ P E.tU8=some (.int .u8 0)) {kind:Nat} {fr to nul tag df el ver:Int} {sub:SFs} {nl:Bool} {t:Tr} {A:Act} (hf:FFr P E w U ver fx nl cs ts b A W) (hr:(SF.mk kind fr to nul tag df el sub).Rep w U cs) (hrt:t.Rep w U ts) (hU:U<=w.heap.size) (hk:kind<=10) (hp:kind=10->pg P E ver fx sub) (hbig:(z7 kind (sub.part ver fx) nl fx t).length<=big) (hQ:∀ a' w',Out P #[.tmp 8] (fun v w'=>w'.ownsRow U E.tU8 1 v (z7 kind (sub.part ver fx) nl fx t).length ((z7 kind (sub.part ver fx) nl fx t).map bv)/\Below U w w') .ret a' w'->Q .ret a' w'):
  vc P (sq [(rg [(qF 67 E.tFld 4 0),
   (qL 68 67 E.tI),
   (qF 69 E.tFld 4 7),
   (qL 70 69 E.tFlds),
   (qM 71 9 E.tO),
   (qM 72 1 E.tI),
   (qM 73 2 E.tO),
   (qL 74 7 E.tT),
   (oQ 75 (qC E.sValue #[(.tmp 68),(.tmp 70),(.tmp 71),(.tmp 72),(.tmp 73),(.tmp 74)] #[E.tI,E.tFlds,E.tO,E.tI,E.tO,E.tT]) E.tB),
   (qA 8 75 E.tB)]),.ret]) Q A W:=by
 obtain ⟨sv,rfl,hsub⟩:=hr
 have hs:=hf.size
 have c0:=hf.cf 0 _ rfl
 have c7:=hf.cf 7 _ rfl
 refine vX ?_
 refine rF (b:=b) (o:=0) (by simp (disch:=(try simp only[sP]);omega) only[eV,hf.s4]) (qn H.fFld (by decide)) ?_
 refine rL (b:=b) (o:=0+0) zE H.oInt c0 ?_
 refine rF (b:=b) (o:=0) (by simp (disch:=(try simp only[sP]);omega) only[eV,hf.s4]) (qn H.fFld (by decide)) ?_
 refine rL (b:=b) (o:=0+7) zE H.oFlds c7 ?_
 refine rM (rM (rM ?_))
 refine qf (b:=b+1) (o:=0) (cs:=ts) (by simp (disch:=(try simp only[sP]);omega) only[eV,hf.s7]) (by rw[hrt.len];exact H.aTree) hf.ct ?_
 refine q8 (args:=#[.int .i64 kind,sv,.bool nl,.int .i64 ver,.bool fx,.agg ts.toArray]) ?_ (s_value (U:=U) H HT hz8 hk hp (Nat.le_trans hU hf.below.size) (fun _=>SlF.below hsub hf.below) (hrt.below hf.below) hbig) ?_
 ·simp only[lM]
  simp (disch:=(try simp only[sP]);omega) only[eV,hf.s1,hf.s2,hf.s9]
 rintro v w2 ⟨h1,h2⟩
 refine rA (dn (vS (vT ?_)))
 exact hQ _ _ ⟨by simp only[dF];exact hf.defers,v,rO zE,h1,hf.below.trans h2⟩
theorem s_fieldN (H:SEnv P E) (HT:STexts P E) {kind fr to nul tag df el ver:Int} {sub:SFs} {nl:Bool} {t:Tr} {A:Act} (hf:FFr P E w U ver fx nl cs ts b A W) (hr:(SF.mk kind fr to nul tag df el sub).Rep w U cs) (hrt:t.Rep w U ts) (hU:U<=w.heap.size) (hp:pg P E ver fx sub) (hbig:(if nl then be 1 (-1) else be 1 1++sub.part ver fx t).length<=big) (hpanic:∀ c a a' w,Q (.panic c) a w->Q (.panic c) a' w) (hQ:∀ a' w',Out P #[.tmp 8] (fun v w'=>w'.ownsRow U E.tU8 1 v (if nl then be 1 (-1) else be 1 1++sub.part ver fx t).length ((if nl then be 1 (-1) else be 1 1++sub.part ver fx t).map bv)/\Below U w w') .ret a' w'->Q .ret a' w'):
  vc P (sq [(sq [(rg [(qM 57 9 E.tO)]),
      (.cond (.tmp 57)
       (sq [(rg [(oQ 58 (qC E.sFixed #[(.const (.int .i64 (-1))),(.const (.int .i64 1))] #[E.tI64,E.tI]) E.tB),
         (qA 8 58 E.tB)]),
        .ret])
       .skip)]),
     (rgd [(oQ 59 (qC E.sFixed #[(.const (.int .i64 1)),(.const (.int .i64 1))] #[E.tI64,E.tI]) E.tB),
      (qF 60 E.tFld 4 7),
      (qD 61 (.load E.tFlds (.tmp 60)) E.tFlds #[jD 1] none),
      (qM 62 1 E.tI),
      (qM 63 2 E.tO),
      (qL 64 7 E.tT),
      (qD 65 (qC E.sPart #[(.tmp 61),(.tmp 62),(.tmp 63),(.tmp 64)] #[E.tFlds,E.tI,E.tO,E.tT]) E.tB #[jD 2,jD 3,jD 4,jD 5,jC 0] none),
      (qD 66 (.call { callee:=.builtin .append,args:=#[(.tmp 59),(.tmp 65)],argTypes:=#[E.tB,E.tB] }) E.tB #[jD 0,jD 6,jC 6] none),
      (qD 8 (.assign (.tmp 66)) E.tB #[jD 7,jC 7,jP 0,jP 1,jP 2,jP 3,jP 4,jP 5,jP 6,jP 7] none)]),
     .ret]) Q A W:=by
 obtain ⟨sv,rfl,hsub⟩:=hr
 have hs:=hf.size
 have c7:=hf.cf 7 _ rfl
 have hUW:U<=W.heap.size:=Nat.le_trans hU hf.below.size
 refine vS (vX (rM (dn ?_)))
 refine vS (vC (t:=nl) (by simp (disch:=(try simp only[sP]);omega) only[eV,hf.s9]) ?_ ?_)
 ·intro hn
  subst hn
  refine vX ?_
  refine q8 (args:=#[.int .i64 (-1),.int .i64 ((1:Nat):Int)]) (by simp only[lM];rfl) (j6 (U:=U) HT.fixed H.row H.u8 H.i64 H.int (by decide) hUW) ?_
  rintro v w2 ⟨h1,h2⟩
  refine rA (dn (vS (vT ?_)))
  exact hQ _ _ ⟨by simp only[dF];exact hf.defers,v,rO zE,h1,hf.below.trans h2⟩
 ·intro hn
  subst hn
  refine vK (vN ?_)
  refine vS (xq [(1,true),(2,true),(3,true),(4,true),(5,true),(0,false),(6,false),(7,false),(8,true)] (fun W'=>W'.cell? ⟨b,7,none⟩=some sv/\qb W' (b+1) 0 ts) HT.mixed (by kernel_rfl) rfl (by kernel_rfl) (fun c a a' w h=>hpanic c a a' w h) ?_)
  generalize hB:A.put (some 57) (A.eval (.tmp 9))=B
  have hfB:=hf.put (d:=57) (A.eval (.tmp 9)) zH
  rw[hB] at hfB
  have hsB:=hfB.size
  clear hB
  have hbW:=hf.bW
  have hbd:Below W.heap.size W { W with drawn:=W.drawn+1 }:=⟨rfl,rfl,rfl,Nat.le_refl _,fun _ _=>rfl⟩
  have mkS:∀ w2,Below W.heap.size W w2->w2.cell? ⟨b,7,none⟩=some sv/\qb w2 (b+1) 0 ts:=fun w2 h2 =>
   ⟨by rw[h2.cell (p:=⟨b,7,none⟩) (by show b<_;omega)];simpa using c7,hf.ct.below h2 zH⟩
  have hS:=mkS _ hbd
  refine dP rfl rfl rfl (wN rfl) (by simp only[zP,hsB];decide) hS (fun w' hS'=>rF (b:=b) (o:=0) (by simp (disch:=(try simp only[sP]);omega) only[eV,hfB.s4]) (qn H.fFld (by decide)) (dn ⟨rfl,rfl,rfl⟩)) ?_
  refine dP rfl rfl rfl (wN rfl) (by simp only[zP,hsB];decide) hS (fun w' hS'=>rL (b:=b) (o:=7) (v:=sv) zM H.oFlds hS'.1 (dn ⟨rfl,rfl,rfl⟩)) ?_
  refine dP rfl rfl rfl (wN rfl) (by simp only[zP,hsB];decide) hS (fun w' hS'=>rM (dn ⟨rfl,rfl,rfl⟩)) ?_
  refine dP rfl rfl rfl (wN rfl) (by simp only[zP,hsB];decide) hS (fun w' hS'=>rM (dn ⟨rfl,rfl,rfl⟩)) ?_
  refine dP rfl rfl rfl (wN rfl) (by simp only[zP,hsB];decide) hS (fun w' hS'=>qf (b:=b+1) (o:=0) (cs:=ts) (by simp (disch:=(try simp only[sP]);omega) only[eV,hfB.s7]) (by rw[hrt.len];exact H.aTree) hS'.2 (dn ⟨rfl,rfl,rfl⟩)) ?_
  refine qw rfl (wN rfl) ?_
  refine q8 (args:=#[.int .i64 1,.int .i64 ((1:Nat):Int)]) (by simp only[lM];rfl) (j6 (U:=W.heap.size) HT.fixed H.row H.u8 H.i64 H.int (by decide) (Nat.le_refl _)) ?_
  rintro v w2 ⟨h1,h2⟩
  have hW2:Below W.heap.size W w2:=hbd.trans h2
  refine dn (qv (mkS _ hW2) ?_)
  refine qw rfl (wN rfl) ?_
  have hblU:Below U w w2:=hf.below.trans (hW2.mono hUW)
  have hbg:(sub.part ver fx t).length<=big:=by
   simp only[Bool.false_eq_true,if_false,List.length_append] at hbig
   omega
  refine q8 (args:=#[sv,.int .i64 ver,.bool fx,.agg ts.toArray]) ?_ (hp w2.heap.size w2 sv t ts (Nat.le_refl _) ((SlF.below hsub hblU).mono (Nat.le_trans hUW hW2.size)) ((hrt.below hblU).mono (Nat.le_trans hUW hW2.size)) hbg) ?_
  ·simp only[lM]
   simp (disch:=(try simp only[sP]);omega) only[eV,hfB.s1,hfB.s2]
  rintro v3 w3 ⟨h3,h4⟩
  have hW3:Below W.heap.size W w3:=hW2.trans (h4.mono hW2.size)
  refine dn (qv (mkS _ hW3) ?_)
  refine qw rfl (wN rfl) ?_
  have hown3:w3.ownsRow W.heap.size E.tU8 1 v (be 1 1).length ((be 1 1).map bv):=by
   exact xa h1 h4
  refine xD (sz:=1) (U:=W.heap.size) (m:=(sub.part ver fx t).length) (news:=(sub.part ver fx t).map bv) H.row zE zE hown3 hW3.size (zI (rB H.row) h3 (xH _)) (by simp only[Bool.false_eq_true,if_false,List.length_append] at hbig;exact hbig) ?_
  intro v4 w4 h5 h6
  refine dn (qv (mkS _ (hW3.trans h6)) ?_)
  refine dP rfl rfl rfl (wN rfl) (by simp only[zP,hsB];decide) (mkS _ (hW3.trans h6)) (fun w' hS'=>rA (dn ⟨rfl,rfl,rfl⟩)) ?_
  refine xI ?_
  refine vS (vT ?_)
  simp only[Bool.false_eq_true,if_false] at hQ
  rw[← List.length_append,← List.map_append] at h5
  exact hQ _ _ ⟨by simp only[dF];exact hfB.defers,v4,rO zE,kX h5 hUW,hf.below.trans ((hW3.trans h6).mono hUW)⟩
theorem Trs.toL_len:∀ l:Trs,l.toL.length=l.len
 | .nil=>rfl
 | .cons t r=>by simp[Trs.toL,Trs.len,Trs.toL_len r]
theorem Trs.toL_get:∀ (l:Trs) (i:Nat),l.toL[i]? = l.get i
 | .nil,i=>by simp[Trs.toL,Trs.get]
 | .cons t r,0=>rfl
 | .cons t r,i+1=>by simpa [Trs.toL,Trs.get] using Trs.toL_get r i
theorem flat_succ {α β:Type} (l:List α) (f:α->List β) (i:Nat) (h:i<l.length):((l.take (i+1)).map f).flatten=((l.take i).map f).flatten++f l[i]:=by
 rw[List.take_succ_eq_append_getElem h,List.map_append,List.flatten_append]
 simp
theorem flat_le {α β:Type} (l:List α) (f:α->List β) (i:Nat):((l.take i).map f).flatten.length<=((l.map f).flatten).length:=by
 have:l=l.take i++l.drop i:=(List.take_append_drop i l).symm
 conv=>rhs;rw[this]
 rw[List.map_append,List.flatten_append,List.length_append]
 omega
def ListB (w:World) (U:Nat) (v:Value) (L:List Tr):Prop :=
 (NilS v/\L=[])\/∃ q o cap,v=.slice (some ⟨q,o,none⟩) L.length cap/\q<U/\∀ (i:Nat) (t:Tr),L[i]? = some t->∃ c,qb w q (o+i*5) c/\t.Rep w U c
theorem ListB.below {w w':World} {v:Value} {L:List Tr} (h:ListB w U v L) (hw:Below U w w'):ListB w' U v L:=by
 rcases h with h | ⟨q,o,cap,h1,h2,h3⟩
 ·exact .inl h
 ·refine .inr ⟨q,o,cap,h1,h2,fun i t ht=>?_⟩
  obtain ⟨c,h4,h5⟩:=h3 i t ht
  exact ⟨c,h4.below hw h2,h5.below hw⟩
theorem ListB.form {L:List Tr} (h:ListB w U v L):∃ ad cap,v=.slice ad L.length cap:=by
 rcases h with ⟨⟨_,_,rfl⟩,rfl⟩ | ⟨q,o,cap,rfl,_⟩<;>exact ⟨_,_,rfl⟩
theorem s_fieldL2 (H:SEnv P E) (HT:STexts P E) (hz8:qQ P E.tU8=some (.int .u8 0)) {kind fr to nul tag df ver:Int} {el:Nat} {sub:SFs} {nl:Bool} {A:Act} {xv:Value} (hf:FFr P E w U ver fx nl cs ts b A W) (hr:(SF.mk kind fr to nul tag df el sub).Rep w U cs) (hU:U<=w.heap.size) (hel:el<=10) (hp:pg P E ver fx sub) {L:List Tr} (hx:A.eval (.tmp 10)=xv) (hLB:ListB w U xv L) (hLn:L.length<=big) (hbig:(cnt fx nl L.length 4++(L.map fun t=>z7 el (sub.part ver fx) false fx t).flatten).length<=big) (hpanic:∀ c a a' w,Q (.panic c) a w->Q (.panic c) a' w) (hQ:∀ a' w',Out P #[.tmp 8] (fun v w'=>w'.ownsRow U E.tU8 1 v (cnt fx nl L.length 4++(L.map fun t=>z7 el (sub.part ver fx) false fx t).flatten).length ((cnt fx nl L.length 4++(L.map fun t=>z7 el (sub.part ver fx) false fx t).flatten).map bv)/\Below U w w') .ret a' w'->Q .ret a' w'):
  vc P (sq [(rg [(qM 24 2 E.tO),
      (qM 25 9 E.tO),
      (qM 26 10 E.tS),
      (qN 27 26 E.tS E.tI),
      (oQ 28 (qC E.sCounted #[(.tmp 24),(.tmp 25),(.tmp 27),(.const (.int .i64 4))] #[E.tO,E.tO,E.tI,E.tI]) E.tB),
      (qA 11 28 E.tB)]),
     (sq [(rg [(qM 29 10 E.tS),
       (qN 30 29 E.tS E.tI),
       (oQ 31 (.move (.const (.int .i64 0))) E.tI)]),
      (.block 0 (.loop (sq [(rg [(qB 32 .lss E.tI 31 30 0)]),
         (.cond (.tmp 32)
          .skip
          (.exit 0)),
         (.block 1 (sq [(rg [(qM 33 31 E.tI),
            (qA 12 33 E.tI)]),
           (rgd [(qM 34 11 E.tB),
            (qF 35 E.tFld 4 6),
            (qD 36 (.load E.tI (.tmp 35)) E.tI #[jD 1] none),
            (qF 37 E.tFld 4 7),
            (qD 38 (.load E.tFlds (.tmp 37)) E.tFlds #[jD 3] none),
            (qM 39 1 E.tI),
            (qM 40 2 E.tO),
            (qM 41 10 E.tS),
            (qM 42 12 E.tI),
            (qD 43 (.indexAddr E.tS (.tmp 41) (.tmp 42)) 0 #[jD 7,jD 8] none),
            (qD 44 (.load E.tT (.tmp 43)) E.tT #[jD 9] none),
            (qD 45 (qC E.sValue #[(.tmp 36),(.tmp 38),(.const (.bool false)),(.tmp 39),(.tmp 40),(.tmp 44)] #[E.tI,E.tFlds,E.tO,E.tI,E.tO,E.tT]) E.tB #[jD 2,jD 4,jD 5,jD 6,jD 10] none),
            (qD 46 (.call { callee:=.builtin .append,args:=#[(.tmp 34),(.tmp 45)],argTypes:=#[E.tB,E.tB] }) E.tB #[jD 0,jD 11,jC 11] none),
            (qD 11 (.assign (.tmp 46)) E.tB #[jD 12,jC 12,jP 0,jP 1,jP 2,jP 3,jP 4,jP 5,jP 6,jP 7,jP 8,jP 9,jP 10,jP 11,jP 12] none)])])),
         (rg [(qK 47 .add E.tI 31 1 E.tI),
          (qM 31 47 E.tI)])])))]),
     (rg [(qM 48 11 E.tB),
      (qA 8 48 E.tB)]),
     .ret]) Q A W:=by
 obtain ⟨sv,hcs,hsub⟩:=hr
 have hUW:U<=W.heap.size:=Nat.le_trans hU hf.below.size
 have hsl:=rB H.rTrees
 obtain ⟨ad,cap,hxv⟩:=hLB.form
 have hs:=hf.size
 have hbW:=hf.bW
 have hbU:=hf.bU
 refine vX (rM (rM (rM ?_)))
 refine xh (ad:=ad) (n:=L.length) (c:=cap) hsl (by simp (disch:=(try simp only[sP]);omega) only[eV,hx,hxv]) ?_
 refine q8 (args:=#[.bool fx,.bool nl,.int .i64 (L.length:Int),.int .i64 ((4:Nat):Int)]) ?_ (s_counted (U:=W.heap.size) HT.counted HT.uvar HT.fixed H.row H.u8 H.u64 H.i64 H.int hLn (by decide) (Nat.le_refl _)) ?_
 ·simp only[lM]
  simp (disch:=(try simp only[sP]);omega) only[eV,hf.s2,hf.s9]
  rfl
 rintro v W1 ⟨hown1,hb1⟩
 refine rA (dn (vS (vX (rM ?_))))
 refine xh (ad:=ad) (n:=L.length) (c:=cap) hsl (by simp (disch:=(try simp only[sP]);omega) only[eV,hx,hxv]) ?_
 refine rM (dn ?_)
 have hf1:=hf.world hb1 zH
 refine vS (qk (xZ (fun m B V=>m<=L.length/\FFr P E w U ver fx nl cs ts b B V/\B.eval (.tmp 10)=xv/\B.eval (.tmp 30)=.int .i64 (L.length:Int)/\B.eval (.tmp 31)=.int .i64 ((L.length-m:Nat):Int)/\W.heap.size<=V.heap.size/\Below W.heap.size W V ∧
  ∃ xs:List UInt8,V.ownsRow W.heap.size E.tU8 1 (B.eval (.tmp 11)) xs.length (xs.map bv)/\xs=cnt fx nl L.length 4++((L.take (L.length-m)).map fun t=>z7 el (sub.part ver fx) false fx t).flatten) L.length ?_ ?_ ?_))
 ·refine ⟨Nat.le_refl _,(((((((((hf1.put _ zH).put _ zH).put _ zH).put _ zH).put _ zH).put _ zH).put _ zH).put _ zH).put _ zH),zA,zE,?_,hb1.size,hb1,cnt fx nl L.length 4,?_,?_⟩
  ·simp (disch:=(try simp only[sP]);omega) only[eV]
   simp
  ·rw[show Act.eval _ (.tmp 11)=v by exact zE]
   exact hown1
  ·simp
 ·rintro m B V ⟨hm,hfB,g10,g30,g31,hWV,hbV,xs,hown,hxs⟩
  have hi:L.length-(m+1)<L.length:=by omega
  have him:L.length-m=(L.length-(m+1))+1:=by omega
  rw[him]
  generalize hii:L.length-(m+1)=i at *
  have hbVU:Below U w V:=hf.below.trans (hbV.mono hUW)
  have hLV:=hLB.below hbVU
  obtain ⟨q,o,cap',hxv',hq,hel'⟩:∃ q o cap,xv=.slice (some ⟨q,o,none⟩) L.length cap/\q<U/\∀ (i:Nat) (t:Tr),L[i]? = some t->∃ c,qb V q (o+i*5) c/\t.Rep V U c:=by
   rcases hLV with ⟨_,rfl⟩ | ⟨q,o,cap,h1,h2,h3⟩
   ·simp at hi
   ·exact ⟨q,o,cap,h1,h2,h3⟩
  obtain ⟨c,hc,hrc⟩:=hel' i L[i] (List.getElem?_eq_getElem hi)
  have hsB:=hfB.size
  have c6:V.cell? ⟨b,6,none⟩=some (.int .i64 (el:Int)):=by have:=hfB.cf 6 (.int .i64 (el:Int)) (by rw[hcs];rfl);simpa using this
  have c7:V.cell? ⟨b,7,none⟩=some sv:=by have:=hfB.cf 7 sv (by rw[hcs];rfl);simpa using this
  refine vX ?_
  refine xm (k:=.i64) (m:=(i:Int)) (n:=(L.length:Int)) g31 g30 ?_
  refine dn ?_
  refine vS (vC (t:=true) ?_ ?_ (fun h=>by cases h))
  ·simp (disch:=(try simp only[sP]);omega) only[eV]
   simp only[Value.bool.injEq,decide_eq_true_eq]
   omega
  intro _
  refine vK ?_
  refine vS (qk (vX ?_))
  refine rM (rA (dn ?_))
  generalize hG:((B.put (some 32) _).put (some 33) _).put (some 12) _=G
  have hfG:=((hfB.put (d:=32) (.bool (decide ((i:Int)<(L.length:Int)))) zH).put (d:=33) ((B.put (some 32) (.bool (decide ((i:Int)<(L.length:Int))))).eval (.tmp 31)) zH).put (d:=12) (((B.put (some 32) (.bool (decide ((i:Int)<(L.length:Int))))).put (some 33) ((B.put (some 32) (.bool (decide ((i:Int)<(L.length:Int))))).eval (.tmp 31))).eval (.tmp 33)) zH
  rw[hG] at hfG
  have k10:G.eval (.tmp 10)=xv:=by rw[← hG];exact zA
  have k12:G.eval (.tmp 12)=.int .i64 (i:Int):=by rw[← hG];exact zA
  have k30:G.eval (.tmp 30)=.int .i64 (L.length:Int):=by rw[← hG];exact zA
  have k31:G.eval (.tmp 31)=.int .i64 (i:Int):=by rw[← hG];exact zA
  have k11:G.eval (.tmp 11)=B.eval (.tmp 11):=by rw[← hG];exact zE
  have hsG:=hfG.size
  clear hG
  rw[← k11] at hown
  have hsucc:=flat_succ L (fun t=>z7 (el:Int) (sub.part ver fx) false fx t) i hi
  have hle:=flat_le L (fun t=>z7 (el:Int) (sub.part ver fx) false fx t) (i+1)
  rw[hsucc,List.length_append] at hle
  have hvb:xs.length+(z7 (el:Int) (sub.part ver fx) false fx L[i]).length<=big:=by
   rw[hxs,List.length_append]
   rw[List.length_append] at hbig
   omega
  have hUV:U<=V.heap.size:=Nat.le_trans hUW hWV
  have hbd:Below V.heap.size V { V with drawn:=V.drawn+1 }:=⟨rfl,rfl,rfl,Nat.le_refl _,fun _ _=>rfl⟩
  have hbV2:b+1<V.heap.size:=hfB.bW
  have mkS:∀ w2,Below W.heap.size V w2->w2.cell? ⟨b,6,none⟩=some (.int .i64 (el:Int))/\w2.cell? ⟨b,7,none⟩=some sv/\qb w2 q (o+i*5) c:=fun w2 h2 =>
   ⟨by rw[h2.cell (p:=⟨b,6,none⟩) (by show b<_;omega)];exact c6,by rw[h2.cell (p:=⟨b,7,none⟩) (by show b<_;omega)];exact c7,hc.below h2 zH⟩
  have hS:=mkS _ (hbd.mono hWV)
  refine vS (xq [(0,true),(1,true),(2,true),(3,true),(4,true),(5,true),(6,true),(7,true),(8,true),(9,true),(10,true),(11,false),(12,false),(13,true)] (fun W'=>W'.cell? ⟨b,6,none⟩=some (.int .i64 (el:Int))/\W'.cell? ⟨b,7,none⟩=some sv/\qb W' q (o+i*5) c) HT.mixed (by kernel_rfl) rfl (by kernel_rfl) (fun c a a' w h=>hpanic c a a' w h) ?_)
  refine dP rfl rfl rfl (wN rfl) (by simp only[zP,hsG];decide) hS (fun w' hS'=>rM (dn ⟨rfl,rfl,rfl⟩)) ?_
  refine dP rfl rfl rfl (wN rfl) (by simp only[zP,hsG];decide) hS (fun w' hS'=>rF (b:=b) (o:=0) (by simp (disch:=(try simp only[sP]);omega) only[eV,hfG.s4]) (qn H.fFld (by decide)) (dn ⟨rfl,rfl,rfl⟩)) ?_
  refine dP rfl rfl rfl (wN rfl) (by simp only[zP,hsG];decide) hS (fun w' hS'=>rL (b:=b) (o:=6) (v:=.int .i64 (el:Int)) zM H.oInt hS'.1 (dn ⟨rfl,rfl,rfl⟩)) ?_
  refine dP rfl rfl rfl (wN rfl) (by simp only[zP,hsG];decide) hS (fun w' hS'=>rF (b:=b) (o:=0) (by simp (disch:=(try simp only[sP]);omega) only[eV,hfG.s4]) (qn H.fFld (by decide)) (dn ⟨rfl,rfl,rfl⟩)) ?_
  refine dP rfl rfl rfl (wN rfl) (by simp only[zP,hsG];decide) hS (fun w' hS'=>rL (b:=b) (o:=7) (v:=sv) zM H.oFlds hS'.2.1 (dn ⟨rfl,rfl,rfl⟩)) ?_
  refine dP rfl rfl rfl (wN rfl) (by simp only[zP,hsG];decide) hS (fun w' hS'=>rM (dn ⟨rfl,rfl,rfl⟩)) ?_
  refine dP rfl rfl rfl (wN rfl) (by simp only[zP,hsG];decide) hS (fun w' hS'=>rM (dn ⟨rfl,rfl,rfl⟩)) ?_
  refine dP rfl rfl rfl (wN rfl) (by simp only[zP,hsG];decide) hS (fun w' hS'=>rM (dn ⟨rfl,rfl,rfl⟩)) ?_
  refine dP rfl rfl rfl (wN rfl) (by simp only[zP,hsG];decide) hS (fun w' hS'=>rM (dn ⟨rfl,rfl,rfl⟩)) ?_
  refine dP rfl rfl rfl (wN rfl) (by simp only[zP,hsG];decide) hS (fun w' hS'=>qH (k:=.i64) (j:=i) (b:=q) (o:=o) (len:=L.length) (cap:=cap') hsl (by simp (disch:=(try simp only[sP]);omega) only[eV,k10,hxv']) zA hi (dn ⟨rfl,rfl,rfl⟩)) ?_
  refine dP rfl rfl rfl (wN rfl) (by simp only[zP,hsG];decide) hS (fun w' hS'=>qf (b:=q) (o:=o+i*5) (cs:=c) zE (by rw[hrc.len];exact H.aTree) hS'.2.2 (dn ⟨rfl,rfl,rfl⟩)) ?_
  refine qw rfl (wN rfl) ?_
  have hbd':Below U w { V with drawn:=V.drawn+1 }:=hbVU.trans (hbd.mono hUV)
  refine q8 (args:=#[.int .i64 (el:Int),sv,.bool false,.int .i64 ver,.bool fx,.agg c.toArray]) ?_ (s_value (U:=V.heap.size) (ver:=ver) (nl:=false) (fx:=fx) (t:=L[i]) H HT hz8 hel (fun _=>hp) (Nat.le_refl _) (fun _=>(SlF.below hsub hbd').mono hUV) ((hrc.below (hbd.mono hUV)).mono hUV) zH) ?_
  ·simp only[lM]
   simp (disch:=(try simp only[sP]);omega) only[eV,hfG.s1,hfG.s2]
  rintro v2 w2 ⟨h1,h2⟩
  have hV2:Below V.heap.size V w2:=hbd.trans h2
  refine dn (qv (mkS _ (hV2.mono hWV)) ?_)
  refine qw rfl (wN rfl) ?_
  have hown2:=xa hown hV2
  refine xD (sz:=1) (U:=W.heap.size) (m:=(z7 (el:Int) (sub.part ver fx) false fx L[i]).length) (news:=(z7 (el:Int) (sub.part ver fx) false fx L[i]).map bv) H.row zE zE hown2 (Nat.le_trans hWV hV2.size) (zI (rB H.row) h1 (xH _)) hvb ?_
  intro v4 w4 h5 h6
  have hV4:Below W.heap.size V w4:=(hV2.mono hWV).trans h6
  refine dn (qv (mkS _ hV4) ?_)
  refine dP rfl rfl rfl (wN rfl) (by simp only[zP,hsG];decide) (mkS _ hV4) (fun w' hS'=>rA (dn ⟨rfl,rfl,rfl⟩)) ?_
  refine xI ?_
  refine vN (vX ?_)
  refine z8 (k:=.i64) (m:=(i:Int)) (n:=1) zA rfl ?_
  refine rM (dn (vN ?_))
  rw[← List.length_append,← List.map_append] at h5
  refine ⟨by omega,?_,zA,zA,?_,Nat.le_trans hWV hV4.size,hbV.trans hV4,xs++z7 (el:Int) (sub.part ver fx) false fx L[i],?_,?_⟩
  ·have:=hfG.world hV4 zH
   repeat (refine FFr.put ?_ _ zH)
   exact this
  ·simp (disch:=(try simp only[sP]);omega) only[eV]
   rw[wrap_i64 (by unfold big at hLn;omega) (by unfold big at hLn;omega)]
   rfl
  ·rw[show Act.eval _ (.tmp 11)=v4 by exact zE]
   exact h5
  ·rw[hsucc,hxs,List.append_assoc]
 ·rintro B V ⟨hm,hfB,g10,g30,g31,hWV,hbV,xs,hown,hxs⟩
  refine vX ?_
  refine xm (k:=.i64) (m:=((L.length-0:Nat):Int)) (n:=(L.length:Int)) g31 g30 ?_
  refine dn ?_
  have hsB:=hfB.size
  refine vS (vC (t:=false) ?_ (fun h=>by cases h) ?_)
  ·simp (disch:=(try simp only[sP]);omega) only[eV]
   simp only[Value.bool.injEq,decide_eq_false_iff_not]
   omega
  intro _
  refine xp ?_
  simp only[Exit.then,Exit.inBlock,if_true]
  refine vN (vX (rM (rA (dn (vS (vT ?_))))))
  rw[Nat.sub_zero,List.take_length] at hxs
  rw[← hxs] at hQ
  exact hQ _ _ ⟨by simp only[dF];exact hfB.defers,B.eval (.tmp 11),rO zE,kX hown hUW,hf.below.trans (hbV.mono hUW)⟩
theorem s_fieldL (H:SEnv P E) (HT:STexts P E) (hz8:qQ P E.tU8=some (.int .u8 0)) {kind fr to nul tag df ver:Int} {el:Nat} {sub:SFs} {nl:Bool} {n:Int} {s:List UInt8} {tnl:Bool} {l:Trs} {A:Act} (hf:FFr P E w U ver fx nl cs ts b A W) (hr:(SF.mk kind fr to nul tag df el sub).Rep w U cs) (hrt:(Tr.mk n s tnl l u).Rep w U ts) (hU:U<=w.heap.size) (hel:el<=10) (hp:pg P E ver fx sub) {L:List Tr} (hL:L=if nl then [] else l.toL.take 32767) (hbig:(cnt fx nl L.length 4++(L.map fun t=>z7 el (sub.part ver fx) false fx t).flatten).length<=big) (hpanic:∀ c a a' w,Q (.panic c) a w->Q (.panic c) a' w) (hQ:∀ a' w',Out P #[.tmp 8] (fun v w'=>w'.ownsRow U E.tU8 1 v (cnt fx nl L.length 4++(L.map fun t=>z7 el (sub.part ver fx) false fx t).flatten).length ((cnt fx nl L.length 4++(L.map fun t=>z7 el (sub.part ver fx) false fx t).flatten).map bv)/\Below U w w') .ret a' w'->Q .ret a' w'):
  vc P (sq [(rg [(qF 20 E.tT 7 3),
      (qL 21 20 E.tS),
      (oQ 22 (qC E.sThings #[(.tmp 21)] #[E.tS]) E.tS),
      (qA 10 22 E.tS)]),
     (sq [(rg [(qM 23 9 E.tO)]),
      (.cond (.tmp 23)
       (rg [(oQ 10 (.assign (.const (.slice none 0 0))) E.tS)])
       .skip)]),
     (rg [(qM 24 2 E.tO),
      (qM 25 9 E.tO),
      (qM 26 10 E.tS),
      (qN 27 26 E.tS E.tI),
      (oQ 28 (qC E.sCounted #[(.tmp 24),(.tmp 25),(.tmp 27),(.const (.int .i64 4))] #[E.tO,E.tO,E.tI,E.tI]) E.tB),
      (qA 11 28 E.tB)]),
     (sq [(rg [(qM 29 10 E.tS),
       (qN 30 29 E.tS E.tI),
       (oQ 31 (.move (.const (.int .i64 0))) E.tI)]),
      (.block 0 (.loop (sq [(rg [(qB 32 .lss E.tI 31 30 0)]),
         (.cond (.tmp 32)
          .skip
          (.exit 0)),
         (.block 1 (sq [(rg [(qM 33 31 E.tI),
            (qA 12 33 E.tI)]),
           (rgd [(qM 34 11 E.tB),
            (qF 35 E.tFld 4 6),
            (qD 36 (.load E.tI (.tmp 35)) E.tI #[jD 1] none),
            (qF 37 E.tFld 4 7),
            (qD 38 (.load E.tFlds (.tmp 37)) E.tFlds #[jD 3] none),
            (qM 39 1 E.tI),
            (qM 40 2 E.tO),
            (qM 41 10 E.tS),
            (qM 42 12 E.tI),
            (qD 43 (.indexAddr E.tS (.tmp 41) (.tmp 42)) 0 #[jD 7,jD 8] none),
            (qD 44 (.load E.tT (.tmp 43)) E.tT #[jD 9] none),
            (qD 45 (qC E.sValue #[(.tmp 36),(.tmp 38),(.const (.bool false)),(.tmp 39),(.tmp 40),(.tmp 44)] #[E.tI,E.tFlds,E.tO,E.tI,E.tO,E.tT]) E.tB #[jD 2,jD 4,jD 5,jD 6,jD 10] none),
            (qD 46 (.call { callee:=.builtin .append,args:=#[(.tmp 34),(.tmp 45)],argTypes:=#[E.tB,E.tB] }) E.tB #[jD 0,jD 11,jC 11] none),
            (qD 11 (.assign (.tmp 46)) E.tB #[jD 12,jC 12,jP 0,jP 1,jP 2,jP 3,jP 4,jP 5,jP 6,jP 7,jP 8,jP 9,jP 10,jP 11,jP 12] none)])])),
         (rg [(qK 47 .add E.tI 31 1 E.tI),
          (qM 31 47 E.tI)])])))]),
     (rg [(qM 48 11 E.tB),
      (qA 8 48 E.tB)]),
     .ret]) Q A W:=by
 obtain ⟨s1,lv,uv,hts,_,_,hl⟩:=hrt
 have d3:W.cell? ⟨b+1,0+3,none⟩=some lv:=hf.ct 3 lv (by rw[hts];rfl)
 have hsl:=rB H.rTrees
 obtain ⟨ad,cap,hlv,hcap,had⟩:∃ ad cap,lv=.slice ad l.len cap/\l.len<=cap/\∀ k,k<=l.len->ListB w U (.slice ad k cap) (l.toL.take k):=by
  rcases hl with ⟨⟨ad,cap,rfl⟩,h0⟩ | ⟨q,o,cap,rfl,hc,hq,hrep⟩
  ·refine ⟨ad,cap,by rw[h0],by omega,fun k hk=>.inl ⟨⟨ad,cap,by rw[show k=0 by omega]⟩,?_⟩⟩
   rw[show k=0 by omega,List.take_zero]
  ·refine ⟨_,cap,rfl,hc,fun k hk=>.inr ⟨q,o,cap,by rw[List.length_take,Trs.toL_len,Nat.min_eq_left hk],hq,fun i t ht=>?_⟩⟩
   have:l.get i=some t:=by
    rw[List.getElem?_take] at ht
    split at ht
    ·rw[← Trs.toL_get];exact ht
    ·cases ht
   exact hrep.get this
 subst hlv
 have hs:=hf.size
 refine vX ?_
 refine rF (b:=b+1) (o:=0) (by simp (disch:=(try simp only[sP]);omega) only[eV,hf.s7]) (qn H.fTree (by decide)) ?_
 refine rL (b:=b+1) (o:=0+3) zE H.oTrees d3 ?_
 refine q8 (args:=#[.slice ad l.len cap]) ?_ (s_first (T:=E.tS) (e:=E.tT) (c:=.skip) (.inr hsl) H.int hcap HT.things) ?_
 ·simp only[lM]
  exact zE
 rintro v w' ⟨rfl,rfl⟩
 refine rA (dn (vS (vX (rM (dn ?_)))))
 refine vS (vC (t:=nl) (by simp (disch:=(try simp only[sP]);omega) only[eV,hf.s9]) ?_ ?_)
 ·intro hn
  have hL0:L=[]:=by rw[hL,hn];rfl
  refine vR zS ?_
  refine rA (dn (vN ?_))
  refine s_fieldL2 (b:=b) (ts:=ts) (cs:=cs) (xv:=.slice none 0 0) H HT hz8 (L:=L) ?_ hr hU hel hp zE (.inl ⟨nilS,hL0⟩) (by rw[hL0];decide) hbig hpanic hQ
  repeat (refine FFr.put ?_ _ zH)
  exact hf
 ·intro hn
  have hL1:L=l.toL.take (min l.len 32767):=by
   rw[hL,hn]
   simp only[Bool.false_eq_true,if_false]
   rcases Nat.le_total l.len 32767 with h | h
   ·rw[Nat.min_eq_left h,List.take_of_length_le (by rw[Trs.toL_len];exact h),List.take_of_length_le (by rw[Trs.toL_len];exact Nat.le_refl _)]
   ·rw[Nat.min_eq_right h]
  refine vK (vN ?_)
  refine s_fieldL2 (b:=b) (ts:=ts) (cs:=cs) (xv:=.slice ad (min l.len 32767) cap) H HT hz8 (L:=L) ?_ hr hU hel hp zE (by rw[hL1];exact had _ (Nat.min_le_left _ _)) (by rw[hL1,List.length_take];unfold big;omega) hbig hpanic hQ
  repeat (refine FFr.put ?_ _ zH)
  exact hf
theorem SF.wr_list {v:Int} {fr to nul tag df el:Int} {sub:SFs} {n:Int} {s:List UInt8} {tnl:Bool} {l:Trs} (nl:Bool) (hn:(SF.mk 11 fr to nul tag df el sub).isNull v (.mk n s tnl l u)=nl) (L:List Tr) (hL:L=if nl then [] else l.toL.take 32767):
  (SF.mk 11 fr to nul tag df el sub).wr v fx (.mk n s tnl l u)=cnt fx nl L.length 4++(L.map fun t=>z7 el (sub.part v fx) false fx t).flatten:=by
 subst hn;subst hL
 simp only[SF.wr,if_true]
 rfl
theorem SF.wr_null {v:Int} {fr to nul tag df el:Int} {sub:SFs} {t:Tr} (h0:nul ≥ 0):
  (SF.mk 10 fr to nul tag df el sub).wr v fx t=if (SF.mk 10 fr to nul tag df el sub).isNull v t then be 1 (-1) else be 1 1++sub.part v fx t:=by
 simp[SF.wr,SFs.part,h0]
theorem SF.wr_val {v:Int} {kind fr to nul tag df el:Int} {sub:SFs} {t:Tr} (h1:kind≠11) (h2:¬ (kind=10/\nul ≥ 0)):
  (SF.mk kind fr to nul tag df el sub).wr v fx t=z7 kind (sub.part v fx) ((SF.mk kind fr to nul tag df el sub).isNull v t) fx t:=by
 have:¬ ((decide (kind=10)&&decide (nul ≥ 0))=true):=by simpa using h2
 simp only[SF.wr,h1,if_false,this]
 rfl
theorem s_field (H:SEnv P E) (HT:STexts P E) (hz8:qQ P E.tU8=some (.int .u8 0)) {ver:Int} {f:SF} (hk:f.kindOk=true) (hp:pg P E ver fx f.sub):FieldC P E ver fx f:=by
 intro U w cs t ts hU hr hrt hbig
 refine qa.enter HT.field zS ?_
 intro a hsz hdf harg
 have e0:=harg 0 (.agg cs.toArray) zS
 have e1:=harg 1 (.int .i64 ver) zS
 have e2:=harg 2 (.bool fx) zS
 have e3:=harg 3 (.agg ts.toArray) zS
 unfold c_sField
 refine vX ?_
 refine xN (v:=.agg cs.toArray) zA ?_
 refine xN (v:=.agg ts.toArray) zA ?_
 refine rA (dn ?_)
 generalize hw1:w.alloc (.cells (Value.agg cs.toArray).cells E.tFld)=w1
 have hb1:Below U w w1:=by rw[← hw1];exact (Below.refl U w).alloc (o:=.cells _ _) hU
 have hz1:w1.heap.size=w.heap.size+1:=by rw[← hw1];simp
 have c1:qb w1 w.heap.size 0 cs:=by
  intro i v hv
  rw[← hw1,Nat.zero_add]
  exact qm w _ E.tFld (by simpa [Value.cells] using hv)
 clear hw1
 generalize hw2:w1.alloc (.cells (Value.agg ts.toArray).cells E.tT)=W
 have hb2:Below U w W:=by rw[← hw2];exact hb1.trans ((Below.refl U w1).alloc (o:=.cells _ _) zH)
 have hz2:W.heap.size=w.heap.size+2:=by rw[← hw2];simp[hz1]
 have d1:qb W w.heap.size 0 cs:=by rw[← hw2];exact c1.eff (Eff.refl (fun _ _=>False) w1 |>.alloc _) (fun _ _ h=>h)
 have d2:qb W (w.heap.size+1) 0 ts:=by
  intro i v hv
  rw[← hw2,Nat.zero_add,← hz1]
  exact qm w1 _ E.tT (by simpa [Value.cells] using hv)
 clear hw2
 rw[hz1]
 refine vX ?_
 refine qf (b:=w.heap.size) (o:=0) (cs:=cs) zE (by rw[hr.len];exact H.aFld) d1 ?_
 refine rM ?_
 refine qf (b:=w.heap.size+1) (o:=0) (cs:=ts) zE (by rw[hrt.len];exact H.aTree) d2 ?_
 refine q8 (args:=#[.agg cs.toArray,.int .i64 ver,.agg ts.toArray]) ?_ (s_null (U:=W.heap.size) H HT.null ((hr.below hb2).mono zH) ((hrt.below hb2).mono zH) (Nat.le_refl _)) ?_
 ·simp only[lM]
  simp (disch:=(try simp only[sP]);omega) only[eV,e1]
 rintro v w3 ⟨rfl,hb3⟩
 refine rA (dn ?_)
 generalize hA:Act.put _ (some 9) _=A
 have hf:FFr P E w U ver fx (f.isNull ver t) cs ts w.heap.size A w3:=by
  rw[← hA]
  exact ⟨by simp only[zP];exact hsz,by simp only[dF];exact hdf,zA,zA,zE,zE,zE,hb2.trans (hb3.mono zH),hU,by have:=hb3.size;omega,d1.below hb3 zH,d2.below hb3 zH⟩
 clear hA
 have hs:=hf.size
 cases f with
 | mk kindI fr to nul tag df elI sub =>
 simp only[SF.kindOk,Bool.and_eq_true,decide_eq_true_eq] at hk
 obtain ⟨kind,rfl⟩:=Int.eq_ofNat_of_zero_le hk.1.1.1
 obtain ⟨el,rfl⟩:=Int.eq_ofNat_of_zero_le hk.1.2
 have hel:el<=10:=by omega
 have k0:w3.cell? ⟨w.heap.size,0+0,none⟩=some (.int .i64 (kind:Int)):=hf.cf 0 _ (by obtain ⟨sv,rfl,_⟩:=hr;rfl)
 have k3:w3.cell? ⟨w.heap.size,0+3,none⟩=some (.int .i64 nul):=hf.cf 3 _ (by obtain ⟨sv,rfl,_⟩:=hr;rfl)
 cases t with
 | mk n s tnl l u =>
 generalize hnl:(SF.mk (kind:Int) fr to nul tag df (el:Int) sub).isNull ver (.mk n s tnl l u)=nl at hf
 refine vS (vX ?_)
 refine rF (b:=w.heap.size) (o:=0) (by simp (disch:=(try simp only[sP]);omega) only[eV,hf.s4]) (qn H.fFld (by decide)) ?_
 refine rL (b:=w.heap.size) (o:=0+0) zE H.oInt k0 ?_
 refine xG (k:=.i64) (m:=(kind:Int)) (n:=11) zE rfl ?_
 refine dn ?_
 refine vS (vC (t:=((kind:Int)==11)) zM ?_ ?_)
 ·intro h11
  have h11':kind=11:=by simp only[beq_iff_eq] at h11;omega
  subst h11'
  have hwr:=SF.wr_list (fx:=fx) nl hnl _ rfl
  have hwr':(SF.mk ((11:Nat):Int) fr to nul tag df (el:Int) sub).wr ver fx (.mk n s tnl l u)=_:=hwr
  rw[hwr'] at hbig ⊢
  refine s_fieldL (w:=w) (U:=U) (b:=w.heap.size) (ts:=ts) (cs:=cs) (nl:=nl) H HT hz8 ?_ hr hrt hU hel hp rfl hbig (fun _ _ _ _ h=>False.elim h) (fun _ _ h=>h)
  repeat (refine FFr.put ?_ _ zH)
  exact hf
 ·intro h11
  have h11':kind≠11:=by simp only[beq_eq_false_iff_ne,ne_eq] at h11;omega
  refine vK (vN ?_)
  generalize hB:Act.put _ (some 19) _=B
  have hfB:FFr P E w U ver fx nl cs ts w.heap.size B w3:=by
   rw[← hB]
   repeat (refine FFr.put ?_ _ zH)
   exact hf
  clear hB
  have hsB:=hfB.size
  refine vS (vS (yF [0,1,2,3,4,5,6,7] rfl ?_))
  refine rD rfl (wN rfl) (rF (b:=w.heap.size) (o:=0) (by simp (disch:=(try simp only[sP]);omega) only[eV,hfB.s4]) (qn H.fFld (by decide)) (dn (rT ?_)))
  refine rD rfl (wN rfl) (rL (b:=w.heap.size) (o:=0+0) zE H.oInt k0 (dn (rT ?_)))
  refine rD rfl (wN rfl) (xG (k:=.i64) (m:=(kind:Int)) (n:=10) zE rfl (dn (rT ?_)))
  (refine rD rfl (wN rfl) ?_;refine rM ?_;refine dn (rT ?_))
  have fin:∀ (C:Act),FFr P E w U ver fx nl cs ts w.heap.size C w3->¬ (kind=10/\nul ≥ 0)->∀ Q:Exit->Act->World->Prop,(∀ a' w',Out P #[.tmp 8] (fun v w'=>w'.ownsRow U E.tU8 1 v ((SF.mk (kind:Int) fr to nul tag df (el:Int) sub).wr ver fx (.mk n s tnl l u)).length (((SF.mk (kind:Int) fr to nul tag df (el:Int) sub).wr ver fx (.mk n s tnl l u)).map bv)/\Below U w w') .ret a' w'->Q .ret a' w')->vc P (sq [(rg [(qF 67 E.tFld 4 0),
   (qL 68 67 E.tI),
   (qF 69 E.tFld 4 7),
   (qL 70 69 E.tFlds),
   (qM 71 9 E.tO),
   (qM 72 1 E.tI),
   (qM 73 2 E.tO),
   (qL 74 7 E.tT),
   (oQ 75 (qC E.sValue #[(.tmp 68),(.tmp 70),(.tmp 71),(.tmp 72),(.tmp 73),(.tmp 74)] #[E.tI,E.tFlds,E.tO,E.tI,E.tO,E.tT]) E.tB),
   (qA 8 75 E.tB)]),.ret]) Q C w3:=by
   intro C hfC hno Q hQ
   have hwr:=SF.wr_val (v:=ver) (fx:=fx) (fr:=fr) (to:=to) (nul:=nul) (tag:=tag) (df:=df) (el:=(el:Int)) (sub:=sub) (t:=.mk n s tnl l u) (kind:=(kind:Int)) zH zH
   rw[hnl] at hwr
   rw[hwr] at hbig hQ
   exact s_fieldV H HT hz8 hfC hr hrt hU zH (fun _=>hp) hbig hQ
  by_cases h10:kind=10
  ·subst h10
   refine rD rfl (by rw[wS (b:=true) rfl rfl zM];rfl) (rF (b:=w.heap.size) (o:=0) (by simp (disch:=(try simp only[sP]);omega) only[eV,hfB.s4]) (qn H.fFld (by decide)) (dn (rT ?_)))
   refine rD rfl (by rw[wS (b:=true) rfl rfl zM];rfl) (rL (b:=w.heap.size) (o:=0+3) zE H.oInt k3 (dn (rT ?_)))
   refine rD rfl (by rw[wS (b:=true) rfl rfl zM];rfl) (yw (k:=.i64) (m:=nul) (n:=0) zE rfl (dn (rT ?_)))
   (refine rD rfl (wN rfl) ?_;(refine xf ?_ ?_;(try simp (disch:=(try simp only[sP]);omega) only[eV])<;>(first | rfl | assumption));refine dn (rT ?_))
   refine qx ?_
   refine vS (vC (t:=decide (nul ≥ 0)) zM ?_ ?_)
   ·intro h0
    have h0':nul ≥ 0:=by simpa using h0
    have hwr:=SF.wr_null (v:=ver) (fx:=fx) (fr:=fr) (to:=to) (tag:=tag) (df:=df) (el:=(el:Int)) (sub:=sub) (t:=.mk n s tnl l u) h0'
    have hnl':(SF.mk 10 fr to nul tag df (el:Int) sub).isNull ver (.mk n s tnl l u)=nl:=hnl
    rw[hnl'] at hwr
    have hwr':(SF.mk ((10:Nat):Int) fr to nul tag df (el:Int) sub).wr ver fx (.mk n s tnl l u)=_:=hwr
    rw[hwr'] at hbig ⊢
    refine s_fieldN (w:=w) (U:=U) (b:=w.heap.size) (ts:=ts) (cs:=cs) (nl:=nl) (t:=.mk n s tnl l u) H HT ?_ hr hrt hU hp hbig (fun _ _ _ _ h=>False.elim h) (fun _ _ h=>h)
    repeat (refine FFr.put ?_ _ zH)
    exact hfB
   ·intro h0
    have h0':¬ nul ≥ 0:=by simpa using h0
    refine vK (vN ?_)
    refine fin _ ?_ (fun h=>h0' h.2) _ (fun _ _ h=>h)
    repeat (refine FFr.put ?_ _ zH)
    exact hfB
  ·have hb10:((kind:Int)==10)=false:=by simp only[beq_eq_false_iff_ne,ne_eq];omega
   rw[hb10]
   (refine x7 rfl (by rw[wS (b:=false) rfl rfl zM];rfl) ?_)
   (refine x7 rfl (by rw[wS (b:=false) rfl rfl zM];rfl) ?_)
   (refine x7 rfl (by rw[wS (b:=false) rfl rfl zM];rfl) ?_)
   (refine rD rfl (wN rfl) ?_;(refine xE ?_ ?_;(try exact zE)<;>(first | rfl | assumption));refine dn (rT ?_))
   refine qx ?_
   refine vS (vC (t:=false) zM (fun h=>by cases h) ?_)
   intro _
   refine vK (vN ?_)
   refine fin _ ?_ (fun h=>h10 h.1) _ (fun _ _ h=>h)
   repeat (refine FFr.put ?_ _ zH)
   exact hfB
theorem SFs.tags_len:∀ fs:SFs,fs.tags.length=fs.len
 | .nil=>rfl
 | .cons (.mk _ _ _ _ _ _ _ _) r=>by simp[SFs.tags,SFs.len,SFs.tags_len r]
def SF.tag:SF->Int
 | .mk _ _ _ _ tag _ _ _=>tag
theorem SFs.tags_get:∀ (fs:SFs) (i:Nat) (f:SF),fs.get i=some f->fs.tags[i]? = some f.tag
 | .nil,_,_,h=>by cases h
 | .cons (.mk _ _ _ _ tag _ _ _) r,0,f,h=>by simp only[SFs.get,Option.some.injEq] at h;subst h;rfl
 | .cons (.mk _ _ _ _ tag _ _ _) r,i+1,f,h=>by simpa [SFs.tags] using SFs.tags_get r i f h
theorem known_succ (l:List Int) (i:Nat) (h:i<l.length):known (l.take (i+1))=if 0<=l[i] then max (known (l.take i)) (l[i].toNat+1) else known (l.take i):=by
 unfold known
 rw[List.take_succ_eq_append_getElem h,List.foldl_append]
 rfl
theorem known_lt (l:List Int) (h:∀ t ∈ l,t<(B:Int)):known l<=B:=by
 unfold known
 have:∀ (l:List Int) (n:Nat),n<=B->(∀ t ∈ l,t<(B:Int))->l.foldl (fun n t=>if 0<=t then max n (t.toNat+1) else n) n<=B:=by
  intro l
  induction l with
  | nil=>exact fun n hn _=>hn
  | cons t r ih =>
   intro n hn h
   refine ih _ ?_ (fun x hx=>h x (by simp[hx]))
   have:=h t zS
   show (if 0<=t then max n (t.toNat+1) else n)<=B
   split<;>omega
 exact this l 0 (Nat.zero_le _) h
theorem r_max {d x y t ty p af g k m n} (hx:a.eval x=.int k m) (hy:a.eval y=.int k n) (h:rO_ P Q r (a.put (some d) (.int k (if n>m then n else m))) w):
  rO_ P Q (⟨some d,.call { callee:=.builtin .max,args:=#[x,y],argTypes:=t },ty,p,af,g⟩::r) a w:=by
 refine st ?_
 have hr:(Builtin.max_ t ty #[a.eval x,a.eval y]).run P w=.ok (.int k (if n>m then n else m)) w:=by
  rw[hx,hy]
  simp[Builtin.max_,Builtin.max2]
 simp only[Oper.wp,execOp,resolve,invoke,builtin,Sem.run_bind,Sem.run_pure,Result.andThen_ok,List.map_toArray,List.map_cons,List.map_nil,hr,Oper.upon_value]
 exact h
theorem s_known (H:SEnv P E) (HL:SLay P E) (HT:STexts P E) {fs:SFs} {sv:Value} (hsf:SlF w U sv fs) (hU:U<=w.heap.size) (htg:∀ t ∈ fs.tags,t<65536) (hlen:fs.len<=big):
  qa P E.sKnown #[sv] w fun v w'=>v=.int .u32 (known fs.tags:Nat)/\Below U w w':=by
 unfold big at hlen
 refine qa.enter HT.known zS ?_
 intro a hsz hdf harg
 have e0:=harg 0 sv zS
 obtain ⟨ad,cap,hsv,hget⟩:∃ ad cap,sv=.slice ad fs.len cap/\∀ i f,fs.get i=some f->i<fs.len->∃ q o c,ad=some ⟨q,o,none⟩/\q<U/\qb w q (o+i*8) c/\f.Rep w U c:=by
  rcases hsf with ⟨rfl,h0⟩ | ⟨q,o,cap,rfl,_,hq,hrep⟩
  ·exact ⟨none,0,by rw[h0],fun i f _ hi=>by omega⟩
  ·refine ⟨_,cap,rfl,fun i f hf _=>?_⟩
   obtain ⟨c,h1,h2⟩:=hrep.get hf
   exact ⟨q,o,c,rfl,hq,h1,h2⟩
 obtain ⟨z,hz,hzc⟩:=xO HL.fld
 unfold c_sKnown
 refine vX (rA (dn (vX (rA (dn (vS (vX (rM ?_))))))))
 refine xh (ad:=ad) (n:=fs.len) (c:=cap) H.sFlds (by simp (disch:=(try simp only[sP]);omega) only[eV,e0,hsv]) ?_
 refine rM (dn ?_)
 refine vS (qk (xZ (fun m A W=>m<=fs.len/\A.tmps.size=23/\A.defers=[]/\A.eval (.tmp 6)=sv/\A.eval (.tmp 7)=.int .i64 (fs.len:Int)/\A.eval (.tmp 8)=.int .i64 ((fs.len-m:Nat):Int)/\A.eval (.tmp 3)=.int .u32 (known (fs.tags.take (fs.len-m)):Nat)/\Below U w W) fs.len ?_ ?_ ?_))
 ·refine ⟨Nat.le_refl _,by simp only[zP];exact hsz,by simp only[dF];exact hdf,zA,zE,?_,?_,Below.refl _ _⟩
  ·simp (disch:=(try simp only[sP]);omega) only[eV]
   simp
  ·simp (disch:=(try simp only[sP]);omega) only[eV]
   simp[known]
 ·rintro m A W ⟨hm,hs,hd,g6,g7,g8,g3,hb⟩
  have hi:fs.len-(m+1)<fs.len:=by omega
  have him:fs.len-m=(fs.len-(m+1))+1:=by omega
  rw[him]
  generalize hii:fs.len-(m+1)=i at *
  obtain ⟨f,hf⟩:=SFs.get_lt fs i hi
  obtain ⟨q,o,c,rfl,hq,hc,hrc⟩:=hget i f hf hi
  have htag:=SFs.tags_get fs i f hf
  have hil:i<fs.tags.length:=by rw[SFs.tags_len];exact hi
  have htag':fs.tags[i]=f.tag:=by rw[List.getElem?_eq_getElem hil] at htag;exact Option.some.inj htag
  have hks:=known_succ fs.tags i hil
  rw[htag'] at hks
  have htb:f.tag<65536:=htg f.tag (by rw[← htag'];exact List.getElem_mem hil)
  have hkb:known (fs.tags.take i)<=65536:=known_lt (B:=65536) _ (fun t ht=>htg t (List.mem_of_mem_take ht))
  have hUW:U<=W.heap.size:=Nat.le_trans hU hb.size
  refine vX ?_
  refine xm (k:=.i64) (m:=(i:Int)) (n:=(fs.len:Int)) g8 g7 ?_
  refine dn ?_
  refine vS (vC (t:=true) ?_ ?_ (fun h=>by cases h))
  ·simp (disch:=(try simp only[sP]);omega) only[eV]
   simp only[Value.bool.injEq,decide_eq_true_eq]
   omega
  intro _
  refine vK ?_
  refine vS (qk (vX ?_))
  refine qH (k:=.i64) (j:=i) (b:=q) (o:=o) (len:=fs.len) (cap:=cap) H.sFlds (by simp (disch:=(try simp only[sP]);omega) only[eV,g6,hsv]) zA hi ?_
  refine qf (b:=q) (o:=o+i*8) (cs:=c) zE (by rw[hrc.len];exact H.aFld) (hc.below hb hq) ?_
  refine qR hz ?_
  refine qy (b:=W.heap.size) (o:=0) (cs:=c) zE zE hrc.one (by rw[hrc.len];exact H.aFld) ?_ ?_
  ·intro j hj
   rw[Nat.zero_add]
   exact qq W _ _ (by rw[hzc];rw[hrc.len] at hj;simpa using hj)
  refine dn ?_
  have hc4:(setCells (W.alloc (.cells z.cells E.tFld)) W.heap.size 0 c).cell? ⟨W.heap.size,0+4,none⟩=some (.int .i64 f.tag):=by
   refine qg W.heap.size c _ 0 (fun j hj=>?_) 4 _ ?_
   ·rw[Nat.zero_add]
    exact (qq W z.cells E.tFld (by rw[hzc];rw[hrc.len] at hj;simpa using hj)).1
   ·cases f with
    | mk=>obtain ⟨sv2,rfl,_⟩:=hrc;rfl
  have hb2:Below U w (setCells (W.alloc (.cells z.cells E.tFld)) W.heap.size 0 c):=by
   refine hb.trans (((Below.refl U W).alloc (o:=.cells _ _) hUW).trans ((qe W.heap.size c _ 0).below (by simp;omega) (by rintro k i hk ⟨rfl,_,_⟩;omega)))
  generalize setCells (W.alloc (.cells z.cells E.tFld)) W.heap.size 0 c=W2 at hc4 hb2 ⊢
  have fin:∀ (B:Act) (k:Nat),B.tmps.size=23->B.defers=[]->B.eval (.tmp 6)=sv->B.eval (.tmp 7)=.int .i64 (fs.len:Int)->B.eval (.tmp 8)=.int .i64 (i:Int)->B.eval (.tmp 3)=.int .u32 (k:Int)->k=known (fs.tags.take (i+1))->∀ Q:Exit->Act->World->Prop,
    (∀ A' ,m<=fs.len/\A'.tmps.size=23/\A'.defers=[]/\A'.eval (.tmp 6)=sv/\A'.eval (.tmp 7)=.int .i64 (fs.len:Int)/\A'.eval (.tmp 8)=.int .i64 ((i+1:Nat):Int)/\A'.eval (.tmp 3)=.int .u32 (known (fs.tags.take (i+1)):Nat)/\Below U w W2->Q .normal A' W2) →
    vc P (sq [(rg [(qK 21 .add E.tI 8 1 E.tI),(qM 8 21 E.tI)])]) Q B W2:=by
   intro B k b1 b2 b6 b7 b8 b3 hk Q hQ
   refine vR zS ?_
   refine z8 (k:=.i64) (m:=(i:Int)) (n:=1) zA rfl ?_
   refine rM (dn ?_)
   refine hQ _ ⟨by omega,by simp only[zP];exact b1,by simp only[dF];exact b2,zA,zA,?_,?_,hb2⟩
   ·simp (disch:=(try simp only[sP]);omega) only[eV]
    rw[wrap_i64 zH zH]
    rfl
   ·simp (disch:=(try simp only[sP]);omega) only[eV,b3]
    rw[hk]
  refine vX ?_
  refine rF (b:=W.heap.size) (o:=0) zE (qn H.fFld (by decide)) ?_
  refine rL (b:=W.heap.size) (o:=0+4) zE H.oInt hc4 ?_
  refine yw (k:=.i64) (m:=f.tag) (n:=0) zE rfl ?_
  refine dn ?_
  refine vS (vC (t:=decide (f.tag ≥ 0)) zM ?_ ?_)
  ·intro h0
   have h0':0<=f.tag:=by simpa using h0
   refine vR zS ?_
   refine rM ?_
   refine rF (b:=W.heap.size) (o:=0) zE (qn H.fFld (by decide)) ?_
   refine rL (b:=W.heap.size) (o:=0+4) zE H.oInt hc4 ?_
   refine qY (k:=.i64) (k':=.u32) (m:=f.tag) H.int H.u32 zE ?_
   have hw1:IntKind.u32.wrap f.tag=f.tag:=by rw[kc];omega
   rw[hw1]
   refine z8 (k:=.u32) (m:=f.tag) (n:=1) zE rfl ?_
   have hw2:IntKind.u32.wrap (f.tag+1)=((f.tag.toNat+1:Nat):Int):=by rw[kc];omega
   rw[hw2]
   refine r_max (k:=.u32) (m:=((known (fs.tags.take i):Nat):Int)) (n:=((f.tag.toNat+1:Nat):Int)) zA zE ?_
   refine rA (dn (vN ?_))
   refine fin _ (max (known (fs.tags.take i)) (f.tag.toNat+1)) (by simp only[zP];exact hs) (by simp only[dF];exact hd) zA zA zA ?_ (by rw[hks,if_pos h0']) _ (fun A' h=>h)
   simp (disch:=(try simp only[sP]);omega) only[eV]
   congr 1
   split<;>omega
  ·intro h0
   have h0':¬ 0<=f.tag:=by simpa using h0
   refine vK (vN ?_)
   exact fin _ (known (fs.tags.take i)) (by simp only[zP];exact hs) (by simp only[dF];exact hd) zA zA zA zA (by rw[hks,if_neg h0']) _ (fun A' h=>h)
 ·rintro A W ⟨hm,hs,hd,g6,g7,g8,g3,hb⟩
  refine vX ?_
  refine xm (k:=.i64) (m:=((fs.len-0:Nat):Int)) (n:=(fs.len:Int)) g8 g7 ?_
  refine dn ?_
  refine vS (vC (t:=false) ?_ (fun h=>by cases h) ?_)
  ·simp (disch:=(try simp only[sP]);omega) only[eV]
   simp only[Value.bool.injEq,decide_eq_false_iff_not]
   omega
  intro _
  refine xp ?_
  simp only[Exit.then,Exit.inBlock,if_true]
  refine vN (vX (rM (rA (dn (vS (vT ?_))))))
  rw[Nat.sub_zero,← SFs.tags_len,List.take_length] at g3
  exact ⟨by simp only[dF];exact hd,_,rO zA,rfl,hb⟩
theorem s_write (H:SEnv P E) (HL:SLay P E) (HT:STexts P E) (hoM:offs P E.tMsg 2=true) {fs:SFs} {sv:Value} {flex ver:Int} {t:Tr} (hsf:SlF w U sv fs) (hr:t.Rep w U ts) (hU:U<=w.heap.size) (hp:pg P E ver (decide (flex ≥ 0)&&decide (ver ≥ flex)) fs) (hbig:(fs.part ver (decide (flex ≥ 0)&&decide (ver ≥ flex)) t).length<=big):
  vL P E E.sWrite U #[.agg [sv,.int .i64 flex].toArray,.int .i64 ver,.agg ts.toArray] (fs.part ver (decide (flex ≥ 0)&&decide (ver ≥ flex)) t) w:=by
 refine qa.enter HT.write zS ?_
 intro a hsz hdf harg
 have e0:=harg 0 (.agg [sv,.int .i64 flex].toArray) zS
 have e1:=harg 1 (.int .i64 ver) zS
 have e2:=harg 2 (.agg ts.toArray) zS
 unfold c_sWrite
 refine vX ?_
 refine xN (v:=.agg [sv,.int .i64 flex].toArray) zA ?_
 refine xN (v:=.agg ts.toArray) zA ?_
 refine rA (dn ?_)
 generalize hw1:w.alloc (.cells (Value.agg [sv,.int .i64 flex].toArray).cells E.tMsg)=w1
 have hb1:Below U w w1:=by rw[← hw1];exact (Below.refl U w).alloc (o:=.cells _ _) hU
 have hz1:w1.heap.size=w.heap.size+1:=by rw[← hw1];simp
 have c1:qb w1 w.heap.size 0 [sv,.int .i64 flex]:=by
  intro i v hv
  rw[← hw1,Nat.zero_add]
  exact qm w _ E.tMsg (by simpa [Value.cells] using hv)
 clear hw1
 generalize hw2:w1.alloc (.cells (Value.agg ts.toArray).cells E.tT)=W
 have hb2:Below U w W:=by rw[← hw2];exact hb1.trans ((Below.refl U w1).alloc (o:=.cells _ _) zH)
 have d1:qb W w.heap.size 0 [sv,.int .i64 flex]:=by rw[← hw2];exact c1.eff (Eff.refl (fun _ _=>False) w1 |>.alloc _) (fun _ _ h=>h)
 have d2:qb W w1.heap.size 0 ts:=by
  intro i v hv
  rw[← hw2,Nat.zero_add]
  exact qm w1 _ E.tT (by simpa [Value.cells] using hv)
 clear hw2
 have k0:W.cell? ⟨w.heap.size,0+0,none⟩=some sv:=d1 0 sv rfl
 have k1:W.cell? ⟨w.heap.size,0+1,none⟩=some (.int .i64 flex):=d1 1 _ rfl
 have hUW:U<=W.heap.size:=Nat.le_trans hU hb2.size
 refine vS (yF [0,1,2,3,4,5,6,7,8,9,10,11,12,13,14] rfl ?_)
 refine rD rfl (wN rfl) (rF (b:=w.heap.size) (o:=0) zE (qn hoM (by decide)) (dn (rT ?_)))
 refine rD rfl (wN rfl) (rL (b:=w.heap.size) (o:=0+0) zE H.oFlds k0 (dn (rT ?_)))
 (refine rD rfl (wN rfl) ?_;refine rM ?_;refine dn (rT ?_))
 refine rD rfl (wN rfl) (rF (b:=w.heap.size) (o:=0) zE (qn hoM (by decide)) (dn (rT ?_)))
 refine rD rfl (wN rfl) (rL (b:=w.heap.size) (o:=0+1) zE H.oInt k1 (dn (rT ?_)))
 refine rD rfl (wN rfl) (yw (k:=.i64) (m:=flex) (n:=0) zE rfl (dn (rT ?_)))
 (refine rD rfl (wN rfl) ?_;refine rM ?_;refine dn (rT ?_))
 by_cases h0:flex ≥ 0
 ·have g0:decide (flex ≥ 0)=true:=by simpa using h0
  rw[g0,Bool.true_and] at hp hbig ⊢
  (refine rD rfl (by rw[wS (b:=true) rfl rfl zM];rfl) ?_;refine rM ?_;refine dn (rT ?_))
  refine rD rfl (by rw[wS (b:=true) rfl rfl zM];rfl) (rF (b:=w.heap.size) (o:=0) zE (qn hoM (by decide)) (dn (rT ?_)))
  refine rD rfl (by rw[wS (b:=true) rfl rfl zM];rfl) (rL (b:=w.heap.size) (o:=0+1) zE H.oInt k1 (dn (rT ?_)))
  refine rD rfl (by rw[wS (b:=true) rfl rfl zM];rfl) (yw (k:=.i64) (m:=ver) (n:=flex) zA zE (dn (rT ?_)))
  (refine rD rfl (wN rfl) ?_;(refine xf ?_ ?_;(try exact zE)<;>(first | rfl | assumption));refine dn (rT ?_))
  refine rD rfl (wN rfl) (qf (b:=w1.heap.size) (o:=0) (cs:=ts) zE (by rw[hr.len];exact H.aTree) d2 (dn (rT ?_)))
  refine rD rfl (wN rfl) ?_
  refine q8 (args:=#[sv,.int .i64 ver,.bool (decide (ver ≥ flex)),.agg ts.toArray]) ?_ (hp U W sv t ts hUW (hsf.below hb2) (hr.below hb2) hbig) ?_
  ·simp only[lM]
   simp (disch:=(try simp only[sP]);omega) only[eV,e1]
  rintro v w2 ⟨h1,h2⟩
  refine dn (rT ?_)
  (refine rD rfl (wN rfl) ?_;refine rA ?_;refine dn (rT ?_))
  refine qx ?_
  refine vT ?_
  exact ⟨by simp only[dF];exact hdf,v,rO zE,h1,hb2.trans h2⟩
 ·have g0:decide (flex ≥ 0)=false:=by simpa using h0
  rw[g0,Bool.false_and] at hp hbig ⊢
  (refine x7 rfl (by rw[wS (b:=false) rfl rfl zM];rfl) ?_)
  (refine x7 rfl (by rw[wS (b:=false) rfl rfl zM];rfl) ?_)
  (refine x7 rfl (by rw[wS (b:=false) rfl rfl zM];rfl) ?_)
  (refine x7 rfl (by rw[wS (b:=false) rfl rfl zM];rfl) ?_)
  (refine rD rfl (wN rfl) ?_;(refine xE ?_ ?_;(try exact zE)<;>(first | rfl | assumption));refine dn (rT ?_))
  refine rD rfl (wN rfl) (qf (b:=w1.heap.size) (o:=0) (cs:=ts) zE (by rw[hr.len];exact H.aTree) d2 (dn (rT ?_)))
  refine rD rfl (wN rfl) ?_
  refine q8 (args:=#[sv,.int .i64 ver,.bool false,.agg ts.toArray]) ?_ (hp U W sv t ts hUW (hsf.below hb2) (hr.below hb2) hbig) ?_
  ·simp only[lM]
   simp (disch:=(try simp only[sP]);omega) only[eV,e1]
  rintro v w2 ⟨h1,h2⟩
  refine dn (rT ?_)
  (refine rD rfl (wN rfl) ?_;refine rA ?_;refine dn (rT ?_))
  refine qx ?_
  refine vT ?_
  exact ⟨by simp only[dF];exact hdf,v,rO zE,h1,hb2.trans h2⟩
def UnkC (P:Program) (E:Env):Prop :=
 ∀ (U:Nat) (w:World) (sv uv:Value) (fs:SFs) (u:List (Nat × List UInt8)),U<=w.heap.size->SlF w U sv fs->(∀ t ∈ fs.tags,t<65536)->fs.len<=big->yh w U uv u →
  qa P E.sUnknown #[sv,uv] w fun v w'=>yh w' w'.heap.size v (unk (known fs.tags) u)/\Below U w w'
theorem insU_len (x:Nat × List UInt8):∀ l,(zL x l).length<=l.length+1
 | []=>by simp[zL]
 | y::r=>by
  have:=insU_len x r
  unfold zL
  split
  ·simp;exact this
  ·split<;>simp
theorem unk_len (least:Nat) (u:List (Nat × List UInt8)):(unk least u).length<=32767:=by
 unfold unk
 have:∀ (v l:List (Nat × List UInt8)),(v.foldl (fun l x=>if x.1<least then l else zL x l) l).length<=l.length+v.length:=by
  intro v
  induction v with
  | nil=>exact fun l=>Nat.le_refl _
  | cons x r ih =>
   intro l
   refine Nat.le_trans (ih _) ?_
   have:=insU_len x l
   show (if x.1<least then l else zL x l).length+r.length<=_
   rw[List.length_cons]
   split<;>omega
 refine Nat.le_trans (this _ _) ?_
 rw[List.length_take,List.length_nil]
 omega
theorem yh.form (h:yh w U v u):∃ ad cap,v=.slice ad u.length cap:=by
 rcases h with ⟨⟨_,_,rfl⟩,rfl⟩ | ⟨q,o,cap,rfl,_⟩<;>exact ⟨_,_,rfl⟩
theorem rowB_zero {t:TypeId} {s:Nat} (h:xo P t e s=true):∃ z,qQ P e=some z/\z.cells.size=s:=by
 obtain ⟨_,i,z,hi,_,_,hz,hzs,_⟩:=xW h
 exact ⟨z,by simp[qQ,hi,hz],hzs⟩
theorem zb {s:Nat} {n:Nat} (h:w.ownsRow B e s v n xs) {g:Nat} (hg:v.ownBlock=some g):g<w.heap.size:=by
 rcases h.2 with ⟨rfl,_⟩ | ⟨g',cap,cur,rfl,_,h3,_⟩
 ·cases hg
 ·simp only[Value.ownBlock,Option.some.injEq] at hg
  subst hg
  exact (Array.getElem?_eq_some_iff.1 h3).1
theorem own_grown {s:Nat} {v2:Value} {n:Nat} (h:w.ownsRow B e s v n xs) (hg:w.grownBy w' v2.ownBlock) (hne:∀ g,v2.ownBlock=some g->g<B):w'.ownsRow B e s v n xs:=by
 refine ⟨h.1,?_⟩
 rcases h.2 with h | ⟨g,cap,cur,h1,h2,h3,h4⟩
 ·exact .inl h
 ·have hl:g<w.heap.size:=(Array.getElem?_eq_some_iff.1 h3).1
  exact .inr ⟨g,cap,cur,h1,h2,by rw[hg.block g hl (fun he=>by have:=hne g he.symm;omega)];exact h3,h4⟩
theorem qb.grown {row:Option Nat} (h:qb w b o cs) (hg:w.grownBy w' row) (hb:b<w.heap.size) (hne:some b≠row):qb w' b o cs:=by
 intro i v hv
 have:=h i v hv
 have e:w'.heap[b]? = w.heap[b]?:=hg.block b hb hne
 simp only[World.cell?] at this ⊢
 rw[e]
 exact this
theorem jh {d s x t tx ty p af g e sz U v n xs u m news} (hB:xo P t e sz=true) (hs:a.eval s=v) (hx:a.eval x=u) (hown:w.ownsRow U e sz v n xs) (hU:U<=w.heap.size) (hsrc:Src P sz tx u m news w) (hb:n+m<=big) (h:∀ v' w',w'.ownsRow U e sz v' (n+m) (xs++news)->Below U w w'->w.grownBy w' v.ownBlock->(∀ g,v'.ownBlock=some g->v.ownBlock=some g\/w.heap.size<=g)->rO_ P Q r (a.put (some d) v') w'):
  rO_ P Q (⟨some d,.call { callee:=.builtin .append,args:=#[s,x],argTypes:=#[t,tx] },ty,p,af,g⟩::r) a w:=by
 refine st ?_
 obtain ⟨v',w',hr,h1,h2,h3⟩:=jE w U t tx ty e sz hB v n xs hown u m news hsrc hb hU
 subst hs;subst hx
 simp only[Oper.wp,execOp,resolve,invoke,builtin,Sem.run_bind,Sem.run_pure,Result.andThen_ok,List.map_toArray,List.map_cons,List.map_nil,hr,Oper.upon_value]
 exact h v' w' h1 (kb hown h2 hU) h2 h3
theorem SFs.recs_len (v:Int) (fx:Bool):∀ (fs:SFs) (k:Nat) (t:Tr),(fs.recs v fx k t).length=fs.len
 | .nil,_,_=>by simp[SFs.recs,SFs.len]
 | .cons f r,k,t=>by simp[SFs.recs,SFs.len,SFs.recs_len v fx r]
theorem SFs.recs_get (v:Int) (fx:Bool):∀ (fs:SFs) (k i:Nat) (t:Tr) (f:SF),fs.get i=some f->(fs.recs v fx k t)[i]? = some (f.tag,f.has v,f.usual (t.at (k+i)),f.wr v fx (t.at (k+i)))
 | .nil,_,_,_,_,h=>by cases h
 | .cons (.mk _ _ _ _ _ _ _ _) r,k,0,t,f,h=>by
  simp only[SFs.get,Option.some.injEq] at h
  subst h
  simp[SFs.recs,SF.tag]
 | .cons (.mk _ _ _ _ _ _ _ _) r,k,i+1,t,f,h=>by
  simp only[SFs.get] at h
  have:=SFs.recs_get v fx r (k+1) i t f h
  rw[show k+1+i=k+(i+1) by omega] at this
  simpa [SFs.recs] using this
theorem SFs.recs_tags (v:Int) (fx:Bool):∀ (fs:SFs) (k:Nat) (t:Tr),(fs.recs v fx k t).map (·.1)=fs.tags
 | .nil,_,_=>by simp[SFs.recs,SFs.tags]
 | .cons (.mk _ _ _ _ _ _ _ _) r,k,t=>by simp[SFs.recs,SFs.tags,SFs.recs_tags v fx r]
def Rec.out (r:Rec):List UInt8:=if r.1<0&&r.2.1 then r.2.2.2 else []
def Tr.tags:Tr->List (Nat × List UInt8)
 | .mk _ _ _ _ u=>u
def pos (x:Nat) (l:List (Nat × List UInt8)):Nat:=(l.takeWhile fun y=>decide (y.1<x)).length
theorem kh {x:Nat} {y:Nat × List UInt8} {r:List (Nat × List UInt8)} (h:y.1<x):pos x (y::r)=pos x r+1:=by
 simp[pos,List.takeWhile_cons,h]
theorem ya {x:Nat} {y:Nat × List UInt8} {r:List (Nat × List UInt8)} (h:¬ y.1<x):pos x (y::r)=0:=by
 simp[pos,List.takeWhile_cons,h]
theorem pos_le (x:Nat):∀ l,pos x l<=l.length
 | []=>by simp[pos]
 | y::r=>by
  by_cases h:y.1<x
  ·rw[kh h,List.length_cons];have:=pos_le x r;omega
  ·rw[ya h];omega
theorem pos_lt (x:Nat):∀ (l:List (Nat × List UInt8)) (i:Nat) (h:i<l.length),i<pos x l->l[i].1<x
 | [],i,h,_=>by simp at h
 | y::r,i,h,hp=>by
  by_cases hy:y.1<x
  ·cases i with
   | zero=>exact hy
   | succ i =>
    rw[kh hy] at hp
    simpa using pos_lt x r i (by simpa using h) zH
  ·rw[ya hy] at hp;omega
theorem pos_at (x:Nat):∀ (l:List (Nat × List UInt8)) (h:pos x l<l.length),¬ l[pos x l].1<x
 | [],h=>by simp at h
 | y::r,h=>by
  by_cases hy:y.1<x
  ·have h':pos x r<r.length:=by rw[kh hy] at h;simpa using h
   have:=pos_at x r h'
   simp only[kh hy,List.getElem_cons_succ]
   exact this
  ·simp only[ya hy,List.getElem_cons_zero]
   exact hy
theorem insU_pos (x:Nat × List UInt8):∀ l:List (Nat × List UInt8),zL x l=if (l[pos x.1 l]?).map (·.1)=some x.1 then l else l.take (pos x.1 l)++x::l.drop (pos x.1 l)
 | []=>by simp[zL,pos]
 | y::r=>by
  have ih:=insU_pos x r
  unfold zL
  by_cases hy:y.1<x.1
  ·rw[if_pos hy,ih,kh hy]
   simp only[List.getElem?_cons_succ,List.take_succ_cons,List.drop_succ_cons,List.cons_append]
   split<;>rfl
  ·rw[if_neg hy,ya hy]
   simp only[List.getElem?_cons_zero,Option.map_some,Option.some.injEq,List.take_zero,List.drop_zero,List.nil_append]
abbrev UE:=(Nat × List UInt8) × Value
def fl:List UE->List Value
 | []=>[]
 | e::r=>.int .u32 (e.1.1:Int)::e.2::fl r
theorem fl_len:∀ l,(fl l).length=l.length*2
 | []=>rfl
 | e::r=>by simp[fl,fl_len r];omega
theorem fl_app:∀ a b:List UE,fl (a++b)=fl a++fl b
 | [],b=>rfl
 | e::r,b=>by simp[fl,fl_app r b]
theorem fl_get0:∀ (l:List UE) (i:Nat) (e:UE),l[i]? = some e->(fl l)[i*2]? = some (.int .u32 (e.1.1:Int))
 | [],i,e,h=>by simp at h
 | x::r,0,e,h=>by simp at h;subst h;rfl
 | x::r,i+1,e,h=>by
  have:=fl_get0 r i e (by simpa using h)
  rw[show (i+1)*2=i*2+1+1 by omega]
  simpa [fl] using this
theorem fl_get1:∀ (l:List UE) (i:Nat) (e:UE),l[i]? = some e->(fl l)[i*2+1]? = some e.2
 | [],i,e,h=>by simp at h
 | x::r,0,e,h=>by simp at h;subst h;rfl
 | x::r,i+1,e,h=>by
  have:=fl_get1 r i e (by simpa using h)
  rw[show (i+1)*2+1=i*2+1+1+1 by omega]
  simpa [fl] using this
theorem fl_set:∀ (l:List UE) (i:Nat) (e:UE),i<l.length->((fl l).set (i*2) (.int .u32 (e.1.1:Int))).set (i*2+1) e.2=fl (l.set i e)
 | [],i,e,h=>by simp at h
 | x::r,0,e,h=>by simp[fl]
 | x::r,i+1,e,h=>by
  have:=fl_set r i e (by simpa using h)
  rw[show (i+1)*2=i*2+1+1 by omega]
  simpa [fl] using this
theorem shift_set (es:List UE) (k:Nat) (X:UE) (h:k<es.length):(es.take (k+1)++X::es.drop (k+1)).set (k+1) es[k]=es.take k++es[k]::es.drop k:=by
 have h1:(es.take (k+1)).length=k+1:=by simp;omega
 rw[List.set_append_right _ _ zH,h1,Nat.sub_self,List.set_cons_zero,List.take_succ_eq_append_getElem h,List.append_assoc]
 congr 1
 rw[List.drop_eq_getElem_cons h]
 rfl
theorem shift_get (es:List UE) (k:Nat) (X:UE) (h:k<es.length):(es.take (k+1)++X::es.drop (k+1))[k]? = some es[k]:=by
 rw[List.getElem?_append_left (by simp;omega),List.getElem?_take,if_pos zH,List.getElem?_eq_getElem h]
theorem put_set (es:List UE) (k:Nat) (X e:UE) (h:k<=es.length):(es.take k++X::es.drop k).set k e=es.take k++e::es.drop k:=by
 have h1:(es.take k).length=k:=by simp;omega
 rw[List.set_append_right _ _ zH,h1,Nat.sub_self,List.set_cons_zero]
theorem own_set2 {g n i:Nat} {l:List UE} {x:UE} (h:w.ownsRow B e 2 (.slice (some ⟨g,0,none⟩) n cap) n (fl l)) (hi:i<l.length):
  (setCells w g (i*2) [.int .u32 (x.1.1:Int),x.2]).ownsRow B e 2 (.slice (some ⟨g,0,none⟩) n cap) n (fl (l.set i x))/\Below B w (setCells w g (i*2) [.int .u32 (x.1.1:Int),x.2]):=by
 have h1:=h.stored (i*2) (.int .u32 (x.1.1:Int))
 have h2:=h1.1.stored (i*2+1) x.2
 rw[fl_set l i x hi] at h2
 refine ⟨h2.1,?_⟩
 have hb:B<=g:=(h.lt g rfl).1
 have k1:Below B w (w.setCell ⟨g,i*2,none⟩ (.int .u32 (x.1.1:Int))):=⟨h1.2.os,h1.2.tape,h1.2.output,h1.2.size,fun k hk=>by
  rcases Nat.lt_or_ge k w.heap.size with h3 | h3
  ·exact h1.2.block k h3 (by simp;omega)
  ·have hg:g<w.heap.size:=zb h rfl
   omega⟩
 refine k1.trans ⟨h2.2.os,h2.2.tape,h2.2.output,h2.2.size,fun k hk=>?_⟩
 have hg:g<w.heap.size:=zb h rfl
 have:=h1.2.size
 exact h2.2.block k zH (by simp;omega)
theorem own_free2 {g n j:Nat} {l:List UE} (h:w.ownsRow B e 2 (.slice (some ⟨g,0,none⟩) n cap) n (fl l)) (hj:j<n*2):qr w g j:=by
 refine ⟨?_,h.frozenAt j⟩
 rw[h.cellAt j hj]
 have:=h.1
 rw[List.getElem?_eq_getElem zH]
 rfl
theorem yR {g n i:Nat} {l:List UE} {x:UE} (h:w.ownsRow B e 2 (.slice (some ⟨g,0,none⟩) n cap) n (fl l)) (hx:l[i]? = some x):qb w g (i*2) [.int .u32 (x.1.1:Int),x.2]:=by
 have hl:=h.1
 rw[fl_len] at hl
 have hi:i<l.length:=by
  rcases Nat.lt_or_ge i l.length with h | h
  ·exact h
  ·rw[List.getElem?_eq_none h] at hx;cases hx
 intro j v hv
 match j,hv with
 | 0,hv =>
  simp only[List.getElem?_cons_zero,Option.some.injEq] at hv
  subst hv
  rw[Nat.add_zero,h.cellAt _ zH]
  exact fl_get0 l i x hx
 | 1,hv =>
  simp only[List.getElem?_cons_succ,List.getElem?_cons_zero,Option.some.injEq] at hv
  subst hv
  rw[h.cellAt _ zH]
  exact fl_get1 l i x hx
theorem kK {n:Nat} (h:w.ownsRow B e 2 v n xs):(v=.slice none 0 0/\n=0)\/∃ g cap,v=.slice (some ⟨g,0,none⟩) n cap/\n<=cap/\B<=g/\g<w.heap.size:=by
 rcases h.2 with h' | ⟨g,cap,cur,h1,h2,h3,h4,_⟩
 ·exact .inl h'
 ·exact .inr ⟨g,cap,h1,h4,h2,(Array.getElem?_eq_some_iff.1 h3).1⟩
theorem s_unkT1 (H:SEnv P E) (HT:STexts P E) {B:Act} {V:World} {j n tk bb:Nat} {res:Bool} (hs:B.tmps.size=85) (h9:B.eval (.tmp 9)=.int .i64 (j:Int)) (h6:B.eval (.tmp 6)=.slice ad n cap) (h8:B.eval (.tmp 8)=.pointer (some ⟨bb,0,none⟩)) (hk:V.cell? ⟨bb,0,none⟩=some (.int .u32 (tk:Int))) (hlt:j<n->∃ g kj:Nat,ad=some ⟨g,0,none⟩/\V.cell? ⟨g,0+j*2,none⟩=some (.int .u32 (kj:Int))/\res=decide ((kj:Int)<(tk:Int))) (hge:¬ j<n->res=false) (hpanic:∀ c a a' w,Q (.panic c) a w->Q (.panic c) a' w) (hQ:∀ A',A'.tmps.size=85->A'.defers=B.defers->(∀ k:Nat,k<23->A'.eval (.tmp k)=B.eval (.tmp k))->A'.eval (.tmp 36)=.bool res->Q .normal A' { V with drawn:=V.drawn+1 }):
  vc P (rgd [
   (qM 23 9 E.tI),
             (qM 24 6 E.tK),
             (qD 25 (.call { callee:=.builtin .len,args:=#[(.tmp 24)],argTypes:=#[E.tK] }) E.tI #[jD 1] none),
             (qD 26 (.binOp .lss E.tI (.tmp 23) (.tmp 25) E.tI) E.tO #[jD 0,jD 2] none),
             (qD 27 (.move (.tmp 26)) E.tO #[jD 3] none),
             (qD 28 (.move (.tmp 6)) E.tK #[jG 4] (some (4,true))),
             (qD 29 (.move (.tmp 9)) E.tI #[jG 4] (some (4,true))),
             (qD 30 (.indexAddr E.tK (.tmp 28) (.tmp 29)) 0 #[jD 5,jD 6,jG 4] (some (4,true))),
             (qD 31 (.fieldAddr E.tUnk (.tmp 30) 0) 0 #[jD 7,jG 4] (some (4,true))),
             (qD 32 (.load E.tW (.tmp 31)) E.tW #[jD 8,jG 4] (some (4,true))),
             (qD 33 (.fieldAddr E.tUnk (.tmp 8) 0) 0 #[jG 4] (some (4,true))),
             (qD 34 (.load E.tW (.tmp 33)) E.tW #[jD 10,jG 4] (some (4,true))),
             (qD 35 (.binOp .lss E.tW (.tmp 32) (.tmp 34) E.tW) E.tO #[jD 9,jD 11,jG 4] (some (4,true))),
             (qD 36 (.pick (.tmp 27) (.tmp 35) (.const (.bool false))) E.tO #[jD 4,jD 12] none)]) Q B V:=by
 have hsl:=rB H.rUnks
 by_cases hjn:j<n
 ·obtain ⟨g,kj,rfl,hc,hres⟩:=hlt hjn
  have hd:decide ((j:Int)<(n:Int))=true:=by simp;omega
  have hS:(fun W':World=>W'.cell? ⟨bb,0,none⟩=some (.int .u32 (tk:Int))/\W'.cell? ⟨g,0+j*2,none⟩=some (.int .u32 (kj:Int))) { V with drawn:=V.drawn+1 }:=⟨hk,hc⟩
  refine xq [(0,true),(1,true),(2,true),(3,true),(4,true),(5,true),(6,true),(7,true),(8,true),(9,true),(10,true),(11,true),(12,true),(13,true)] (fun W'=>W'.cell? ⟨bb,0,none⟩=some (.int .u32 (tk:Int))/\W'.cell? ⟨g,0+j*2,none⟩=some (.int .u32 (kj:Int))) HT.mixed (by kernel_rfl) rfl (by kernel_rfl) hpanic ?_
  refine dP rfl rfl rfl (wN rfl) (by simp only[zP,hs];decide) hS (fun w' hS'=>rM (dn ⟨rfl,rfl,rfl⟩)) ?_
  refine dP rfl rfl rfl (wN rfl) (by simp only[zP,hs];decide) hS (fun w' hS'=>rM (dn ⟨rfl,rfl,rfl⟩)) ?_
  refine dP rfl rfl rfl (wN rfl) (by simp only[zP,hs];decide) hS (fun w' hS'=>xh (ad:=some ⟨g,0,none⟩) (n:=n) (c:=cap) hsl zA (dn ⟨rfl,rfl,rfl⟩)) ?_
  refine dP rfl rfl rfl (wN rfl) (by simp only[zP,hs];decide) hS (fun w' hS'=>xm (k:=.i64) (m:=(j:Int)) (n:=(n:Int)) zA zE (dn ⟨rfl,rfl,rfl⟩)) ?_
  rw[hd]
  refine dP rfl rfl rfl (wN rfl) (by simp only[zP,hs];decide) hS (fun w' hS'=>rM (dn ⟨rfl,rfl,rfl⟩)) ?_
  refine dP rfl rfl rfl (by rw[wS (b:=true) rfl rfl zM];rfl) (by simp only[zP,hs];decide) hS (fun w' hS'=>rM (dn ⟨rfl,rfl,rfl⟩)) ?_
  refine dP rfl rfl rfl (by rw[wS (b:=true) rfl rfl zM];rfl) (by simp only[zP,hs];decide) hS (fun w' hS'=>rM (dn ⟨rfl,rfl,rfl⟩)) ?_
  refine dP rfl rfl rfl (by rw[wS (b:=true) rfl rfl zM];rfl) (by simp only[zP,hs];decide) hS (fun w' hS'=>qH (k:=.i64) (j:=j) (b:=g) (o:=0) (len:=n) (cap:=cap) hsl zA zA hjn (dn ⟨rfl,rfl,rfl⟩)) ?_
  refine dP rfl rfl rfl (by rw[wS (b:=true) rfl rfl zM];rfl) (by simp only[zP,hs];decide) hS (fun w' hS'=>rF (b:=g) (o:=0+j*2) zE (qn H.fUnk (by decide)) (dn ⟨rfl,rfl,rfl⟩)) ?_
  refine dP rfl rfl rfl (by rw[wS (b:=true) rfl rfl zM];rfl) (by simp only[zP,hs];decide) hS (fun w' hS'=>rL (b:=g) (o:=0+j*2) (v:=.int .u32 (kj:Int)) zM H.oU32 hS'.2 (dn ⟨rfl,rfl,rfl⟩)) ?_
  refine dP rfl rfl rfl (by rw[wS (b:=true) rfl rfl zM];rfl) (by simp only[zP,hs];decide) hS (fun w' hS'=>rF (b:=bb) (o:=0) zA (qn H.fUnk (by decide)) (dn ⟨rfl,rfl,rfl⟩)) ?_
  refine dP rfl rfl rfl (by rw[wS (b:=true) rfl rfl zM];rfl) (by simp only[zP,hs];decide) hS (fun w' hS'=>rL (b:=bb) (o:=0) (v:=.int .u32 (tk:Int)) zM H.oU32 hS'.1 (dn ⟨rfl,rfl,rfl⟩)) ?_
  refine dP rfl rfl rfl (by rw[wS (b:=true) rfl rfl zM];rfl) (by simp only[zP,hs];decide) hS (fun w' hS'=>xm (k:=.u32) (m:=(kj:Int)) (n:=(tk:Int)) zE zE (dn ⟨rfl,rfl,rfl⟩)) ?_
  refine dP rfl rfl rfl (wN rfl) (by simp only[zP,hs];decide) hS (fun w' hS'=>xf zE (dn ⟨rfl,rfl,rfl⟩)) ?_
  refine xI ?_
  refine hQ _ (by simp only[zP];exact hs) (by simp only[dF]) (fun k hk=>zE) ?_
  rw[hres]
  exact zE
 ·have hres:=hge hjn
  have hd:decide ((j:Int)<(n:Int))=false:=by simp;omega
  have hS:(fun W':World=>True) { V with drawn:=V.drawn+1 }:=trivial
  refine xq [(0,true),(1,true),(2,true),(3,true),(4,true),(5,true),(6,true),(7,true),(8,true),(9,true),(10,true),(11,true),(12,true),(13,true)] (fun W'=>True) HT.mixed (by kernel_rfl) rfl (by kernel_rfl) hpanic ?_
  refine dP rfl rfl rfl (wN rfl) (by simp only[zP,hs];decide) hS (fun w' hS'=>rM (dn ⟨rfl,rfl,rfl⟩)) ?_
  refine dP rfl rfl rfl (wN rfl) (by simp only[zP,hs];decide) hS (fun w' hS'=>rM (dn ⟨rfl,rfl,rfl⟩)) ?_
  refine dP rfl rfl rfl (wN rfl) (by simp only[zP,hs];decide) hS (fun w' hS'=>xh (ad:=ad) (n:=n) (c:=cap) hsl zA (dn ⟨rfl,rfl,rfl⟩)) ?_
  refine dP rfl rfl rfl (wN rfl) (by simp only[zP,hs];decide) hS (fun w' hS'=>xm (k:=.i64) (m:=(j:Int)) (n:=(n:Int)) zA zE (dn ⟨rfl,rfl,rfl⟩)) ?_
  rw[hd]
  refine dP rfl rfl rfl (wN rfl) (by simp only[zP,hs];decide) hS (fun w' hS'=>rM (dn ⟨rfl,rfl,rfl⟩)) ?_
  iterate 8 (refine d_no rfl rfl (by rw[wS (b:=false) rfl rfl zM];rfl) hS ?_)
  refine dP rfl rfl rfl (wN rfl) (by simp only[zP,hs];decide) hS (fun w' hS'=>xE zE (dn ⟨rfl,rfl,rfl⟩)) ?_
  refine xI ?_
  refine hQ _ (by simp only[zP];exact hs) (by simp only[dF]) (fun k hk=>zE) ?_
  rw[hres]
  exact zE
theorem s_unkT2 (H:SEnv P E) (HT:STexts P E) {B:Act} {V:World} {j n tk bb le:Nat} {res:Bool} (hs:B.tmps.size=85) (h5:B.eval (.tmp 5)=.int .u32 (le:Int)) (h9:B.eval (.tmp 9)=.int .i64 (j:Int)) (h6:B.eval (.tmp 6)=.slice ad n cap) (h8:B.eval (.tmp 8)=.pointer (some ⟨bb,0,none⟩)) (hk:V.cell? ⟨bb,0,none⟩=some (.int .u32 (tk:Int))) (hle:tk<le->res=true) (hlt:¬ tk<le->j<n->∃ g kj:Nat,ad=some ⟨g,0,none⟩/\V.cell? ⟨g,0+j*2,none⟩=some (.int .u32 (kj:Int))/\res=decide ((kj:Int)=(tk:Int))) (hge:¬ tk<le->¬ j<n->res=false) (hpanic:∀ c a a' w,Q (.panic c) a w->Q (.panic c) a' w) (hQ:∀ A',A'.tmps.size=85->A'.defers=B.defers->(∀ k:Nat,k<23->A'.eval (.tmp k)=B.eval (.tmp k))->A'.eval (.tmp 58)=.bool res->Q .normal A' { V with drawn:=V.drawn+1 }):
  vc P (rgd [
   (qF 39 E.tUnk 8 0),
          (qD 40 (.load E.tW (.tmp 39)) E.tW #[jD 0] none),
          (qM 41 5 E.tW),
          (qD 42 (.binOp .lss E.tW (.tmp 40) (.tmp 41) E.tW) E.tO #[jD 1,jD 2] none),
          (qD 43 (.move (.tmp 42)) E.tO #[jD 3] none),
          (qD 44 (.move (.tmp 9)) E.tI #[jG 4] (some (4,false))),
          (qD 45 (.move (.tmp 6)) E.tK #[jG 4] (some (4,false))),
          (qD 46 (.call { callee:=.builtin .len,args:=#[(.tmp 45)],argTypes:=#[E.tK] }) E.tI #[jD 6,jG 4] (some (4,false))),
          (qD 47 (.binOp .lss E.tI (.tmp 44) (.tmp 46) E.tI) E.tO #[jD 5,jD 7,jG 4] (some (4,false))),
          (qD 48 (.move (.tmp 47)) E.tO #[jD 8,jC 4,jG 4] (some (4,false))),
          (qD 49 (.move (.tmp 6)) E.tK #[jG 9] (some (9,true))),
          (qD 50 (.move (.tmp 9)) E.tI #[jG 9] (some (9,true))),
          (qD 51 (.indexAddr E.tK (.tmp 49) (.tmp 50)) 0 #[jD 10,jD 11,jG 9] (some (9,true))),
          (qD 52 (.fieldAddr E.tUnk (.tmp 51) 0) 0 #[jD 12,jG 9] (some (9,true))),
          (qD 53 (.load E.tW (.tmp 52)) E.tW #[jD 13,jG 9] (some (9,true))),
          (qD 54 (.fieldAddr E.tUnk (.tmp 8) 0) 0 #[jG 9] (some (9,true))),
          (qD 55 (.load E.tW (.tmp 54)) E.tW #[jD 15,jG 9] (some (9,true))),
          (qD 56 (.binOp .eql E.tW (.tmp 53) (.tmp 55) E.tW) E.tO #[jD 14,jD 16,jG 9] (some (9,true))),
          (qD 57 (.pick (.tmp 48) (.tmp 56) (.const (.bool false))) E.tO #[jD 9,jD 17,jG 4] (some (4,false))),
          (qD 58 (.pick (.tmp 43) (.const (.bool true)) (.tmp 57)) E.tO #[jD 4,jD 18] none)]) Q B V:=by
 have hsl:=rB H.rUnks
 by_cases hl:tk<le
 ·have hres:=hle hl
  have hd:decide ((tk:Int)<(le:Int))=true:=by simp;omega
  have hS:(fun W':World=>W'.cell? ⟨bb,0,none⟩=some (.int .u32 (tk:Int))) { V with drawn:=V.drawn+1 }:=hk
  refine xq [(0,true),(1,true),(2,true),(3,true),(4,true),(5,true),(6,true),(7,true),(8,true),(9,true),(10,true),(11,true),(12,true),(13,true),(14,true),(15,true),(16,true),(17,true),(18,true),(19,true)] (fun W'=>W'.cell? ⟨bb,0,none⟩=some (.int .u32 (tk:Int))) HT.mixed (by kernel_rfl) rfl (by kernel_rfl) hpanic ?_
  refine dP rfl rfl rfl (wN rfl) (by simp only[zP,hs];decide) hS (fun w' hS'=>rF (b:=bb) (o:=0) zA (qn H.fUnk (by decide)) (dn ⟨rfl,rfl,rfl⟩)) ?_
  refine dP rfl rfl rfl (wN rfl) (by simp only[zP,hs];decide) hS (fun w' hS'=>rL (b:=bb) (o:=0) (v:=.int .u32 (tk:Int)) zM H.oU32 hS' (dn ⟨rfl,rfl,rfl⟩)) ?_
  refine dP rfl rfl rfl (wN rfl) (by simp only[zP,hs];decide) hS (fun w' hS'=>rM (dn ⟨rfl,rfl,rfl⟩)) ?_
  refine dP rfl rfl rfl (wN rfl) (by simp only[zP,hs];decide) hS (fun w' hS'=>xm (k:=.u32) (m:=(tk:Int)) (n:=(le:Int)) zE zA (dn ⟨rfl,rfl,rfl⟩)) ?_
  rw[hd]
  refine dP rfl rfl rfl (wN rfl) (by simp only[zP,hs];decide) hS (fun w' hS'=>rM (dn ⟨rfl,rfl,rfl⟩)) ?_
  iterate 5 (refine d_no rfl rfl (by rw[wS (b:=true) rfl rfl zM];rfl) hS ?_)
  iterate 8 (refine d_no rfl rfl (vh rfl rfl zM (by simp only[zP,hs];decide)) hS ?_)
  refine d_no rfl rfl (by rw[wS (b:=true) rfl rfl zM];rfl) hS ?_
  refine dP rfl rfl rfl (wN rfl) (by simp only[zP,hs];decide) hS (fun w' hS'=>xf zE (dn ⟨rfl,rfl,rfl⟩)) ?_
  refine xI ?_
  refine hQ _ (by simp only[zP];exact hs) (by simp only[dF]) (fun k hk=>zE) ?_
  rw[hres]
  exact zE
 have hd:decide ((tk:Int)<(le:Int))=false:=by simp;omega
 by_cases hjn:j<n
 ·obtain ⟨g,kj,rfl,hc,hres⟩:=hlt hl hjn
  have hd2:decide ((j:Int)<(n:Int))=true:=by simp;omega
  have hS:(fun W':World=>W'.cell? ⟨bb,0,none⟩=some (.int .u32 (tk:Int))/\W'.cell? ⟨g,0+j*2,none⟩=some (.int .u32 (kj:Int))) { V with drawn:=V.drawn+1 }:=⟨hk,hc⟩
  refine xq [(0,true),(1,true),(2,true),(3,true),(4,true),(5,true),(6,true),(7,true),(8,true),(9,true),(10,true),(11,true),(12,true),(13,true),(14,true),(15,true),(16,true),(17,true),(18,true),(19,true)] (fun W'=>W'.cell? ⟨bb,0,none⟩=some (.int .u32 (tk:Int))/\W'.cell? ⟨g,0+j*2,none⟩=some (.int .u32 (kj:Int))) HT.mixed (by kernel_rfl) rfl (by kernel_rfl) hpanic ?_
  refine dP rfl rfl rfl (wN rfl) (by simp only[zP,hs];decide) hS (fun w' hS'=>rF (b:=bb) (o:=0) zA (qn H.fUnk (by decide)) (dn ⟨rfl,rfl,rfl⟩)) ?_
  refine dP rfl rfl rfl (wN rfl) (by simp only[zP,hs];decide) hS (fun w' hS'=>rL (b:=bb) (o:=0) (v:=.int .u32 (tk:Int)) zM H.oU32 hS'.1 (dn ⟨rfl,rfl,rfl⟩)) ?_
  refine dP rfl rfl rfl (wN rfl) (by simp only[zP,hs];decide) hS (fun w' hS'=>rM (dn ⟨rfl,rfl,rfl⟩)) ?_
  refine dP rfl rfl rfl (wN rfl) (by simp only[zP,hs];decide) hS (fun w' hS'=>xm (k:=.u32) (m:=(tk:Int)) (n:=(le:Int)) zE zA (dn ⟨rfl,rfl,rfl⟩)) ?_
  rw[hd]
  refine dP rfl rfl rfl (wN rfl) (by simp only[zP,hs];decide) hS (fun w' hS'=>rM (dn ⟨rfl,rfl,rfl⟩)) ?_
  refine dP rfl rfl rfl (by rw[wS (b:=false) rfl rfl zM];rfl) (by simp only[zP,hs];decide) hS (fun w' hS'=>rM (dn ⟨rfl,rfl,rfl⟩)) ?_
  refine dP rfl rfl rfl (by rw[wS (b:=false) rfl rfl zM];rfl) (by simp only[zP,hs];decide) hS (fun w' hS'=>rM (dn ⟨rfl,rfl,rfl⟩)) ?_
  refine dP rfl rfl rfl (by rw[wS (b:=false) rfl rfl zM];rfl) (by simp only[zP,hs];decide) hS (fun w' hS'=>xh (ad:=some ⟨g,0,none⟩) (n:=n) (c:=cap) hsl zA (dn ⟨rfl,rfl,rfl⟩)) ?_
  refine dP rfl rfl rfl (by rw[wS (b:=false) rfl rfl zM];rfl) (by simp only[zP,hs];decide) hS (fun w' hS'=>xm (k:=.i64) (m:=(j:Int)) (n:=(n:Int)) zA zE (dn ⟨rfl,rfl,rfl⟩)) ?_
  rw[hd2]
  refine dP rfl rfl rfl (by rw[wS (b:=false) rfl rfl zM];rfl) (by simp only[zP,hs];decide) hS (fun w' hS'=>rM (dn ⟨rfl,rfl,rfl⟩)) ?_
  refine dP rfl rfl rfl (by rw[wS (b:=true) rfl rfl zM];rfl) (by simp only[zP,hs];decide) hS (fun w' hS'=>rM (dn ⟨rfl,rfl,rfl⟩)) ?_
  refine dP rfl rfl rfl (by rw[wS (b:=true) rfl rfl zM];rfl) (by simp only[zP,hs];decide) hS (fun w' hS'=>rM (dn ⟨rfl,rfl,rfl⟩)) ?_
  refine dP rfl rfl rfl (by rw[wS (b:=true) rfl rfl zM];rfl) (by simp only[zP,hs];decide) hS (fun w' hS'=>qH (k:=.i64) (j:=j) (b:=g) (o:=0) (len:=n) (cap:=cap) hsl zA zA hjn (dn ⟨rfl,rfl,rfl⟩)) ?_
  refine dP rfl rfl rfl (by rw[wS (b:=true) rfl rfl zM];rfl) (by simp only[zP,hs];decide) hS (fun w' hS'=>rF (b:=g) (o:=0+j*2) zE (qn H.fUnk (by decide)) (dn ⟨rfl,rfl,rfl⟩)) ?_
  refine dP rfl rfl rfl (by rw[wS (b:=true) rfl rfl zM];rfl) (by simp only[zP,hs];decide) hS (fun w' hS'=>rL (b:=g) (o:=0+j*2) (v:=.int .u32 (kj:Int)) zM H.oU32 hS'.2 (dn ⟨rfl,rfl,rfl⟩)) ?_
  refine dP rfl rfl rfl (by rw[wS (b:=true) rfl rfl zM];rfl) (by simp only[zP,hs];decide) hS (fun w' hS'=>rF (b:=bb) (o:=0) zA (qn H.fUnk (by decide)) (dn ⟨rfl,rfl,rfl⟩)) ?_
  refine dP rfl rfl rfl (by rw[wS (b:=true) rfl rfl zM];rfl) (by simp only[zP,hs];decide) hS (fun w' hS'=>rL (b:=bb) (o:=0) (v:=.int .u32 (tk:Int)) zM H.oU32 hS'.1 (dn ⟨rfl,rfl,rfl⟩)) ?_
  refine dP rfl rfl rfl (by rw[wS (b:=true) rfl rfl zM];rfl) (by simp only[zP,hs];decide) hS (fun w' hS'=>xG (k:=.u32) (m:=(kj:Int)) (n:=(tk:Int)) zE zE (dn ⟨rfl,rfl,rfl⟩)) ?_
  refine dP rfl rfl rfl (by rw[wS (b:=false) rfl rfl zM];rfl) (by simp only[zP,hs];decide) hS (fun w' hS'=>xf zE (dn ⟨rfl,rfl,rfl⟩)) ?_
  refine dP rfl rfl rfl (wN rfl) (by simp only[zP,hs];decide) hS (fun w' hS'=>xE zE (dn ⟨rfl,rfl,rfl⟩)) ?_
  refine xI ?_
  refine hQ _ (by simp only[zP];exact hs) (by simp only[dF]) (fun k hk=>zE) ?_
  rw[hres]
  simp (disch:=(try simp only[sP]);omega) only[eV]
  rfl
 ·have hres:=hge hl hjn
  have hd2:decide ((j:Int)<(n:Int))=false:=by simp;omega
  have hS:(fun W':World=>W'.cell? ⟨bb,0,none⟩=some (.int .u32 (tk:Int))) { V with drawn:=V.drawn+1 }:=hk
  refine xq [(0,true),(1,true),(2,true),(3,true),(4,true),(5,true),(6,true),(7,true),(8,true),(9,true),(10,true),(11,true),(12,true),(13,true),(14,true),(15,true),(16,true),(17,true),(18,true),(19,true)] (fun W'=>W'.cell? ⟨bb,0,none⟩=some (.int .u32 (tk:Int))) HT.mixed (by kernel_rfl) rfl (by kernel_rfl) hpanic ?_
  refine dP rfl rfl rfl (wN rfl) (by simp only[zP,hs];decide) hS (fun w' hS'=>rF (b:=bb) (o:=0) zA (qn H.fUnk (by decide)) (dn ⟨rfl,rfl,rfl⟩)) ?_
  refine dP rfl rfl rfl (wN rfl) (by simp only[zP,hs];decide) hS (fun w' hS'=>rL (b:=bb) (o:=0) (v:=.int .u32 (tk:Int)) zM H.oU32 hS' (dn ⟨rfl,rfl,rfl⟩)) ?_
  refine dP rfl rfl rfl (wN rfl) (by simp only[zP,hs];decide) hS (fun w' hS'=>rM (dn ⟨rfl,rfl,rfl⟩)) ?_
  refine dP rfl rfl rfl (wN rfl) (by simp only[zP,hs];decide) hS (fun w' hS'=>xm (k:=.u32) (m:=(tk:Int)) (n:=(le:Int)) zE zA (dn ⟨rfl,rfl,rfl⟩)) ?_
  rw[hd]
  refine dP rfl rfl rfl (wN rfl) (by simp only[zP,hs];decide) hS (fun w' hS'=>rM (dn ⟨rfl,rfl,rfl⟩)) ?_
  refine dP rfl rfl rfl (by rw[wS (b:=false) rfl rfl zM];rfl) (by simp only[zP,hs];decide) hS (fun w' hS'=>rM (dn ⟨rfl,rfl,rfl⟩)) ?_
  refine dP rfl rfl rfl (by rw[wS (b:=false) rfl rfl zM];rfl) (by simp only[zP,hs];decide) hS (fun w' hS'=>rM (dn ⟨rfl,rfl,rfl⟩)) ?_
  refine dP rfl rfl rfl (by rw[wS (b:=false) rfl rfl zM];rfl) (by simp only[zP,hs];decide) hS (fun w' hS'=>xh (ad:=ad) (n:=n) (c:=cap) hsl zA (dn ⟨rfl,rfl,rfl⟩)) ?_
  refine dP rfl rfl rfl (by rw[wS (b:=false) rfl rfl zM];rfl) (by simp only[zP,hs];decide) hS (fun w' hS'=>xm (k:=.i64) (m:=(j:Int)) (n:=(n:Int)) zA zE (dn ⟨rfl,rfl,rfl⟩)) ?_
  rw[hd2]
  refine dP rfl rfl rfl (by rw[wS (b:=false) rfl rfl zM];rfl) (by simp only[zP,hs];decide) hS (fun w' hS'=>rM (dn ⟨rfl,rfl,rfl⟩)) ?_
  iterate 8 (refine d_no rfl rfl (by rw[wS (b:=false) rfl rfl zM];rfl) hS ?_)
  refine dP rfl rfl rfl (by rw[wS (b:=false) rfl rfl zM];rfl) (by simp only[zP,hs];decide) hS (fun w' hS'=>xE zE (dn ⟨rfl,rfl,rfl⟩)) ?_
  refine dP rfl rfl rfl (wN rfl) (by simp only[zP,hs];decide) hS (fun w' hS'=>xE zE (dn ⟨rfl,rfl,rfl⟩)) ?_
  refine xI ?_
  refine hQ _ (by simp only[zP];exact hs) (by simp only[dF]) (fun k hk=>zE) ?_
  rw[hres]
  exact zE
theorem s_unkIns (H:SEnv P E) (HL:SLay P E) {A:Act} {V:World} {bb j:Nat} {v6:Value} {es:List UE} {t:UE} (hs:A.tmps.size=85) (h6:A.eval (.tmp 6)=v6) (h8:A.eval (.tmp 8)=.pointer (some ⟨bb,0,none⟩)) (h9:A.eval (.tmp 9)=.int .i64 (j:Int)) (hj:j<=es.length) (hn:es.length<40000) (hB:B<=V.heap.size) (hown:V.ownsRow B E.tUnk 2 v6 es.length (fl es)) (hok:∀ e ∈ es,e.2.oneCell'=true) (hto:t.2.oneCell'=true) (hbb:bb<V.heap.size) (hne:∀ g,v6.ownBlock=some g->g≠bb) (hc:qb V bb 0 [.int .u32 (t.1.1:Int),t.2]) (hQ:∀ A' V' v',A'.tmps.size=85->A'.defers=A.defers->(∀ k:Nat,k<23->k≠6->k≠10->A'.eval (.tmp k)=A.eval (.tmp k))->A'.eval (.tmp 6)=v'->Below B V V'->V'.ownsRow B E.tUnk 2 v' (es.length+1) (fl (es.take j++t::es.drop j))->Q .normal A' V'):
  vc P (sq [
        (rg [(qM 59 6 E.tK),
         (oQ 60 (.build E.tUnk #[]) E.tUnk),
         (oQ 61 (.buildSlice E.tK 1 #[(0,(.tmp 60))]) E.tK),
         (oQ 62 (.call { callee:=.builtin .append,args:=#[(.tmp 59),(.tmp 61)],argTypes:=#[E.tK,E.tK] }) E.tK),
         (qA 6 62 E.tK)]),
        (sq [(rg [(qM 63 6 E.tK),
          (qN 64 63 E.tK E.tI),
          (qK 65 .sub E.tI 64 1 E.tI),
          (qA 10 65 E.tI)]),
         (.block 4 (.loop (sq [(sq [(rg [(qM 66 10 E.tI),
              (qM 67 9 E.tI),
              (qB 68 .gtr E.tI 66 67 E.tO)]),
             (.cond (.tmp 68)
              .skip
              (.exit 4))]),
            (.block 5 (rg [(qM 71 6 E.tK),
              (qM 72 10 E.tI),
              (qM 73 6 E.tK),
              (qM 74 10 E.tI),
              (qK 75 .sub E.tI 74 1 E.tI),
              (oQ 76 (.indexAddr E.tK (.tmp 73) (.tmp 75)) 0),
              (qL 77 76 E.tUnk),
              (oQ 78 (.indexAddr E.tK (.tmp 71) (.tmp 72)) 0),
              (qS E.tUnk 78 77)])),
            (rg [(qM 69 10 E.tI),
             (qK 70 .sub E.tI 69 1 E.tI),
             (qA 10 70 E.tI)])])))]),
        (rg [(qM 79 6 E.tK),
         (qM 80 9 E.tI),
         (qL 81 8 E.tUnk),
         (oQ 82 (.indexAddr E.tK (.tmp 79) (.tmp 80)) 0),
         (qS E.tUnk 82 81)])]) Q A V:=by
 have hsl:=rB H.rUnks
 generalize hnn:es.length=n at *
 refine vX (rM ?_)
 refine zp (cells:=#[.int .u32 0,.slice none 0 0]) HL.unk (by simp[Instr.fill]) ?_
 refine xM (vs:=[.agg #[.int .u32 0,.slice none 0 0]]) H.rUnks ?_ rfl (by intro v hv;simp only[List.mem_singleton] at hv;subst hv;rfl) (by decide) (by decide) ?_
 ·simp only[lM]
  simp (disch:=(try simp only[sP]);omega) only[eV]
  rfl
 have hown1:=xa hown ((Below.refl V.heap.size V).alloc (o:=.cells ([Value.agg #[.int .u32 0,.slice none 0 0]].flatMap fun v=>v.cells.toList).toArray E.tUnk) (Nat.le_refl _))
 have hb1:Below V.heap.size V (V.alloc (.cells ([Value.agg #[.int .u32 0,.slice none 0 0]].flatMap fun v=>v.cells.toList).toArray E.tUnk)):=(Below.refl V.heap.size V).alloc (o:=.cells _ _) (Nat.le_refl _)
 have hcz:qb (V.alloc (.cells ([Value.agg #[.int .u32 0,.slice none 0 0]].flatMap fun v=>v.cells.toList).toArray E.tUnk)) V.heap.size 0 [.int .u32 0,.slice none 0 0]:=by
  intro i v hv
  rw[Nat.zero_add]
  exact qm V _ E.tUnk (by simpa [Value.cells] using hv)
 generalize V.alloc (.cells ([Value.agg #[.int .u32 0,.slice none 0 0]].flatMap fun v=>v.cells.toList).toArray E.tUnk)=V1 at *
 refine jh (sz:=2) (U:=B) (v:=v6) (m:=1) (news:=[.int .u32 0,.slice none 0 0]) H.rUnks (u:=.slice (some ⟨V.heap.size,0,none⟩) 1 1) zA zE hown1 (Nat.le_trans hB hb1.size) (zh hsl hcz rfl (by intro u hu;simp only[List.mem_cons,List.not_mem_nil,or_false] at hu;rcases hu with rfl | rfl<;>rfl)) (by unfold big;omega) ?_
 intro v7 V7 h7 hb7 hg7 hnew
 refine rA (dn ?_)
 have hbb1:bb<V1.heap.size:=Nat.lt_of_lt_of_le hbb hb1.size
 have hc7:qb V7 bb 0 [.int .u32 (t.1.1:Int),t.2]:=(hc.below hb1 hbb).grown hg7 hbb1 (fun he=>hne bb he.symm rfl)
 have hform:=kK h7
 obtain ⟨g,cap,rfl,hncap,hBg,hgV⟩:=hform.resolve_left (by rintro ⟨_,h⟩;omega)
 have hgb:g≠bb:=by
  rcases hnew g rfl with h | h
  ·exact hne g h
  ·omega
 have h7':V7.ownsRow B E.tUnk 2 (.slice (some ⟨g,0,none⟩) (n+1) cap) (n+1) (fl (es.take n++((0,[]),Value.slice none 0 0)::es.drop n)):=by
  rw[← hnn,List.take_length,List.drop_length,fl_app]
  rw[hnn]
  exact h7
 have hbV7:Below B V V7:=(hb1.mono hB).trans hb7
 clear h7 hnew hform hg7 hown1 hcz
 refine vS (vX (rM ?_))
 refine xh (ad:=some ⟨g,0,none⟩) (n:=n+1) (c:=cap) hsl zE ?_
 refine yX (k:=.i64) (m:=((n+1:Nat):Int)) (n:=1) zE rfl ?_
 have hw0:IntKind.i64.wrap (((n+1:Nat):Int)-1)=(n:Int):=by rw[wrap_i64 zH zH];omega
 rw[hw0]
 refine rA (dn ?_)
 refine vS (qk (xZ (fun m A' V'=>m<=n-j/\A'.tmps.size=85/\A'.defers=A.defers/\(∀ k:Nat,k<23->k≠6->k≠10->A'.eval (.tmp k)=A.eval (.tmp k))/\A'.eval (.tmp 6)=.slice (some ⟨g,0,none⟩) (n+1) cap/\A'.eval (.tmp 10)=.int .i64 ((j+m:Nat):Int) ∧
  Below B V V'/\qb V' bb 0 [.int .u32 (t.1.1:Int),t.2]/\∃ X:UE,V'.ownsRow B E.tUnk 2 (.slice (some ⟨g,0,none⟩) (n+1) cap) (n+1) (fl (es.take (j+m)++X::es.drop (j+m)))) (n-j) ?_ ?_ ?_))
 ·refine ⟨Nat.le_refl _,by simp only[zP];exact hs,by simp only[dF],fun k h1 h2 h3=>zE,zE,?_,hbV7,hc7,((0,[]),.slice none 0 0),?_⟩
  ·simp (disch:=(try simp only[sP]);omega) only[eV]
   rw[show j+(n-j)=n by omega]
  ·rw[show j+(n-j)=n by omega]
   exact h7'
 ·rintro m A' V' ⟨hm,hs',hd',hk',g6,g10,hbV',hc',X,hX⟩
  have hkn:j+m<es.length:=by omega
  rw[show j+(m+1)=(j+m)+1 by omega] at g10 hX
  generalize hkk:j+m=k at *
  have g9:A'.eval (.tmp 9)=.int .i64 (j:Int):=by rw[hk' 9 zH zH zH,h9]
  have hxl:(es.take (k+1)++X::es.drop (k+1)).length=n+1:=by
   simp only[List.length_append,List.length_cons,List.length_take,List.length_drop]
   omega
  refine vS (vX (rM (rM ?_)))
  refine jq (k:=.i64) (m:=((k+1:Nat):Int)) (n:=(j:Int)) zA zA ?_
  refine dn ?_
  refine vS (vC (t:=true) ?_ ?_ (fun h=>by cases h))
  ·simp (disch:=(try simp only[sP]);omega) only[eV]
   simp only[Value.bool.injEq,decide_eq_true_eq]
   omega
  intro _
  refine vK (vN ?_)
  refine vS (qk (vR zS ?_))
  refine rM (rM (rM (rM ?_)))
  refine yX (k:=.i64) (m:=((k+1:Nat):Int)) (n:=1) zA rfl ?_
  have hw1:IntKind.i64.wrap (((k+1:Nat):Int)-1)=(k:Int):=by rw[wrap_i64 zH zH];omega
  rw[hw1]
  refine qH (k:=.i64) (j:=k) (b:=g) (o:=0) (len:=n+1) (cap:=cap) hsl zA zE zH ?_
  have hck:=yR (i:=k) hX (shift_get es k X hkn)
  refine qf (b:=g) (o:=0+k*2) (cs:=[.int .u32 (es[k].1.1:Int),es[k].2]) zE H.aUnk (by rw[Nat.zero_add];exact hck) ?_
  refine qH (k:=.i64) (j:=k+1) (b:=g) (o:=0) (len:=n+1) (cap:=cap) hsl zA zA zH ?_
  have hset:=own_set2 (i:=k+1) (x:=es[k]) hX (by rw[hxl];omega)
  rw[shift_set es k X hkn] at hset
  refine qy (b:=g) (o:=0+(k+1)*2) (cs:=[.int .u32 (es[k].1.1:Int),es[k].2]) zE zE (by intro u hu;simp only[List.mem_cons,List.not_mem_nil,or_false] at hu;rcases hu with rfl | rfl;rfl;exact hok _ (List.getElem_mem hkn)) H.aUnk ?_ ?_
  ·intro i hi
   simp only[List.length_cons,List.length_nil] at hi
   exact own_free2 hX zH
  rw[show 0+(k+1)*2=(k+1)*2 by omega]
  have hc'':qb (setCells V' g ((k+1)*2) [.int .u32 (es[k].1.1:Int),es[k].2]) bb 0 [.int .u32 (t.1.1:Int),t.2]:=hc'.eff (qe g _ V' _) (by rintro i hi ⟨h,_⟩;exact hgb h.symm)
  refine dn (vX (rM ?_))
  refine yX (k:=.i64) (m:=((k+1:Nat):Int)) (n:=1) zA rfl ?_
  rw[hw1]
  refine rA (dn (vN ?_))
  exact ⟨by omega,by simp only[zP];exact hs',by simp only[dF];exact hd',fun k' h1 h2 h3=>(by simp (disch:=(try simp only[sP]);omega) only[eV,hk' k' h1 h2 h3]),zA,zE,hbV'.trans hset.2,hc'',es[k],hset.1⟩
 ·rintro A' V' ⟨hm,hs',hd',hk',g6,g10,hbV',hc',X,hX⟩
  simp only[Nat.add_zero] at g10 hX
  have g9:A'.eval (.tmp 9)=.int .i64 (j:Int):=by rw[hk' 9 zH zH zH,h9]
  have g8:A'.eval (.tmp 8)=.pointer (some ⟨bb,0,none⟩):=by rw[hk' 8 zH zH zH,h8]
  have hxl:(es.take j++X::es.drop j).length=n+1:=by
   simp only[List.length_append,List.length_cons,List.length_take,List.length_drop]
   omega
  refine vS (vX (rM (rM ?_)))
  refine jq (k:=.i64) (m:=(j:Int)) (n:=(j:Int)) zA zA ?_
  refine dn ?_
  refine vS (vC (t:=false) ?_ (fun h=>by cases h) ?_)
  ·simp (disch:=(try simp only[sP]);omega) only[eV]
   simp only[Value.bool.injEq,decide_eq_false_iff_not]
   omega
  intro _
  refine xp ?_
  simp only[Exit.then,Exit.inBlock,if_true]
  refine vN (vX (rM (rM ?_)))
  refine qf (b:=bb) (o:=0) (cs:=[.int .u32 (t.1.1:Int),t.2]) zA H.aUnk hc' ?_
  refine qH (k:=.i64) (j:=j) (b:=g) (o:=0) (len:=n+1) (cap:=cap) hsl zA zA zH ?_
  have hset:=own_set2 (i:=j) (x:=t) hX (by rw[hxl];omega)
  rw[put_set es j X t zH] at hset
  refine qy (b:=g) (o:=0+j*2) (cs:=[.int .u32 (t.1.1:Int),t.2]) zE zE (by intro u hu;simp only[List.mem_cons,List.not_mem_nil,or_false] at hu;rcases hu with rfl | rfl;rfl;exact hto) H.aUnk ?_ ?_
  ·intro i hi
   simp only[List.length_cons,List.length_nil] at hi
   exact own_free2 hX zH
  rw[show 0+j*2=j*2 by omega]
  refine dn (vN ?_)
  exact hQ _ _ _ (by simp only[zP];exact hs') (by simp only[dF];exact hd') (fun k' h1 h2 h3=>(by simp (disch:=(try simp only[sP]);omega) only[eV,hk' k' h1 h2 h3])) zA (hbV'.trans hset.2) hset.1
theorem yh.items (h:yh w U v u):∃ ad cap,v=.slice ad u.length cap/\u.length<=cap ∧
  ∀ (i:Nat) (x:Nat × List UInt8),u[i]? = some x->∃ q o s,ad=some ⟨q,o,none⟩/\q<U/\x.1<4294967296/\qb w q (o+i*2) [.int .u32 (x.1:Int),s]/\z9 w U s x.2:=by
 rcases h with ⟨⟨ad,cap,rfl⟩,rfl⟩ | ⟨q,o,cap,rfl,hc,hq,h⟩
 ·exact ⟨ad,cap,rfl,Nat.zero_le _,fun i x hx=>by simp at hx⟩
 ·refine ⟨_,cap,rfl,hc,fun i x hx=>?_⟩
  obtain ⟨s,h1,h2,h3⟩:=h i x hx
  exact ⟨q,o,s,rfl,hq,h1,h2,h3⟩
theorem yh.of_own {es:List UE} (h:w'.ownsRow B e 2 v es.length (fl es)) (hok:∀ x ∈ es,x.1.1<4294967296/\z9 w U x.2 x.1.2) (hU:U<=w.heap.size) (hw:Below U w w'):yh w' w'.heap.size v (es.map (·.1)):=by
 have hUw:U<=w'.heap.size:=Nat.le_trans hU hw.size
 rcases kK h with ⟨rfl,h0⟩ | ⟨g,cap,rfl,hc,_,hg⟩
 ·refine .inl ⟨nilS,?_⟩
  rw[List.eq_nil_of_length_eq_zero h0]
  rfl
 ·refine .inr ⟨g,0,cap,by rw[List.length_map],by rw[List.length_map];exact hc,hg,fun i x hx=>?_⟩
  rw[List.getElem?_map] at hx
  cases hi:es[i]? with
  | none=>rw[hi] at hx;cases hx
  | some e =>
   rw[hi,Option.map_some,Option.some.injEq] at hx
   subst hx
   obtain ⟨h1,h2⟩:=hok e (List.mem_of_getElem? hi)
   exact ⟨e.2,h1,by rw[Nat.zero_add];exact yR h hi,(h2.below hw).mono hUw⟩
theorem s_unknownN (H:SEnv P E) (HL:SLay P E) (HT:STexts P E) (U:Nat) (w:World) (sv uv:Value) (fs:SFs) (u:List (Nat × List UInt8)) (hU:U<=w.heap.size) (hsf:SlF w U sv fs) (htg:∀ t ∈ fs.tags,t<65536) (hfl:fs.len<=big) (hu:yh w U uv u):
  qa P E.sUnknown #[sv,uv] w fun v w'=>(∃ es:List UE,w'.ownsRow w.heap.size E.tUnk 2 v es.length (fl es)/\(∀ e ∈ es,e.1.1<4294967296/\z9 w U e.2 e.1.2)/\es.map (·.1)=unk (known fs.tags) u)/\Below w.heap.size w w':=by
 refine qa.enter HT.unknown zS ?_
 intro a hsz hdf harg
 have e0:=harg 0 sv zS
 have e1:=harg 1 uv zS
 have hsl:=rB H.rUnks
 obtain ⟨z,hz,hzc⟩:=rowB_zero H.rUnks
 obtain ⟨ad,cap,huv,hcap,hit⟩:=hu.items
 unfold c_sUnknown
 refine vX (rA (dn (vX (rM ?_))))
 refine q8 (args:=#[sv]) ?_ (s_known (U:=w.heap.size) H HL HT (hsf.mono hU) (Nat.le_refl _) htg hfl) ?_
 ·simp only[lM]
  simp (disch:=(try simp only[sP]);omega) only[eV,e0]
 rintro v W1 ⟨rfl,hb1⟩
 generalize hle:known fs.tags=le at *
 refine rA (dn (vX (rA (dn ?_))))
 have hU1:U<=W1.heap.size:=Nat.le_trans hU hb1.size
 have hbU1:Below U w W1:=hb1.mono hU
 have hmin:(if (32767:Int)<(u.length:Int) then 32767 else (u.length:Int))=((u.take 32767).length:Int):=by
  rw[List.length_take];split<;>omega
 have hun:unk le u=(u.take 32767).foldl (fun l x=>if x.1<le then l else zL x l) []:=rfl
 have htl:(u.take 32767).length<=u.length:=by rw[List.length_take];omega
 have htm:(u.take 32767).length<=32767:=by rw[List.length_take];omega
 have hit':∀ (i:Nat) (x:Nat × List UInt8),(u.take 32767)[i]? = some x->∃ q o s,ad=some ⟨q,o,none⟩/\q<U/\x.1<4294967296/\qb w q (o+i*2) [.int .u32 (x.1:Int),s]/\z9 w U s x.2:=by
  intro i x hx
  rw[List.getElem?_take] at hx
  split at hx
  ·exact hit i x hx
  ·cases hx
 refine vS (vX (rM (rM ?_)))
 refine xh (ad:=ad) (n:=u.length) (c:=cap) hsl (by simp (disch:=(try simp only[sP]);omega) only[eV,e1,huv]) ?_
 refine r_min (k:=.i64) (m:=(u.length:Int)) (n:=32767) zE rfl ?_
 rw[hmin]
 rw[hun]
 generalize u.take 32767=u' at *
 refine ym (k:=.i64) (ad:=ad) (len:=u.length) (cap:=cap) (h:=u'.length) hsl (by simp (disch:=(try simp only[sP]);omega) only[eV,e1,huv]) zE zH ?_
 refine xh (ad:=ad) (n:=u'.length) (c:=cap) hsl zE ?_
 refine rM (dn ?_)
 refine vS (qk (xZ (fun m A V=>m<=u'.length/\A.tmps.size=85/\A.defers=[]/\A.eval (.tmp 5)=.int .u32 (le:Int)/\A.eval (.tmp 17)=.slice ad u'.length cap/\A.eval (.tmp 18)=.int .i64 (u'.length:Int)/\A.eval (.tmp 19)=.int .i64 ((u'.length-m:Nat):Int)/\Below W1.heap.size W1 V ∧
  ∃ (es:List UE) (v6:Value),A.eval (.tmp 6)=v6/\V.ownsRow W1.heap.size E.tUnk 2 v6 es.length (fl es)/\(∀ e ∈ es,e.1.1<4294967296/\z9 w U e.2 e.1.2)/\es.length<=u'.length-m/\es.map (·.1)=(u'.take (u'.length-m)).foldl (fun l x=>if x.1<le then l else zL x l) []) u'.length ?_ ?_ ?_))
 ·refine ⟨Nat.le_refl _,by simp only[zP];exact hsz,by simp only[dF];exact hdf,zE,zE,zE,?_,Below.refl _ _,[],.slice none 0 0,zE,World.ownsRow_nil _ _ _ _,by simp,Nat.zero_le _,by simp⟩
  simp (disch:=(try simp only[sP]);omega) only[eV]
  simp
 ·rintro m A V ⟨hm,hs,hd,g5,g17,g18,g19,hbV,es,v6,g6,hown,hok,hesl,hmap⟩
  have hi:u'.length-(m+1)<u'.length:=by omega
  have him:u'.length-m=(u'.length-(m+1))+1:=by omega
  rw[him]
  generalize hii:u'.length-(m+1)=i at *
  obtain ⟨q,o,s,rfl,hq,hkey,hcs,hoc⟩:=hit' i u'[i] (List.getElem?_eq_getElem hi)
  have hfold:(u'.take (i+1)).foldl (fun l x=>if x.1<le then l else zL x l) []=if u'[i].1<le then es.map (·.1) else zL u'[i] (es.map (·.1)):=by
   rw[List.take_succ_eq_append_getElem hi,List.foldl_append,← hmap]
   rfl
  rw[hfold]
  generalize hx:u'[i]=x at *
  obtain ⟨tk,oc⟩:=x
  simp only at hkey hcs hoc hfold ⊢
  have hbwV:Below U w V:=hbU1.trans (hbV.mono hU1)
  have hcsV:=hcs.below hbwV hq
  have hUV:U<=V.heap.size:=Nat.le_trans hU1 hbV.size
  refine vX ?_
  refine xm (k:=.i64) (m:=(i:Int)) (n:=(u'.length:Int)) g19 g18 ?_
  refine dn ?_
  refine vS (vC (t:=true) ?_ ?_ (fun h=>by cases h))
  ·simp (disch:=(try simp only[sP]);omega) only[eV]
   simp only[Value.bool.injEq,decide_eq_true_eq]
   omega
  intro _
  refine vK ?_
  refine vS (qk (vX ?_))
  refine qH (k:=.i64) (j:=i) (b:=q) (o:=o) (len:=u'.length) (cap:=cap) hsl zA zA hi ?_
  refine qf (b:=q) (o:=o+i*2) (cs:=[.int .u32 (tk:Int),s]) zE H.aUnk hcsV ?_
  refine qR hz ?_
  have hs1:s.oneCell'=true:=hoc.one
  refine qy (b:=V.heap.size) (o:=0) (cs:=[.int .u32 (tk:Int),s]) zE zE (by intro v hv;simp only[List.mem_cons,List.not_mem_nil,or_false] at hv;rcases hv with rfl | rfl;rfl;exact hs1) H.aUnk ?_ ?_
  ·intro j hj
   rw[Nat.zero_add]
   exact qq V _ _ (by rw[hzc];simpa using hj)
  refine dn ?_
  have hcell:qb (setCells (V.alloc (.cells z.cells E.tUnk)) V.heap.size 0 [.int .u32 (tk:Int),s]) V.heap.size 0 [.int .u32 (tk:Int),s]:=fun j v hv=>by
   refine qg V.heap.size [.int .u32 (tk:Int),s] _ 0 (fun j hj=>?_) j v hv
   rw[Nat.zero_add]
   exact (qq V z.cells E.tUnk (by rw[hzc];simpa using hj)).1
  have hb3:Below V.heap.size V (setCells (V.alloc (.cells z.cells E.tUnk)) V.heap.size 0 [.int .u32 (tk:Int),s]):=by
   refine ((Below.refl V.heap.size V).alloc (o:=.cells _ _) (Nat.le_refl _)).trans ((qe V.heap.size [.int .u32 (tk:Int),s] _ 0).below zS (by rintro k i hk ⟨rfl,_,_⟩;omega))
  have hz3:V.heap.size<(setCells (V.alloc (.cells z.cells E.tUnk)) V.heap.size 0 [.int .u32 (tk:Int),s]).heap.size:=by
   have:=(qe V.heap.size [.int .u32 (tk:Int),s] (V.alloc (.cells z.cells E.tUnk)) 0).size
   simp at this
   omega
  generalize setCells (V.alloc (.cells z.cells E.tUnk)) V.heap.size 0 [.int .u32 (tk:Int),s]=V1 at hcell hb3 hz3 ⊢
  have hown1:=xa hown hb3
  have hWV:W1.heap.size<=V.heap.size:=hbV.size
  have hbV1:Below W1.heap.size W1 V1:=hbV.trans (hb3.mono hWV)
  have hbbl:∀ g,v6.ownBlock=some g->g≠V.heap.size:=fun g hg=>by have:=zb hown hg;omega
  generalize hbb:V.heap.size=bb at *
  refine vX (rA (dn ?_))
  generalize hG:(((((A.put (some 20) _).put (some 21) _).put (some 22) _).put (some 8) _).put (some 9) _)=G
  have hsG:G.tmps.size=85:=by rw[← hG];simp only[zP];exact hs
  have hdG:G.defers=[]:=by rw[← hG];simp only[dF];exact hd
  have k5:G.eval (.tmp 5)=.int .u32 (le:Int):=by rw[← hG];exact zA
  have k6:G.eval (.tmp 6)=v6:=by rw[← hG];exact zA
  have k8:G.eval (.tmp 8)=.pointer (some ⟨bb,0,none⟩):=by rw[← hG];exact zE
  have k9:G.eval (.tmp 9)=.int .i64 0:=by rw[← hG];exact zE
  have k17:G.eval (.tmp 17)=.slice (some ⟨q,o,none⟩) u'.length cap:=by rw[← hG];exact zA
  have k18:G.eval (.tmp 18)=.int .i64 (u'.length:Int):=by rw[← hG];exact zA
  have k19:G.eval (.tmp 19)=.int .i64 (i:Int):=by rw[← hG];exact zA
  clear hG
  obtain ⟨ad6,cap6,hv6,hg6⟩:∃ ad6 cap6,v6=.slice ad6 es.length cap6/\∀ j,j<es.length->∃ g,ad6=some ⟨g,0,none⟩/\qb V1 g (0+j*2) [.int .u32 ((es[j]?.map (·.1.1)).getD 0:Nat),(es[j]?.map (·.2)).getD (.slice none 0 0)]:=by
   rcases kK hown1 with ⟨h1,h0⟩ | ⟨g,cap6,h1,_⟩
   ·exact ⟨none,0,by rw[h0];exact h1,fun j hj=>by omega⟩
   ·subst h1
    refine ⟨_,cap6,rfl,fun j hj=>⟨g,rfl,?_⟩⟩
    have:=yR (i:=j) hown1 (List.getElem?_eq_getElem hj)
    rw[List.getElem?_eq_getElem hj,Nat.zero_add]
    exact this
  have hpl:=pos_le tk (es.map (·.1))
  rw[List.length_map] at hpl
  have hplt:=pos_lt tk (es.map (·.1))
  have hpat:=pos_at tk (es.map (·.1))
  have hins:=insU_pos (tk,oc) (es.map (·.1))
  simp only at hins
  generalize hp:pos tk (es.map (·.1))=p at *
  have fin:∀ (B':Act) (V':World) (es':List UE) (v6':Value),B'.tmps.size=85->B'.defers=[]->B'.eval (.tmp 5)=.int .u32 (le:Int)->B'.eval (.tmp 17)=.slice (some ⟨q,o,none⟩) u'.length cap->B'.eval (.tmp 18)=.int .i64 (u'.length:Int)->B'.eval (.tmp 19)=.int .i64 (i:Int)->Below W1.heap.size W1 V' →
    B'.eval (.tmp 6)=v6'->V'.ownsRow W1.heap.size E.tUnk 2 v6' es'.length (fl es')->(∀ e ∈ es',e.1.1<4294967296/\z9 w U e.2 e.1.2)->es'.length<=i+1->es'.map (·.1)=(if tk<le then es.map (·.1) else zL (tk,oc) (es.map (·.1)))->∀ Q:Exit->Act->World->Prop,
    (∀ A',(m<=u'.length/\A'.tmps.size=85/\A'.defers=[]/\A'.eval (.tmp 5)=.int .u32 (le:Int)/\A'.eval (.tmp 17)=.slice (some ⟨q,o,none⟩) u'.length cap/\A'.eval (.tmp 18)=.int .i64 (u'.length:Int)/\A'.eval (.tmp 19)=.int .i64 ((i+1:Nat):Int)/\Below W1.heap.size W1 V' ∧
     ∃ (es':List UE) (v6':Value),A'.eval (.tmp 6)=v6'/\V'.ownsRow W1.heap.size E.tUnk 2 v6' es'.length (fl es')/\(∀ e ∈ es',e.1.1<4294967296/\z9 w U e.2 e.1.2)/\es'.length<=i+1/\es'.map (·.1)=(if tk<le then es.map (·.1) else zL (tk,oc) (es.map (·.1))))->Q .normal A' V') →
    vc P (sq [(rg [(qK 83 .add E.tI 19 1 E.tI),(qM 19 83 E.tI)])]) Q B' V':=by
   intro B' V' es' v6' b0 b1 b2 b3 b4 b5 b6 b7 b8 b9 b10 b11 Q hQ
   refine vX ?_
   refine z8 (k:=.i64) (m:=(i:Int)) (n:=1) zA rfl ?_
   refine rM (dn (vN ?_))
   refine hQ _ ⟨by omega,by simp only[zP];exact b0,by simp only[dF];exact b1,zA,zA,zA,?_,b6,es',v6',zA,b8,b9,b10,b11⟩
   simp (disch:=(try simp only[sP]);omega) only[eV]
   rw[wrap_i64 zH zH]
   rfl
  refine vS (qk (xZ (fun m' A' V'=>m'<=p/\A'.tmps.size=85/\A'.defers=[]/\(∀ k:Nat,k<23->k≠9->A'.eval (.tmp k)=G.eval (.tmp k))/\A'.eval (.tmp 9)=.int .i64 ((p-m':Nat):Int)/\∃ d,V'={ V1 with drawn:=d }) p ?_ ?_ ?_))
  ·refine ⟨Nat.le_refl _,hsG,hdG,fun _ _ _=>rfl,?_,V1.drawn,rfl⟩
   rw[k9]
   simp
  ·rintro m' A' V' ⟨hm',hs',hd',hk',g9,d,rfl⟩
   have hjp:p-(m'+1)<p:=by omega
   have hjm:p-m'=(p-(m'+1))+1:=by omega
   rw[hjm]
   generalize hjj:p-(m'+1)=j at *
   have hjl:j<es.length:=by omega
   obtain ⟨g,rfl,hcj⟩:=hg6 j hjl
   rw[List.getElem?_eq_getElem hjl] at hcj
   have hlt:=hplt j (by simpa using hjl) hjp
   simp only[List.getElem_map] at hlt
   refine vS (vS (s_unkT1 (j:=j) (n:=es.length) (cap:=cap6) (tk:=tk) (bb:=bb) (ad:=some ⟨g,0,none⟩) (res:=true) H HT hs' g9 (by rw[hk' 6 zH zH,k6,hv6]) (by rw[hk' 8 zH zH,k8]) (hcell 0 _ rfl) (fun _=>⟨g,es[j].1.1,rfl,hcj 0 _ rfl,?_⟩) (fun h=>absurd hjl h) (fun _ _ _ _ h=>False.elim h) ?_))
   ·simp
    omega
   intro B' b0 b1 b2 b3
   refine vS (vC (t:=true) b3 ?_ (fun h=>by cases h))
   intro _
   refine vK (vN ?_)
   refine vS (qk (vR zS ?_))
   refine rM ?_
   refine z8 (k:=.i64) (m:=(j:Int)) (n:=1) ?_ rfl ?_
   ·simp (disch:=(try simp only[sP]);omega) only[eV]
    rw[b2 9 zH,g9]
   refine rA (dn (vN ?_))
   refine ⟨by omega,by simp only[zP];exact b0,by simp only[dF];rw[b1];exact hd',fun k h1 h2=>?_,?_,d+1,rfl⟩
   ·simp (disch:=(try simp only[sP]);omega) only[eV]
    rw[b2 k h1,hk' k h1 h2]
   ·simp (disch:=(try simp only[sP]);omega) only[eV]
    rw[wrap_i64 zH zH]
    rfl
  ·rintro A' V' ⟨hm',hs',hd',hk',g9,d,rfl⟩
   rw[Nat.sub_zero] at g9
   refine vS (vS (s_unkT1 (j:=p) (n:=es.length) (cap:=cap6) (tk:=tk) (bb:=bb) (ad:=ad6) (res:=false) H HT hs' g9 (by rw[hk' 6 zH zH,k6,hv6]) (by rw[hk' 8 zH zH,k8]) (hcell 0 _ rfl) (fun hpl'=>?_) (fun _=>rfl) (fun _ _ _ _ h=>False.elim h) ?_))
   ·obtain ⟨g,rfl,hcj⟩:=hg6 p hpl'
    rw[List.getElem?_eq_getElem hpl'] at hcj
    have hnl:=hpat (by simpa using hpl')
    simp only[List.getElem_map] at hnl
    refine ⟨g,es[p].1.1,rfl,hcj 0 _ rfl,?_⟩
    simp
    omega
   intro B' b0 b1 b2 b3
   refine vS (vC (t:=false) b3 (fun h=>by cases h) ?_)
   intro _
   refine xp ?_
   simp only[Exit.then,Exit.inBlock,if_true]
   have hB9:B'.eval (.tmp 9)=.int .i64 (p:Int):=by rw[b2 9 zH,g9]
   have hBk:∀ k:Nat,k<23->k≠9->B'.eval (.tmp k)=G.eval (.tmp k):=fun k h1 h2=>by rw[b2 k h1,hk' k h1 h2]
   have hB6:B'.eval (.tmp 6)=.slice ad6 es.length cap6:=by rw[hBk 6 zH zH,k6,hv6]
   have hB8:B'.eval (.tmp 8)=.pointer (some ⟨bb,0,none⟩):=by rw[hBk 8 zH zH,k8]
   have hB5:B'.eval (.tmp 5)=.int .u32 (le:Int):=by rw[hBk 5 zH zH,k5]
   generalize hdup:(decide (tk<le)||decide (((es.map (·.1))[p]?).map (·.1)=some tk))=dup
   refine vS (vS (s_unkT2 (j:=p) (n:=es.length) (cap:=cap6) (tk:=tk) (bb:=bb) (le:=le) (ad:=ad6) (res:=dup) H HT b0 hB5 hB9 hB6 hB8 (hcell 0 _ rfl) ?_ ?_ ?_ (fun _ _ _ _ h=>False.elim h) ?_))
   ·intro h
    rw[← hdup]
    simp[h]
   ·intro h hpl'
    obtain ⟨g,rfl,hcj⟩:=hg6 p hpl'
    rw[List.getElem?_eq_getElem hpl'] at hcj
    refine ⟨g,es[p].1.1,rfl,hcj 0 _ rfl,?_⟩
    rw[← hdup]
    have h2:¬ tk<le:=h
    simp only[h2,decide_false,Bool.false_or,List.getElem?_map,List.getElem?_eq_getElem hpl',Option.map_some,Option.some.injEq]
    exact decide_eq_decide.2 ⟨fun h=>by omega,fun h=>by omega⟩
   ·intro h hpl'
    rw[← hdup]
    have h2:¬ tk<le:=h
    simp only[h2,decide_false,Bool.false_or,List.getElem?_map,List.getElem?_eq_none (Nat.le_of_not_lt hpl'),Option.map_none,decide_eq_false_iff_not]
    intro h
    cases h
   intro C c0 c1 c2 c3
   have hCk:∀ k:Nat,k<23->k≠9->C.eval (.tmp k)=G.eval (.tmp k):=fun k h1 h2=>by rw[c2 k h1,hBk k h1 h2]
   have hCd:C.defers=[]:=by rw[c1,b1];exact hd'
   refine vS (vC (t:=dup) c3 ?_ ?_)
   ·intro ht
    refine xp ?_
    simp only[Exit.then,Exit.inBlock,if_true]
    refine fin C { V1 with drawn:=d+1+1 } es v6 c0 hCd (by rw[hCk 5 zH zH,k5]) (by rw[hCk 17 zH zH,k17]) (by rw[hCk 18 zH zH,k18]) (by rw[hCk 19 zH zH,k19]) ⟨hbV1.os,hbV1.tape,hbV1.output,hbV1.size,hbV1.block⟩ (by rw[hCk 6 zH zH,k6]) hown1 hok zH ?_ _ (fun A' h=>h)
    rw[ht] at hdup
    simp only[Bool.or_eq_true,decide_eq_true_eq] at hdup
    rcases hdup with h | h
    ·rw[if_pos h]
    ·rw[hins,if_pos h,ite_self]
   ·intro ht
    refine vK (vN ?_)
    rw[ht] at hdup
    simp only[Bool.or_eq_false_iff,decide_eq_false_iff_not] at hdup
    refine s_unkIns (B:=W1.heap.size) (bb:=bb) (j:=p) (v6:=v6) (es:=es) (t:=((tk,oc),s)) (V:={ V1 with drawn:=d+1+1 }) H HL c0 (by rw[hCk 6 zH zH,k6]) (by rw[hCk 8 zH zH,k8]) (by rw[c2 9 zH,hB9]) hpl zH (Nat.le_trans hWV (Nat.le_of_lt hz3)) hown1 (fun e he=>(hok e he).2.one) hs1 hz3 hbbl hcell ?_
    intro A2 V2 v2 d0 d1 d2 d3 d4 d5
    have hlen2:(es.take p++((tk,oc),s)::es.drop p).length=es.length+1:=by
     simp only[List.length_append,List.length_cons,List.length_take,List.length_drop]
     omega
    rw[← hlen2] at d5
    have hbV2:Below W1.heap.size V1 V2:=⟨d4.os,d4.tape,d4.output,d4.size,d4.block⟩
    refine fin A2 V2 _ v2 d0 (by rw[d1];exact hCd) (by rw[d2 5 zH zH zH,hCk 5 zH zH,k5]) (by rw[d2 17 zH zH zH,hCk 17 zH zH,k17]) (by rw[d2 18 zH zH zH,hCk 18 zH zH,k18]) (by rw[d2 19 zH zH zH,hCk 19 zH zH,k19]) (hbV1.trans hbV2) d3 d5 ?_ (by rw[hlen2];omega) ?_ _ (fun A' h=>h)
    ·intro e he
     rcases List.mem_append.1 he with h | h
     ·exact hok e (List.mem_of_mem_take h)
     ·rcases List.mem_cons.1 h with rfl | h
      ·exact ⟨hkey,hoc⟩
      ·exact hok e (List.mem_of_mem_drop h)
    ·rw[if_neg hdup.1,hins,if_neg hdup.2]
     simp only[List.map_append,List.map_cons,List.map_take,List.map_drop]
 ·rintro A V ⟨hm,hs,hd,g5,g17,g18,g19,hbV,es,v6,g6,hown,hok,hesl,hmap⟩
  rw[Nat.sub_zero] at g19 hmap
  rw[List.take_length] at hmap
  refine vX ?_
  refine xm (k:=.i64) (m:=(u'.length:Int)) (n:=(u'.length:Int)) g19 g18 ?_
  refine dn ?_
  refine vS (vC (t:=false) ?_ (fun h=>by cases h) ?_)
  ·simp (disch:=(try simp only[sP]);omega) only[eV]
   simp only[Value.bool.injEq,decide_eq_false_iff_not]
   omega
  intro _
  refine xp ?_
  simp only[Exit.then,Exit.inBlock,if_true]
  refine vN (vX (rM (rA (dn (vS (vT ?_))))))
  have hfin:Below U w V:=hbU1.trans (hbV.mono hU1)
  refine ⟨by simp only[dF];exact hd,v6,rO zA,?_,hb1.trans (hbV.mono hb1.size)⟩
  exact ⟨es,kX hown hb1.size,hok,by rw[← hmap]⟩
theorem s_unknown (H:SEnv P E) (HL:SLay P E) (HT:STexts P E):UnkC P E:=by
 intro U w sv uv fs u hU hsf htg hfl hu
 refine (s_unknownN H HL HT U w sv uv fs u hU hsf htg hfl hu).mono ?_
 rintro v w' ⟨⟨es,h1,h2,h3⟩,h4⟩
 refine ⟨?_,h4.mono hU⟩
 rw[← h3]
 exact yh.of_own h1 h2 hU (h4.mono hU)
end
end Go.Km
