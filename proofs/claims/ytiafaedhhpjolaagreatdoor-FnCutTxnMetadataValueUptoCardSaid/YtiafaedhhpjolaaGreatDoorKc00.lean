/- The plain law of what the spec writes: it is what is written of data that can be read. The plain law of what the spec writes, second part. spec.value spec.value: the whole. spec.value: the whole. spec.field spec.field: a list. spec.field: the whole. spec.field: the whole. spec.known spec.Write spec.part: the unknown tags and the end. spec.part. spec.unknown: the plain law, the rows, the two tests. spec.unknown: a tag is put in. spec.unknown. spec.usual, of numbers. spec.part: the unknown tags and the end, behind known ones. -/
import Derived.Test.YtiafaedhhpjolaaGreatDoorKb01
import Derived.Test.YtiafaedhhpjolaaGreatDoorKb03
import Derived.Test.YtiafaedhhpjolaaGreatDoorKb05
import Derived.Laws.CopyRow
import Derived.Laws.IdiomCopy
import Derived.Laws.OwnMore
set_option maxHeartbeats 4000000
set_option linter.unusedSimpArgs false
set_option linter.unusedVariables false
namespace Go.Km
open Go Go.RowKit
theorem yZ:∀ (k:Nat) (n m:Int),n % (256 ^ k:Nat)=m % (256 ^ k:Nat)->be k n=be k m
 | 0,_,_,_=>rfl
 | k+1,n,m,h=>by
  have hp:(0:Int)<((256 ^ k:Nat):Int):=by
   have:0<256 ^ k:=Nat.pow_pos (by decide)
   omega
  have e1:((256 ^ (k+1):Nat):Int)=((256 ^ k:Nat):Int)*256:=by rw[Nat.pow_succ];simp
  rw[e1] at h
  have h1:n % ((256 ^ k:Nat):Int)=m % ((256 ^ k:Nat):Int):=by
   have:=congrArg (fun x=>x % ((256 ^ k:Nat):Int)) h
   simpa only[Int.emod_emod_of_dvd _ (Int.dvd_mul_right _ _)] using this
  rw[emod_mul' n _ hp,emod_mul' m _ hp,h1] at h
  have h2:n / ((256 ^ k:Nat):Int) % 256=m / ((256 ^ k:Nat):Int) % 256:=by
   have h3:((256 ^ k:Nat):Int)*(n / ((256 ^ k:Nat):Int) % 256)=((256 ^ k:Nat):Int)*(m / ((256 ^ k:Nat):Int) % 256):=by omega
   exact Int.eq_of_mul_eq_mul_left zH h3
  have h4:∀ x:Int,x.fdiv (256 ^ k)=x / ((256 ^ k:Nat):Int):=fun x=>by
   rw[Int.fdiv_eq_ediv_of_nonneg _ (by have:=hp;simpa using Int.le_of_lt this)]
   simp
  simp only[be,h4,h2,yZ k n m h1]
theorem sgn_mod {k n:Nat} (hk:0<k) (h:n<256 ^ k):(sgn k n) % (256 ^ k:Nat)=(n:Int):=by
 have e0:2 ^ (8*k)=256 ^ k:=by rw[Nat.pow_mul]
 have e:(2:Int) ^ (8*k)=((256 ^ k:Nat):Int):=by rw[← e0];simp
 have hn:(n:Int)<((256 ^ k:Nat):Int):=by exact_mod_cast h
 unfold sgn
 split
 ·exact Int.emod_eq_of_lt zH hn
 ·rw[e,Int.sub_emod_right]
  exact Int.emod_eq_of_lt zH hn
def Scal.fit:Scal->Int->Int
 | .bool,n=>n % 2
 | .i8,n=>sgn 1 (n % (256 ^ 1:Nat)).toNat
 | .i16,n=>sgn 2 (n % (256 ^ 2:Nat)).toNat
 | .u16,n=>n % (256 ^ 2:Nat)
 | .i32,n=>sgn 4 (n % (256 ^ 4:Nat)).toNat
 | .i64,n=>sgn 8 (n % (256 ^ 8:Nat)).toNat
 | .f64,n=>n % (256 ^ 8:Nat)
def Scal.knd:Scal->Int
 | .bool=>0
 | .i8=>1
 | .i16=>2
 | .i32=>3
 | .i64=>4
 | .u16=>5
 | .f64=>6
theorem ja (n:Int) (k:Nat):(n % (256 ^ k:Nat)).toNat<256 ^ k:=by
 have hp:0<256 ^ k:=Nat.pow_pos (by decide)
 have h1:=Int.emod_nonneg n (show ((256 ^ k:Nat):Int)≠0 by omega)
 have h2:=Int.emod_lt_of_pos n (show (0:Int)<((256 ^ k:Nat):Int) by omega)
 omega
theorem be_fit {k:Nat} (hk:0<k) (n:Int):be k (sgn k (n % (256 ^ k:Nat)).toNat)=be k n:=by
 refine yZ k _ _ ?_
 have h1:=Int.emod_nonneg n (show ((256 ^ k:Nat):Int)≠0 by have:0<256 ^ k:=Nat.pow_pos (by decide);omega)
 rw[sgn_mod hk (ja n k)]
 omega
theorem Scal.fit_ok (s:Scal) (n:Int):s.ok (s.fit n):=by
 cases s
 case bool=>simp only[Scal.ok,Scal.fit];omega
 case u16=>simp only[Scal.ok,Scal.fit];omega
 case f64=>simp only[Scal.ok,Scal.fit];omega
 case i8=>have:=kF (k:=1) (by decide) (ja n 1);simp only[Scal.ok,Scal.fit];omega
 case i16=>have:=kF (k:=2) (by decide) (ja n 2);simp only[Scal.ok,Scal.fit];omega
 case i32=>have:=kF (k:=4) (by decide) (ja n 4);simp only[Scal.ok,Scal.fit];omega
 case i64=>have:=kF (k:=8) (by decide) (ja n 8);simp only[Scal.ok,Scal.fit];omega
theorem Scal.fit_wr (s:Scal) (n:Int) (h0:s≠.bool):s.wr (s.fit n)=be (xr s.knd.toNat) n:=by
 cases s
 case bool=>exact absurd rfl h0
 case i8=>exact be_fit (k:=1) (by decide) n
 case i16=>exact be_fit (k:=2) (by decide) n
 case i32=>exact be_fit (k:=4) (by decide) n
 case i64=>exact be_fit (k:=8) (by decide) n
 case u16=>exact yZ 2 _ _ (Int.emod_emod_of_dvd _ (Int.dvd_refl _))
 case f64 =>
  refine yZ 8 _ _ ?_
  simp only[Scal.fit]
  omega
theorem Scal.fit_bool (n:Int):Scal.bool.wr (Scal.bool.fit n)=[o8 (n % 2)]:=by
 have:n % 2=0\/n % 2=1:=by omega
 rcases this with h | h<;>simp[Scal.wr,Scal.fit,h,o8]
def SF.subs:SF->SFs
 | .mk _ _ _ _ _ _ _ sub=>sub
def zh (kn:Nat) (fx:Bool) (t:Tr):List (Nat × List UInt8):=if fx then (unk kn (match t with | .mk _ _ _ _ u=>u)).map (fun x=>(x.1,x.2.take 32767)) else []
def Ver.nxT (m:Nat):Ver->Nat
 | .tag _ _=>m+1
 | _=>m
def Tr.s:Tr->List UInt8
 | .mk _ s _ _ _=>s
def Tr.n:Tr->Int
 | .mk n _ _ _ _=>n
def Tr.l:Tr->List Tr
 | .mk _ _ _ l _=>l.toL
mutual
def Ty.toD (fx:Bool) (ver:Nat):Ty->SFs->Bool->Tr->D
 | .scal s _,_,_,t | .named s _ _,_,_,t=>.int (s.fit t.n)
 | .uuid,_,_,t=>.bytes (some (t.s.take 16++List.replicate (16-t.s.length) 0))
 | .text,_,nl,t | .bytes,_,nl,t=>.bytes (some (if nl then [] else t.s.take 32767))
 | .ntext,_,nl,t | .nbytes,_,nl,t | .ntextFrom _,_,nl,t=>.bytes (if nl then none else some (t.s.take 32767))
 | .list _ null e,sub,nl,t=>if nl||(null.isNone&&t.l.isEmpty) then .list none else .list (some ((t.l.take 32767).map fun t=>e.toD fx ver sub false t))
 | .struct _ _ _ fs,sub,_,t=>.obj (fs.toD fx ver sub 0 t) (zh (known sub.tags) fx t)
 | .nstruct _ _ _ _ _,_,_,_=>.list none
def Flds.toD (fx:Bool) (ver:Nat):Flds->SFs->Nat->Tr->List D
 | .nil _,_,_,_=>[]
 | .cons v ty r,.cons f rs,i,t=>(if v.has ver||(v.isTag&&fx) then ty.toD fx ver f.subs (f.isNull ver (t.at i)) (t.at i) else ty.dflt)::r.toD fx ver rs (i+1) t
 | .cons v ty r,.nil,i,t=>ty.dflt::r.toD fx ver .nil (i+1) t
end
def Ver.agr:Ver->Int->Int->Bool
 | .tag _ _,_,_=>false
 | .all,fr,to=>decide (fr<=0)&&decide (to<0)
 | .ge n,fr,to=>decide (fr=n)&&decide (to<0)
 | .btw n m,fr,to=>decide (fr=n)&&decide (to=m)
def Ver.agrT (m:Nat) (fr to tag:Int):Ver->Bool
 | .tag k _=>k==m&&decide (k<65536)&&decide (tag=(k:Int))
 | v=>v.agr fr to&&decide (tag<0)
def Ty.agrD (df:Int):Ty->Bool
 | .scal s d=>decide (d=df)&&s != .bool&&s != .f64&&s.okB d
 | _=>false
mutual
def Ty.agr:Ty->Int->Int->Int->SFs->Bool
 | .scal s _,kind,_,_,_ | .named s _ _,kind,_,_,_=>kind==s.knd
 | .uuid,kind,_,_,_=>kind==7
 | .text,kind,nul,_,_=>kind==8&&decide (nul<0)
 | .ntext,kind,_,_,_=>kind==8
 | .ntextFrom N,kind,nul,_,_=>kind==8&&decide (nul=(N:Int))
 | .bytes,kind,nul,_,_=>kind==9&&decide (nul<0)
 | .nbytes,kind,_,_,_=>kind==9
 | .list _ null e,kind,nul,el,sub=>kind==11&&(match null with | none=>decide (nul<0) | some N=>decide (nul<0)||decide ((N:Int)<=nul))&&(el != 11)&&e.agr el (-1) 0 sub
 | .struct _ _ _ fs,kind,nul,_,sub=>kind==10&&decide (nul<0)&&fs.agr sub
 | .nstruct _ _ _ _ _,_,_,_,_=>false
def Flds.agr:Flds->SFs->(m:Nat:=0)->Bool
 | .nil _,.nil,_=>true
 | .cons v ty r,.cons (.mk kind fr to nul tag df el sub) rs,m=>v.agrT m fr to tag&&(!v.isTag||ty.agrD df)&&ty.agr kind nul el sub&&Flds.agr r rs (v.nxT m)
 | _,_,_=>false
end
mutual
def Tr.tok:Tr->Prop
 | .mk _ _ _ l u=>(∀ x ∈ u,x.1<4294967296)/\l.tok
def Trs.tok:Trs->Prop
 | .nil=>True
 | .cons t r=>t.tok/\r.tok
end
theorem Trs.tok_get:∀ {l:Trs},l.tok->∀ {i:Nat} {t:Tr},l.get i=some t->t.tok
 | .nil,_,_,_,h=>by cases h
 | .cons t r,h,0,u,e=>by
  simp only[Trs.get,Option.some.injEq] at e
  subst e
  exact h.1
 | .cons t r,h,i+1,u,e=>Trs.tok_get (l:=r) h.2 e
theorem Trs.tok_toL:∀ {l:Trs},l.tok->∀ t ∈ l.toL,t.tok
 | .nil,_,t,h=>by simp[Trs.toL] at h
 | .cons u r,h,t,e=>by
  simp only[Trs.toL,List.mem_cons] at e
  rcases e with rfl | e
  ·exact h.1
  ·exact Trs.tok_toL (l:=r) h.2 t e
theorem Tr.tok_at {t:Tr} (h:t.tok) (i:Nat):(t.at i).tok:=by
 cases t with
 | mk n s nl l u =>
  simp only[Tr.at]
  cases hg:l.get i with
  | none=>exact ⟨by simp,trivial⟩
  | some x=>exact Trs.tok_get h.2 hg
theorem Tr.tok_l {t:Tr} (h:t.tok):∀ x ∈ t.l,x.tok:=by
 cases t with
 | mk n s nl l u=>exact Trs.tok_toL h.2
theorem ga (x:Nat × List UInt8):∀ l y,y ∈ zm x l->y=x\/y ∈ l
 | [],y,h=>by simpa [zm] using h
 | z::r,y,h=>by
  unfold zm at h
  split at h
  ·rcases List.mem_cons.1 h with h | h
   ·exact .inr (by simp[h])
   ·rcases ga x r y h with h | h
    ·exact .inl h
    ·exact .inr (by simp[h])
  ·split at h
   ·exact .inr h
   ·rcases List.mem_cons.1 h with h | h
    ·exact .inl h
    ·exact .inr h
theorem insU_lenD (x:Nat × List UInt8):∀ l,(zm x l).length<=l.length+1
 | []=>by simp[zm]
 | z::r=>by
  have:=insU_lenD x r
  unfold zm
  split
  ·simp only[List.length_cons];omega
  ·split<;>simp
theorem insU_sorted (x:Nat × List UInt8):∀ l:List (Nat × List UInt8),l.Pairwise (fun a b=>a.1<b.1)->(zm x l).Pairwise (fun a b=>a.1<b.1)
 | [],_=>by simp[zm]
 | z::r,h=>by
  have h1:=List.pairwise_cons.1 h
  unfold zm
  split
  ·rename_i hz
   refine List.pairwise_cons.2 ⟨fun y hy=>?_,insU_sorted x r h1.2⟩
   rcases ga x r y hy with rfl | hy
   ·exact hz
   ·exact h1.1 y hy
  ·split
   ·exact h
   ·rename_i h2 h3
    refine List.pairwise_cons.2 ⟨fun y hy=>?_,h⟩
    rcases List.mem_cons.1 hy with rfl | hy
    ·omega
    ·have:=h1.1 y hy
     omega
theorem wz (P:(Nat × List UInt8)->Prop) (least:Nat):∀ (u acc:List (Nat × List UInt8)),(∀ x ∈ u,P x)->(∀ x ∈ acc,P x)->acc.Pairwise (fun a b=>a.1<b.1) →
  (∀ x ∈ u.foldl (fun l x=>if x.1<least then l else zm x l) acc,P x)/\(u.foldl (fun l x=>if x.1<least then l else zm x l) acc).Pairwise (fun a b=>a.1<b.1)/\(u.foldl (fun l x=>if x.1<least then l else zm x l) acc).length<=acc.length+u.length
 | [],acc,_,h1,h2=>⟨h1,h2,Nat.le_refl _⟩
 | x::u,acc,h0,h1,h2=>by
  simp only[List.foldl_cons,List.length_cons]
  by_cases hx:x.1<least
  ·rw[if_pos hx]
   have:=wz P least u acc (fun y hy=>h0 y (by simp[hy])) h1 h2
   exact ⟨this.1,this.2.1,by omega⟩
  ·rw[if_neg hx]
   have h3:=wz P least u (zm x acc) (fun y hy=>h0 y (by simp[hy])) (fun y hy=>by
    rcases ga x acc y hy with rfl | hy
    ·exact h0 _ zS
    ·exact h1 y hy) (insU_sorted x acc h2)
   have:=insU_lenD x acc
   exact ⟨h3.1,h3.2.1,by have:=h3.2.2;omega⟩
theorem tagsD_good {kn:Nat} {fx:Bool} {t:Tr} (h:t.tok):if fx then kR (zh kn fx t) else zh kn fx t=[]:=by
 cases fx with
 | false=>simp[zh]
 | true =>
  simp only[if_true]
  cases t with
  | mk n s nl l u =>
   have h1:=wz (fun x=>x.1<4294967296) kn (u.take 32767) [] (fun x hx=>h.1 x (List.mem_of_mem_take hx)) zS List.Pairwise.nil
   have e:zh kn true (.mk n s nl l u)=(unk kn u).map (fun x=>(x.1,x.2.take 32767)):=rfl
   have hu:unk kn u=(u.take 32767).foldl (fun l x=>if x.1<kn then l else zm x l) []:=rfl
   rw[e]
   rw[← hu] at h1
   have h2:=List.length_take_le 32767 u
   refine ⟨⟨List.pairwise_map.2 h1.2.1,fun x hx=>?_⟩,?_,fun x hx=>?_⟩
   ·obtain ⟨y,hy,rfl⟩:=List.mem_map.1 hx
    exact h1.1 y hy
   ·rw[List.length_map]
    have:=h1.2.2
    simp only[List.length_nil] at this
    omega
   ·obtain ⟨y,hy,rfl⟩:=List.mem_map.1 hx
    have:=List.length_take_le 32767 y.2
    show (y.2.take 32767).length<_
    omega
theorem Ver.agr_has {v:Ver} {fr to:Int} (h:v.agr fr to=true) (ver:Nat) {kind nul tag df el:Int} {sub:SFs}:(SF.mk kind fr to nul tag df el sub).has (ver:Int)=v.has ver:=by
 cases v with
 | all =>
  simp only[Ver.agr,Bool.and_eq_true,decide_eq_true_eq] at h
  have h1:fr<=(ver:Int):=by omega
  simp[SF.has,Ver.has,h1,h.2]
 | ge n =>
  simp only[Ver.agr,Bool.and_eq_true,decide_eq_true_eq] at h
  obtain ⟨rfl,h2⟩:=h
  simp[SF.has,Ver.has,h2]
 | tag k lb=>cases h
 | btw n m =>
  simp only[Ver.agr,Bool.and_eq_true,decide_eq_true_eq] at h
  obtain ⟨rfl,rfl⟩:=h
  have h1:¬ ((m:Int)<0):=by omega
  simp[SF.has,Ver.has,h1]
theorem isNull_neg {kind fr to nul tag df el v:Int} {sub:SFs} {t:Tr} (h:nul<0):(SF.mk kind fr to nul tag df el sub).isNull v t=false:=by
 cases t with
 | mk n s nl l u =>
  have:¬ (nul ≥ 0):=by omega
  simp[SF.isNull,this]
theorem isNull_ge {kind fr to nul tag df el v:Int} {sub:SFs} {t:Tr} (h:(SF.mk kind fr to nul tag df el sub).isNull v t=true):0<=nul/\nul<=v:=by
 cases t with
 | mk n s nl l u =>
  simp only[SF.isNull,Bool.and_eq_true,decide_eq_true_eq] at h
  exact ⟨h.1.2,h.2⟩
theorem cnt2 (fx:Bool) (l:List UInt8):cnt fx false l.length 2++l=xS fx l:=by
 unfold cnt xS
 cases fx<;>simp
theorem cnt4 (fx:Bool) (l:List UInt8):cnt fx false l.length 4++l=xa fx l:=by
 unfold cnt xa
 cases fx<;>simp
theorem wrTg_eq (x:Nat × List UInt8):j8 x.1 x.2=qT x:=rfl
theorem insU_ge {m:Nat} (x:Nat × List UInt8) (hx:m<=x.1) (l:List (Nat × List UInt8)) (h:∀ y ∈ l,m<=y.1):∀ y ∈ zm x l,m<=y.1:=fun y hy=>by
 rcases ga x l y hy with rfl | hy
 ·exact hx
 ·exact h y hy
theorem unk_ge (m:Nat) (u:List (Nat × List UInt8)):∀ x ∈ unk m u,m<=x.1:=by
 unfold unk
 generalize u.take 32767=v
 have:∀ (v acc:List (Nat × List UInt8)),(∀ y ∈ acc,m<=y.1)->∀ y ∈ v.foldl (fun l x=>if x.1<m then l else zm x l) acc,m<=y.1:=by
  intro v
  induction v with
  | nil=>exact fun acc h=>h
  | cons x r ih =>
   intro acc h
   refine ih _ ?_
   show ∀ y ∈ (if x.1<m then acc else zm x acc),m<=y.1
   split
   ·exact h
   ·exact insU_ge x zH acc h
 exact this v [] zS
theorem wC {kn:Nat} {fx:Bool} {t:Tr}:∀ x ∈ zh kn fx t,kn<=x.1:=by
 intro x hx
 unfold zh at hx
 split at hx
 ·obtain ⟨y,hy,rfl⟩:=List.mem_map.1 hx
  exact unk_ge kn _ y hy
 ·simp at hx
def Rec.ou (r:Rec):List UInt8:=if r.1<0&&r.2.1 then r.2.2.2 else []
def Rec.tg (r:Rec):Option (Nat × List UInt8):=if decide (0<=r.1) && !r.2.2.1 then some (r.1.toNat,r.2.2.2) else none
def Rec.one (k:Nat) (r:Rec):Option (Nat × List UInt8):=if decide (r.1=((k:Nat):Int)) && !r.2.2.1 then some ((k:Nat),r.2.2.2) else none
def ordR:Nat->List Rec->Nat->Prop
 | m,[],n=>m=n
 | m,r::rs,n=>(r.1<0/\ordR m rs n)\/(r.1=(m:Int)/\ordR (m+1) rs n)
theorem ordR_le:∀ {rs:List Rec} {m n:Nat},ordR m rs n->m<=n
 | [],m,n,h=>by
  simp only[ordR] at h
  omega
 | r::rs,m,n,h=>by
  rcases h with ⟨_,h⟩ | ⟨_,h⟩
  ·exact ordR_le h
  ·have:=ordR_le h;omega
theorem ordR_ge:∀ {rs:List Rec} {m n:Nat},ordR m rs n->∀ r ∈ rs,0<=r.1->(m:Int)<=r.1
 | [],m,n,h,r,hr,_=>by simp at hr
 | x::rs,m,n,h,r,hr,h0=>by
  rcases h with ⟨hx,h⟩ | ⟨hx,h⟩
  ·rcases List.mem_cons.1 hr with rfl | hr
   ·omega
   ·exact ordR_ge h r hr h0
  ·rcases List.mem_cons.1 hr with rfl | hr
   ·omega
   ·have:=ordR_ge h r hr h0
    omega
theorem one_none {rs:List Rec} {m n k:Nat} (h:ordR m rs n) (hk:k<m):rs.filterMap (Rec.one k)=[]:=by
 refine List.filterMap_eq_nil_iff.2 (fun r hr=>?_)
 unfold Rec.one
 have:¬ r.1=(k:Int):=fun e=>by
  have:=ordR_ge h r hr zH
  omega
 simp[this]
theorem tg_ord:∀ (rs:List Rec) (m n:Nat),ordR m rs n->(List.range' m (n-m)).flatMap (fun k=>rs.filterMap (Rec.one k))=rs.filterMap Rec.tg
 | [],m,n,h=>by simp
 | r::rs,m,n,h=>by
  rcases h with ⟨hr,h⟩ | ⟨hr,h⟩
  ·have e:∀ k,Rec.one k r=none:=fun k=>by
    unfold Rec.one
    have:¬ r.1=(k:Int):=by omega
    simp[this]
   have e2:Rec.tg r=none:=by
    unfold Rec.tg
    have:¬ 0<=r.1:=by omega
    simp[this]
   rw[List.filterMap_cons_none e2,← tg_ord rs m n h]
   congr 1
   funext k
   rw[List.filterMap_cons_none (e k)]
  ·have hle:=ordR_le h
   have hnm:n-m=(n-(m+1))+1:=by omega
   rw[hnm,List.range'_succ,List.flatMap_cons]
   have e1:(r::rs).filterMap (Rec.one m)=(Rec.one m r).toList:=by
    cases ho:Rec.one m r with
    | none=>rw[List.filterMap_cons_none ho,one_none h zH];rfl
    | some x=>rw[List.filterMap_cons_some ho,one_none h zH];rfl
   have e2:(List.range' (m+1) (n-(m+1))).flatMap (fun k=>(r::rs).filterMap (Rec.one k))=(List.range' (m+1) (n-(m+1))).flatMap (fun k=>rs.filterMap (Rec.one k)):=by
    simp only[List.flatMap]
    congr 1
    refine List.map_congr_left (fun k hk=>?_)
    have hk':=(List.mem_range'_1.1 hk).1
    have:Rec.one k r=none:=by
     unfold Rec.one
     have:¬ r.1=(k:Int):=by omega
     simp[this]
    rw[List.filterMap_cons_none this]
   have e3:Rec.one m r=Rec.tg r:=by
    unfold Rec.one Rec.tg
    rw[hr]
    simp
   rw[e1,e2,tg_ord rs (m+1) n h,e3]
   cases ho:Rec.tg r with
   | none=>rw[List.filterMap_cons_none ho];rfl
   | some x=>rw[List.filterMap_cons_some ho];rfl
theorem vq:∀ (rs:List Rec) (m n:Nat),ordR m rs n->(rs.map (·.1)).foldl (fun n t=>if 0<=t then max n (t.toNat+1) else n) m=n
 | [],m,n,h=>h
 | r::rs,m,n,h=>by
  rw[List.map_cons,List.foldl_cons]
  rcases h with ⟨hr,h⟩ | ⟨hr,h⟩
  ·rw[if_neg zH]
   exact vq rs m n h
  ·rw[if_pos zH,hr]
   have:max m ((m:Int).toNat+1)=m+1:=by simp
   rw[this]
   exact vq rs (m+1) n h
theorem gw {fx:Bool} {rs:List Rec} {t:Tr} {n:Nat} (h:ordR 0 rs n) :
  kC fx rs (match t with | .mk _ _ _ _ u=>u)=(rs.map Rec.ou).flatten++(if fx then zQ (rs.filterMap Rec.tg++zh n fx t) else []):=by
 have h2:known (rs.map (·.1))=n:=vq rs 0 n h
 have h3:(List.range n).flatMap (fun (k:Nat)=>rs.filterMap fun r=>if decide (r.1=((k:Nat):Int)) && !r.2.2.1 then some ((k:Nat),r.2.2.2) else none)=rs.filterMap Rec.tg:=by
  have:=tg_ord rs 0 n h
  rw[Nat.sub_zero,← List.range_eq_range'] at this
  exact this
 have ho:(rs.map fun r=>if r.1<0&&r.2.1 then r.2.2.2 else [])=rs.map Rec.ou:=rfl
 unfold kC
 simp only[h2,ho]
 cases fx with
 | false=>simp
 | true =>
  simp only[if_true,h3]
  simp[zQ,zh,wrTg_eq]
def Flds.topT:Flds->Nat->Nat
 | .nil _,m=>m
 | .cons v _ r,m=>r.topT (v.nxT m)
theorem Flds.agr_ord:∀ {fs:Flds} {sub:SFs} {m:Nat},fs.agr sub m=true->∀ (v:Int) (fx:Bool) (i:Nat) (t:Tr),ordR m (sub.recs v fx i t) (fs.topT m)
 | .nil _,.nil,m,_,v,fx,i,t=>by simp[SFs.recs,ordR,Flds.topT]
 | .nil _,.cons _ _,_,h,_,_,_,_=>by simp[Flds.agr] at h
 | .cons _ _ _,.nil,_,h,_,_,_,_=>by simp[Flds.agr] at h
 | .cons vv ty fs,.cons (.mk kind fr to nul tag df el sub) rs,m,h,v,fx,i,t=>by
  simp only[Flds.agr,Bool.and_eq_true] at h
  have ih:=Flds.agr_ord h.2 v fx (i+1) t
  simp only[SFs.recs,Flds.topT]
  cases hv:vv.isTag with
  | true =>
   cases vv with
   | tag k lb =>
    have:=h.1.1.1
    simp only[Ver.agrT,Bool.and_eq_true,beq_iff_eq,decide_eq_true_eq] at this
    obtain ⟨⟨rfl,_⟩,rfl⟩:=this
    exact .inr ⟨rfl,ih⟩
   | _=>cases hv
  | false =>
   have:=h.1.1.1
   have h2:tag<0:=by
    cases vv<;>first | (cases hv;done) | (simp only[Ver.agrT,Bool.and_eq_true,decide_eq_true_eq] at this;exact this.2)
   have h3:vv.nxT m=m:=by cases vv<;>first | (cases hv;done) | rfl
   rw[h3] at ih ⊢
   exact .inl ⟨h2,ih⟩
theorem Flds.agr_known {fs:Flds} {sub:SFs} (h:fs.agr sub=true):known sub.tags=fs.topT 0:=by
 have h1:=vq _ 0 _ (Flds.agr_ord h 0 false 0 (.mk 0 [] false .nil []))
 have h2:∀ (s:SFs) (i:Nat),(s.recs 0 false i (.mk 0 [] false .nil [])).map (·.1)=s.tags:=by
  intro s
  induction s using SFs.rec (motive_1:=fun _=>True) with
  | mk=>trivial
  | nil=>intro i;simp[SFs.recs,SFs.tags]
  | cons f r _ ih =>
   intro i
   cases f
   simp[SFs.recs,SFs.tags,ih]
 rw[h2] at h1
 exact h1
theorem Scal.wr_be (s:Scal) (n:Int) (h:s≠.bool) (h':s≠.f64):s.wr n=be (xr s.knd.toNat) n:=by cases s<;>first | exact absurd rfl h | exact absurd rfl h' | rfl
theorem Scal.wr_inj {s:Scal} {a b:Int} (ha:s.ok a) (hb:s.ok b) (h:s.wr a=s.wr b):a=b:=by
 have h1:=Scal.rd_wr ha []
 have h2:=Scal.rd_wr hb []
 rw[h,h2] at h1
 exact (Prod.mk.inj h1).1.symm
theorem usual_isD {s:Scal} {d fr to nul tag el:Int} {sub:SFs} {t:Tr} (hb:s≠.bool) (hb':s≠.f64) (hd:s.ok d):(SF.mk s.knd fr to nul tag d el sub).usual t=(s.fit t.n==d):=by
 cases t with
 | mk n sv nl l u =>
  have h1:(SF.mk s.knd fr to nul tag d el sub).usual (.mk n sv nl l u)=(be (xr s.knd.toNat) n==be (xr s.knd.toNat) d):=by
   cases s<;>first | exact absurd rfl hb | (simp[SF.usual,Scal.knd])
  rw[h1,← Scal.fit_wr s n hb,← Scal.wr_be s d hb hb']
  by_cases h:s.fit n=d
  ·simp[Tr.n,h]
  ·have h2:¬ s.wr (s.fit n)=s.wr d:=fun e=>h (Scal.wr_inj (s.fit_ok n) hd e)
   rw[show (Tr.mk n sv nl l u).n=n from rfl,beq_eq_false_iff_ne.2 h2,beq_eq_false_iff_ne.2 h]
theorem Flds.topT_ge:∀ (fs:Flds) (m:Nat),m<=fs.topT m
 | .nil _,m=>Nat.le_refl _
 | .cons v _ r,m=>by
  have:=Flds.topT_ge r (v.nxT m)
  have h2:m<=v.nxT m:=by cases v<;>simp[Ver.nxT]
  simp only[Flds.topT]
  omega
theorem Flds.topT_le:∀ {fs:Flds} {sub:SFs} {m:Nat},fs.agr sub m=true->m<=65536->fs.topT m<=65536
 | .nil _,.nil,m,_,h=>h
 | .nil _,.cons _ _,_,h,_=>by simp[Flds.agr] at h
 | .cons _ _ _,.nil,_,h,_=>by simp[Flds.agr] at h
 | .cons v ty r,.cons (.mk kind fr to nul tag df el sub) rs,m,h,hm=>by
  simp only[Flds.agr,Bool.and_eq_true] at h
  simp only[Flds.topT]
  refine Flds.topT_le h.2 ?_
  cases v with
  | tag k lb =>
   have:=h.1.1.1
   simp only[Ver.agrT,Bool.and_eq_true,beq_iff_eq,decide_eq_true_eq] at this
   simp only[Ver.nxT]
   omega
  | _=>exact hm
end Go.Km
namespace Go.Km
open Go Go.RowKit
def ptOf (fx:Bool) (v:Int) (sub:SFs):Tr->List UInt8:=fun t=>kC fx (sub.recs v fx 0 t) (match t with | .mk _ _ _ _ u=>u)
theorem SF.wrV {fx:Bool} {v kind fr to nul tag df el:Int} {sub:SFs} {t:Tr} (h11:kind≠11) (h10:kind=10->nul<0) :
  SF.wr v fx (.mk kind fr to nul tag df el sub) t=xP kind (ptOf fx v sub) ((SF.mk kind fr to nul tag df el sub).isNull v t) fx t:=by
 have h:¬ ((decide (kind=10)&&decide (nul ≥ 0))=true):=by
  simp only[Bool.and_eq_true,decide_eq_true_eq]
  rintro ⟨h1,h2⟩
  have:=h10 h1
  omega
 simp only[SF.wr,h11,if_false,h]
 rfl
theorem SF.wrL {fx:Bool} {v fr to nul tag df el:Int} {sub:SFs} {t:Tr} :
  SF.wr v fx (.mk 11 fr to nul tag df el sub) t=cnt fx ((SF.mk 11 fr to nul tag df el sub).isNull v t) (if (SF.mk 11 fr to nul tag df el sub).isNull v t then [] else t.l.take 32767).length 4++((if (SF.mk 11 fr to nul tag df el sub).isNull v t then [] else t.l.take 32767).map fun t=>xP el (ptOf fx v sub) false fx t).flatten:=by
 cases t
 simp only[SF.wr,if_true]
 rfl
theorem valW_num {s:Scal} {pt:Tr->List UInt8} {nl fx:Bool} {t:Tr}:xP s.knd pt nl fx t=s.wr (s.fit t.n):=by
 cases t with
 | mk n sv b l u =>
  by_cases hb:s=.bool
  ·subst hb
   rw[Scal.fit_bool]
   rfl
  ·rw[Scal.fit_wr s _ hb]
   cases s<;>first | exact absurd rfl hb | rfl
theorem valW_uuid {pt:Tr->List UInt8} {nl fx:Bool} {t:Tr}:xP 7 pt nl fx t=t.s.take 16++List.replicate (16-t.s.length) 0:=by
 cases t;rfl
theorem valW_text {pt:Tr->List UInt8} {nl fx:Bool} {t:Tr}:xP 8 pt nl fx t=cnt fx nl (if nl then [] else t.s.take 32767).length 2++(if nl then [] else t.s.take 32767):=by
 cases t;rfl
theorem valW_bytes {pt:Tr->List UInt8} {nl fx:Bool} {t:Tr}:xP 9 pt nl fx t=cnt fx nl (if nl then [] else t.s.take 32767).length 4++(if nl then [] else t.s.take 32767):=by
 cases t;rfl
theorem valW_struct {pt:Tr->List UInt8} {nl fx:Bool} {t:Tr}:xP 10 pt nl fx t=pt t:=by
 cases t;rfl
theorem Scal.knd_le (s:Scal):s.knd<=6:=by cases s<;>decide
theorem unk_len2 (m:Nat) (u:List (Nat × List UInt8)):(unk m u).length<=32767:=by
 have h1:=wz (fun _=>True) m (u.take 32767) [] (fun _ _=>trivial) zS List.Pairwise.nil
 have h2:=List.length_take_le 32767 u
 have h3:=h1.2.2
 simp only[List.length_nil] at h3
 have:(unk m u).length=((u.take 32767).foldl (fun l x=>if x.1<m then l else zm x l) []).length:=rfl
 omega
theorem tagsD_len {kn:Nat} {fx:Bool} {t:Tr}:(zh kn fx t).length<=32767:=by
 unfold zh
 split
 ·rw[List.length_map];exact unk_len2 _ _
 ·simp
mutual
theorem Ty.toD_wr (fx:Bool) (ver:Nat):∀ (ty:Ty) (kind fr to nul tag df el:Int) (sub:SFs) (t:Tr),ty.agr kind nul el sub=true →
  (∀ nl:Bool,(nl=true->0<=nul/\nul<=ver)->kind≠11->xP kind (ptOf fx ver sub) nl fx t=ty.wr fx ver (ty.toD fx ver sub nl t)) ∧
  SF.wr ver fx (.mk kind fr to nul tag df el sub) t=ty.wr fx ver (ty.toD fx ver sub ((SF.mk kind fr to nul tag df el sub).isNull ver t) t)
 | .scal s _,kind,fr,to,nul,tag,df,el,sub,t,h | .named s _ _,kind,fr,to,nul,tag,df,el,sub,t,h=>by
  simp only[Ty.agr,beq_iff_eq] at h
  subst h
  have hk:=s.knd_le
  have hA:∀ nl:Bool,xP s.knd (ptOf fx ver sub) nl fx t=s.wr (s.fit t.n):=fun nl=>valW_num
  refine ⟨fun nl _ _=>by simp only[Ty.toD,Ty.wr];exact hA nl,?_⟩
  rw[SF.wrV zH zH,hA]
  simp only[Ty.toD,Ty.wr]
 | .uuid,kind,fr,to,nul,tag,df,el,sub,t,h=>by
  simp only[Ty.agr,beq_iff_eq] at h
  subst h
  refine ⟨fun nl _ _=>by simp only[Ty.toD,Ty.wr];exact valW_uuid,?_⟩
  rw[SF.wrV zH zH,valW_uuid]
  simp only[Ty.toD,Ty.wr]
 | .text,kind,fr,to,nul,tag,df,el,sub,t,h=>by
  simp only[Ty.agr,Bool.and_eq_true,beq_iff_eq,decide_eq_true_eq] at h
  obtain ⟨rfl,h2⟩:=h
  have hA:∀ nl:Bool,nl=false->xP 8 (ptOf fx ver sub) nl fx t=Ty.wr fx ver .text (Ty.toD fx ver .text sub nl t):=fun nl hn=>by
   subst hn
   rw[valW_text]
   simp only[Ty.toD,Ty.wr,Bool.false_eq_true,if_false]
   exact cnt2 fx _
  refine ⟨fun nl hn _=>hA nl (by cases nl with | false=>rfl | true=>have:=hn rfl;omega),?_⟩
  rw[SF.wrV zH zH]
  exact hA _ (isNull_neg h2)
 | .ntext,kind,fr,to,nul,tag,df,el,sub,t,h=>by
  simp only[Ty.agr,beq_iff_eq] at h
  subst h
  have hA:∀ nl:Bool,xP 8 (ptOf fx ver sub) nl fx t=Ty.wr fx ver .ntext (Ty.toD fx ver .ntext sub nl t):=fun nl=>by
   rw[valW_text]
   cases nl with
   | false =>
    simp only[Ty.toD,Ty.wr,Bool.false_eq_true,if_false,xK]
    exact cnt2 fx _
   | true=>cases fx<;>simp[Ty.toD,Ty.wr,xK,cnt]
  refine ⟨fun nl _ _=>hA nl,?_⟩
  rw[SF.wrV zH zH]
  exact hA _
 | .ntextFrom N,kind,fr,to,nul,tag,df,el,sub,t,h=>by
  simp only[Ty.agr,Bool.and_eq_true,beq_iff_eq,decide_eq_true_eq] at h
  obtain ⟨rfl,h2⟩:=h
  have hA:∀ nl:Bool,(nl=true->0<=nul/\nul<=ver)->xP 8 (ptOf fx ver sub) nl fx t=Ty.wr fx ver (.ntextFrom N) (Ty.toD fx ver (.ntextFrom N) sub nl t):=fun nl hn=>by
   rw[valW_text]
   cases nl with
   | false =>
    have e:Ty.wr fx ver (.ntextFrom N) (.bytes (some (t.s.take 32767)))=xS fx (t.s.take 32767):=by
     simp only[Ty.wr]
     split<;>rfl
    simp only[Ty.toD,Bool.false_eq_true,if_false,e]
    exact cnt2 fx _
   | true =>
    have hN:¬ ver<N:=by have:=hn rfl;omega
    cases fx<;>simp[Ty.toD,Ty.wr,xK,cnt,hN]
  refine ⟨fun nl hn _=>hA nl hn,?_⟩
  rw[SF.wrV zH zH]
  exact hA _ (fun h=>isNull_ge h)
 | .bytes,kind,fr,to,nul,tag,df,el,sub,t,h=>by
  simp only[Ty.agr,Bool.and_eq_true,beq_iff_eq,decide_eq_true_eq] at h
  obtain ⟨rfl,h2⟩:=h
  have hA:∀ nl:Bool,nl=false->xP 9 (ptOf fx ver sub) nl fx t=Ty.wr fx ver .bytes (Ty.toD fx ver .bytes sub nl t):=fun nl hn=>by
   subst hn
   rw[valW_bytes]
   simp only[Ty.toD,Ty.wr,Bool.false_eq_true,if_false,Option.getD_some]
   exact cnt4 fx _
  refine ⟨fun nl hn _=>hA nl (by cases nl with | false=>rfl | true=>have:=hn rfl;omega),?_⟩
  rw[SF.wrV zH zH]
  exact hA _ (isNull_neg h2)
 | .nbytes,kind,fr,to,nul,tag,df,el,sub,t,h=>by
  simp only[Ty.agr,beq_iff_eq] at h
  subst h
  have hA:∀ nl:Bool,xP 9 (ptOf fx ver sub) nl fx t=Ty.wr fx ver .nbytes (Ty.toD fx ver .nbytes sub nl t):=fun nl=>by
   rw[valW_bytes]
   cases nl with
   | false =>
    simp only[Ty.toD,Ty.wr,Bool.false_eq_true,if_false,xj]
    exact cnt4 fx _
   | true=>cases fx<;>simp[Ty.toD,Ty.wr,xj,cnt]
  refine ⟨fun nl _ _=>hA nl,?_⟩
  rw[SF.wrV zH zH]
  exact hA _
 | .list TS null e,kind,fr,to,nul,tag,df,el,sub,t,h=>by
  simp only[Ty.agr,Bool.and_eq_true,beq_iff_eq,bne_iff_ne,ne_eq] at h
  obtain ⟨⟨⟨rfl,hnul⟩,hel⟩,he⟩:=h
  refine ⟨fun nl _ h11=>absurd rfl h11,?_⟩
  have hE:∀ x:Tr,xP el (ptOf fx ver sub) false fx x=e.wr fx ver (e.toD fx ver sub false x):=fun x=>(Ty.toD_wr fx ver e el 0 0 (-1) 0 0 0 sub x he).1 false (fun h=>by cases h) hel
  rw[SF.wrL]
  have hgn:(SF.mk 11 fr to nul tag df el sub).isNull ver t=true->∃ N,null=some N:=fun h=>by
   have:=isNull_ge h
   cases null with
   | none=>simp only[decide_eq_true_eq] at hnul;omega
   | some N=>exact ⟨N,rfl⟩
  generalize hb:(SF.mk 11 fr to nul tag df el sub).isNull ver t=b at *
  cases b with
  | true =>
   obtain ⟨N,rfl⟩:=hgn rfl
   cases fx<;>simp[Ty.toD,Ty.wr,cnt,j7]
  | false =>
   simp only[Bool.false_eq_true,if_false,Ty.toD,Bool.false_or]
   cases hc:(null.isNone&&t.l.isEmpty) with
   | true =>
    simp only[Bool.and_eq_true,Option.isNone_iff_eq_none,List.isEmpty_iff] at hc
    obtain ⟨rfl,h2⟩:=hc
    rw[h2]
    cases fx<;>simp[Ty.wr,cnt,zg]
   | false =>
    simp only[Bool.false_eq_true,if_false,Ty.wr,List.length_map,List.map_map]
    have e1:cnt fx false (t.l.take 32767).length 4=zg fx (t.l.take 32767).length:=by cases fx<;>simp[cnt,zg]
    rw[e1]
    congr 2
    exact List.map_congr_left fun x _=>hE x
 | .nstruct _ _ _ _ _,kind,fr,to,nul,tag,df,el,sub,t,h=>by simp[Ty.agr] at h
 | .struct TP TU F fs,kind,fr,to,nul,tag,df,el,sub,t,h=>by
  simp only[Ty.agr,Bool.and_eq_true,beq_iff_eq,decide_eq_true_eq] at h
  obtain ⟨⟨rfl,h2⟩,h3⟩:=h
  have hA:∀ nl:Bool,xP 10 (ptOf fx ver sub) nl fx t=Ty.wr fx ver (.struct TP TU F fs) (Ty.toD fx ver (.struct TP TU F fs) sub nl t):=fun nl=>by
   rw[valW_struct]
   simp only[Ty.toD,Ty.wr]
   unfold ptOf
   refine (gw (t:=t) (Flds.agr_ord h3 _ _ _ _)).trans ?_
   rw[Flds.agr_known h3]
   have:=Flds.toD_wr fx ver fs sub 0 t 0 [] (zh (fs.topT 0) fx t) h3 zS wC
   simp only[List.nil_append] at this
   rw[this]
   congr 1
   cases fx<;>simp[zh]
  refine ⟨fun nl _ _=>hA nl,?_⟩
  rw[SF.wrV zH zH]
  exact hA _
theorem Flds.toD_wr (fx:Bool) (ver:Nat):∀ (fs:Flds) (sub:SFs) (i:Nat) (t:Tr) (m:Nat) (acc un:List (Nat × List UInt8)),fs.agr sub m=true->(∀ x ∈ acc,x.1<m)->(∀ x ∈ un,fs.topT m<=x.1) →
  ((sub.recs ver fx i t).map Rec.ou).flatten++(if fx then zQ (acc++(sub.recs ver fx i t).filterMap Rec.tg++un) else [])=fs.wr fx ver (fs.toD fx ver sub i t) (if fx then acc++un else [])
 | .nil _,.nil,i,t,m,acc,un,h,ha,hu=>by cases fx<;>simp[SFs.recs,Flds.wr]
 | .nil _,.cons _ _,i,t,m,acc,un,h,ha,hu=>by simp[Flds.agr] at h
 | .cons _ _ _,.nil,i,t,m,acc,un,h,ha,hu=>by simp[Flds.agr] at h
 | .cons v ty r,.cons (.mk kind fr to nul tag df el sub) rs,i,t,m,acc,un,h,ha,hu=>by
  simp only[Flds.agr,Bool.and_eq_true] at h
  simp only[Flds.topT] at hu
  have h2:=(Ty.toD_wr fx ver ty kind fr to nul tag df el sub (t.at i) h.1.2).2
  simp only[SFs.recs,List.map_cons,List.flatten_cons,Flds.toD,Flds.wr,List.append_assoc]
  cases hv:v.isTag with
  | false =>
   have hag:=h.1.1.1
   obtain ⟨hagr,htag⟩:v.agr fr to=true/\tag<0:=by
    cases v<;>first | (cases hv;done) | (simp only[Ver.agrT,Bool.and_eq_true,decide_eq_true_eq] at hag;exact hag)
   have hnx:v.nxT m=m:=by cases v<;>first | (cases hv;done) | rfl
   rw[hnx] at hu
   have h1:=Flds.toD_wr fx ver r rs (i+1) t m acc un (by rw[← hnx];exact h.2) ha hu
   rw[Ver.addTag_no hv]
   have e1:Rec.tg (tag,(SF.mk kind fr to nul tag df el sub).has ver,(SF.mk kind fr to nul tag df el sub).usual (t.at i),SF.wr ver fx (.mk kind fr to nul tag df el sub) (t.at i))=none:=by
    unfold Rec.tg
    have:¬ 0<=tag:=by omega
    simp[this]
   have e2:Rec.ou (tag,(SF.mk kind fr to nul tag df el sub).has ver,(SF.mk kind fr to nul tag df el sub).usual (t.at i),SF.wr ver fx (.mk kind fr to nul tag df el sub) (t.at i))=if v.has ver then SF.wr ver fx (.mk kind fr to nul tag df el sub) (t.at i) else []:=by
    unfold Rec.ou
    rw[Ver.agr_has hagr ver]
    simp[htag]
   rw[List.filterMap_cons_none e1,e2]
   simp only[List.append_assoc] at h1
   rw[h1]
   congr 1
   cases hh:v.has ver with
   | false=>simp
   | true =>
    simp only[if_true,Bool.true_or]
    exact h2
  | true =>
   cases v with
   | tag k lb =>
    have hag:=h.1.1.1
    simp only[Ver.agrT,Bool.and_eq_true,beq_iff_eq,decide_eq_true_eq] at hag
    obtain ⟨⟨rfl,hk⟩,rfl⟩:=hag
    simp only[Ver.nxT] at hu h
    have hD:=h.1.1.2
    simp only[Ver.isTag,Bool.not_true,Bool.false_or] at hD
    cases ty with
    | scal s d =>
     simp only[Ty.agrD,Bool.and_eq_true,bne_iff_ne,ne_eq,decide_eq_true_eq] at hD
     obtain ⟨⟨⟨rfl,hb⟩,hb'⟩,hokd⟩:=hD
     have hkind:=h.1.2
     simp only[Ty.agr,beq_iff_eq] at hkind
     subst hkind
     have hus:(SF.mk s.knd fr to nul (k:Int) d el sub).usual (t.at i)=(s.fit (t.at i).n==d):=usual_isD hb hb' (s.okB_ok hokd)
     have hou:∀ a b c,Rec.ou (((k:Nat):Int),a,b,c)=[]:=fun a b c=>by
      unfold Rec.ou
      have:¬ ((k:Int)<0):=by omega
      simp[this]
     rw[hou]
     simp only[Ver.has,Bool.false_eq_true,if_false,List.nil_append,Ver.isTag,Bool.false_or,Bool.true_and]
     cases fx with
     | false =>
      have h1:=Flds.toD_wr false ver r rs (i+1) t (k+1) acc un h.2 (fun x hx=>by have:=ha x hx;omega) hu
      simp only[Bool.false_eq_true,if_false] at h1 ⊢
      exact h1
     | true =>
      simp only[if_true,Ty.toD,Ty.isD,Ver.addTag,Bool.true_and]
      simp only[Ty.toD] at h2
      have htg:Rec.tg (((k:Nat):Int),(SF.mk s.knd fr to nul (k:Int) d el sub).has ver,(SF.mk s.knd fr to nul (k:Int) d el sub).usual (t.at i),SF.wr ver true (.mk s.knd fr to nul (k:Int) d el sub) (t.at i))=if s.fit (t.at i).n==d then none else some (k,Ty.wr true ver (.scal s d) (.int (s.fit (t.at i).n))):=by
       unfold Rec.tg
       rw[hus,h2]
       have h0:(0:Int)<=(k:Int):=by omega
       cases (s.fit (t.at i).n==d)<;>simp[h0]
      cases hd:(s.fit (t.at i).n==d) with
      | true =>
       rw[hd] at htg
       simp only[if_true] at htg
       rw[List.filterMap_cons_none htg]
       have h1:=Flds.toD_wr true ver r rs (i+1) t (k+1) acc un h.2 (fun x hx=>by have:=ha x hx;omega) hu
       simp only[if_true,List.append_assoc] at h1
       simp only[Bool.not_true,Bool.false_eq_true,if_false]
       exact h1
      | false =>
       rw[hd] at htg
       simp only[Bool.false_eq_true,if_false] at htg
       rw[List.filterMap_cons_some htg]
       have hge:=Flds.topT_ge r (k+1)
       have h1:=Flds.toD_wr true ver r rs (i+1) t (k+1) (acc++[(k,Ty.wr true ver (.scal s d) (.int (s.fit (t.at i).n)))]) un h.2 (fun x hx=>by
        rcases List.mem_append.1 hx with hx | hx
        ·have:=ha x hx;omega
        ·rw[List.mem_singleton.1 hx]
         exact Nat.lt_succ_self _) hu
       simp only[if_true,List.append_assoc,List.singleton_append] at h1
       simp only[Bool.not_false,if_true,List.cons_append]
       rw[ya acc k _ un ha (fun x hx=>by have:=hu x hx;omega)]
       exact h1
    | _=>cases hD
   | _=>cases hv
end
theorem wB (l:List UInt8):(l.take 32767).length<=32767:=List.length_take_le _ _
theorem vP (fx:Bool) {l:List UInt8} (h:l.length<=32767):wE fx l:=by
 unfold wE
 cases fx<;>simp<;>omega
theorem octOk_take (fx:Bool) {l:List UInt8} (h:l.length<=32767):yQ fx l:=by
 unfold yQ
 cases fx<;>simp<;>omega
mutual
theorem Ty.toD_good (fx:Bool) (ver:Nat):∀ (ty:Ty) (kind nul el:Int) (sub:SFs) (nl:Bool) (t:Tr),ty.agr kind nul el sub=true->t.tok->(nl=true->0<=nul/\nul<=ver)->ty.good fx ver (ty.toD fx ver sub nl t)
 | .scal s _,kind,nul,el,sub,nl,t,h,ht,hn | .named s _ _,kind,nul,el,sub,nl,t,h,ht,hn=>by
  simp only[Ty.toD,Ty.good]
  exact s.fit_ok _
 | .uuid,kind,nul,el,sub,nl,t,h,ht,hn=>by
  simp only[Ty.toD,Ty.good,List.length_append,List.length_take,List.length_replicate]
  omega
 | .text,kind,nul,el,sub,nl,t,h,ht,hn=>by
  simp only[Ty.toD,Ty.good]
  refine vP fx ?_
  split
  ·simp
  ·exact wB _
 | .ntext,kind,nul,el,sub,nl,t,h,ht,hn=>by
  simp only[Ty.toD]
  cases nl with
  | true=>simp[Ty.good]
  | false=>simp only[Bool.false_eq_true,if_false,Ty.good];exact vP fx (wB _)
 | .ntextFrom N,kind,nul,el,sub,nl,t,h,ht,hn=>by
  simp only[Ty.agr,Bool.and_eq_true,beq_iff_eq,decide_eq_true_eq] at h
  simp only[Ty.toD]
  cases nl with
  | true =>
   simp only[if_true,Ty.good]
   have:=hn rfl
   omega
  | false=>simp only[Bool.false_eq_true,if_false,Ty.good];exact vP fx (wB _)
 | .bytes,kind,nul,el,sub,nl,t,h,ht,hn=>by
  simp only[Ty.toD,Ty.good]
  refine octOk_take fx ?_
  split
  ·simp
  ·exact wB _
 | .nbytes,kind,nul,el,sub,nl,t,h,ht,hn=>by
  simp only[Ty.toD]
  cases nl with
  | true=>simp[Ty.good]
  | false=>simp only[Bool.false_eq_true,if_false,Ty.good];exact octOk_take fx (wB _)
 | .list TS null e,kind,nul,el,sub,nl,t,h,ht,hn=>by
  simp only[Ty.agr,Bool.and_eq_true,beq_iff_eq,bne_iff_ne,ne_eq] at h
  obtain ⟨⟨⟨rfl,hnul⟩,hel⟩,he⟩:=h
  simp only[Ty.toD]
  cases hc:(nl||(null.isNone&&t.l.isEmpty)) with
  | true =>
   simp only[if_true,Ty.good]
   cases null with
   | none=>exact .inl rfl
   | some N =>
    simp only[Option.isNone_some,Bool.false_and,Bool.or_false] at hc
    simp only[Bool.or_eq_true,decide_eq_true_eq] at hnul
    have:=hn hc
    exact .inr ⟨N,rfl,by omega⟩
  | false =>
   simp only[Bool.or_eq_false_iff] at hc
   simp only[Bool.false_eq_true,if_false,Ty.good,List.length_map,List.mem_map]
   have hl:=List.length_take_le 32767 t.l
   refine ⟨fun h0 hm=>?_,by omega,?_⟩
   ·subst h0
    have h1:=hc.2
    simp only[Option.isNone_none,Bool.true_and] at h1
    have h2:=congrArg List.length hm
    simp only[List.length_map,List.length_nil,List.length_take] at h2
    have h3:t.l=[]:=List.eq_nil_of_length_eq_zero zH
    rw[h3] at h1
    simp at h1
   ·rintro d ⟨x,hx,rfl⟩
    exact Ty.toD_good fx ver e el (-1) 0 sub false x he (Tr.tok_l ht x (List.mem_of_mem_take hx)) (fun h=>by cases h)
 | .nstruct _ _ _ _ _,kind,nul,el,sub,nl,t,h,ht,hn=>by simp[Ty.agr] at h
 | .struct TP TU F fs,kind,nul,el,sub,nl,t,h,ht,hn=>by
  simp only[Ty.agr,Bool.and_eq_true,beq_iff_eq,decide_eq_true_eq] at h
  simp only[Ty.toD,Ty.good]
  rw[Flds.agr_known h.2]
  have hle:=Flds.topT_le h.2 zH
  have:=Flds.toD_good fx ver fs sub 0 t 0 [] (zh (fs.topT 0) fx t) h.2 ht zH zS List.Pairwise.nil zS (tagsD_good ht) wC tagsD_len
  cases fx with
  | true=>simpa using this
  | false=>simpa [zh] using this
theorem Flds.toD_good (fx:Bool) (ver:Nat):∀ (fs:Flds) (sub:SFs) (i:Nat) (t:Tr) (m:Nat) (acc un:List (Nat × List UInt8)),fs.agr sub m=true->t.tok->m<=65536->(∀ x ∈ acc,x.1<m/\x.2.length<=8)->acc.Pairwise (fun x y=>x.1<y.1)->acc.length<=m->(if fx then kR un else un=[])->(∀ x ∈ un,fs.topT m<=x.1)->un.length<=32767 →
  fs.good fx ver (fs.toD fx ver sub i t) (if fx then acc++un else [])
 | .nil _,.nil,i,t,m,acc,un,h,ht,hm,ha,hs,hl,hg,hu,hul=>by
  simp only[Flds.toD,Flds.good]
  cases fx with
  | false=>simp
  | true =>
   simp only[if_true,Flds.topT] at hg hu ⊢
   obtain ⟨⟨g1,g2⟩,g3,g4⟩:=hg
   refine ⟨⟨List.pairwise_append.2 ⟨hs,g1,fun x hx y hy=>?_⟩,fun x hx=>?_⟩,?_,fun x hx=>?_⟩
   ·have:=(ha x hx).1;have:=hu y hy;omega
   ·rcases List.mem_append.1 hx with hx | hx
    ·have:=(ha x hx).1;omega
    ·exact g2 x hx
   ·rw[List.length_append];omega
   ·rcases List.mem_append.1 hx with hx | hx
    ·have:=(ha x hx).2;omega
    ·exact g4 x hx
 | .nil _,.cons _ _,i,t,m,acc,un,h,ht,hm,ha,hs,hl,hg,hu,hul=>by simp[Flds.agr] at h
 | .cons _ _ _,.nil,i,t,m,acc,un,h,ht,hm,ha,hs,hl,hg,hu,hul=>by simp[Flds.agr] at h
 | .cons v ty r,.cons (.mk kind fr to nul tag df el sub) rs,i,t,m,acc,un,h,ht,hm,ha,hs,hl,hg,hu,hul=>by
  simp only[Flds.agr,Bool.and_eq_true] at h
  simp only[Flds.topT] at hu
  simp only[Flds.toD,Flds.good]
  cases hv:v.isTag with
  | false =>
   have hnx:v.nxT m=m:=by cases v<;>first | (cases hv;done) | rfl
   rw[hnx] at hu h
   rw[Ver.addTag_no hv]
   refine ⟨?_,Flds.toD_good fx ver r rs (i+1) t m acc un h.2 ht hm ha hs hl hg hu hul⟩
   cases hh:v.has ver with
   | false =>
    simp only[Bool.false_eq_true,if_false,Bool.false_or,Bool.false_and]
    exact (Ver.okD_no hv).2 trivial
   | true =>
    simp only[if_true,Bool.true_or]
    exact Ty.toD_good fx ver ty kind nul el sub _ (t.at i) h.1.2 (Tr.tok_at ht i) (fun hb=>isNull_ge hb)
  | true =>
   cases v with
   | tag k lb =>
    have hag:=h.1.1.1
    simp only[Ver.agrT,Bool.and_eq_true,beq_iff_eq,decide_eq_true_eq] at hag
    obtain ⟨⟨rfl,hk⟩,rfl⟩:=hag
    simp only[Ver.nxT] at hu h
    have hge:=Flds.topT_ge r (k+1)
    have hD:=h.1.1.2
    simp only[Ver.isTag,Bool.not_true,Bool.false_or] at hD
    cases ty with
    | scal s d =>
     simp only[Ty.agrD,Bool.and_eq_true,bne_iff_ne,ne_eq,decide_eq_true_eq] at hD
     obtain ⟨⟨⟨rfl,hb⟩,hb'⟩,hokd⟩:=hD
     simp only[Ver.has,Bool.false_eq_true,if_false,Ver.isTag,Bool.false_or,Bool.true_and,Ver.okD]
     cases fx with
     | false =>
      simp only[Bool.false_eq_true,if_false]
      refine ⟨⟨trivial,by simp⟩,?_⟩
      have:=Flds.toD_good false ver r rs (i+1) t (k+1) acc un h.2 ht zH (fun x hx=>⟨by have:=(ha x hx).1;omega,(ha x hx).2⟩) hs zH hg hu hul
      simp only[Bool.false_eq_true,if_false] at this
      exact this
     | true =>
      simp only[if_true,Ty.toD,Ty.isD,Ver.addTag,Bool.true_and,Ty.good,Ty.dflt]
      refine ⟨⟨⟨s.fit_ok _,fun h=>by rw[eq_of_beq h]⟩,fun x hx=>?_⟩,?_⟩
      ·rcases List.mem_append.1 hx with hx | hx
       ·have:=(ha x hx).1;omega
       ·have:=hu x hx;omega
      ·cases hd:(s.fit (t.at i).n==d) with
       | true =>
        have:=Flds.toD_good true ver r rs (i+1) t (k+1) acc un h.2 ht zH (fun x hx=>⟨by have:=(ha x hx).1;omega,(ha x hx).2⟩) hs zH hg hu hul
        simp only[if_true] at this
        simp only[Bool.not_true,Bool.false_eq_true,if_false]
        exact this
       | false =>
        have hw8:(Ty.wr true ver (.scal s d) (.int (s.fit (t.at i).n))).length<=8:=by
         simp only[Ty.wr,Scal.wr_be s _ hb hb',qG]
         unfold xr
         repeat' (first | omega | split)
        have:=Flds.toD_good true ver r rs (i+1) t (k+1) (acc++[(k,Ty.wr true ver (.scal s d) (.int (s.fit (t.at i).n)))]) un h.2 ht zH (fun x hx=>by
         rcases List.mem_append.1 hx with hx | hx
         ·exact ⟨by have:=(ha x hx).1;omega,(ha x hx).2⟩
         ·rw[List.mem_singleton.1 hx]
          exact ⟨Nat.lt_succ_self _,hw8⟩) (List.pairwise_append.2 ⟨hs,by simp,fun x hx y hy=>by
          rw[List.mem_singleton.1 hy]
          exact (ha x hx).1⟩) (by simp;omega) hg hu hul
        simp only[if_true,List.append_assoc,List.singleton_append] at this
        simp only[Bool.not_false,if_true]
        rw[ya acc k _ un (fun x hx=>(ha x hx).1) (fun x hx=>by have:=hu x hx;omega)]
        exact this
    | _=>cases hD
   | _=>cases hv
end
theorem wR {fx:Bool} {ver:Nat} {fs:Flds} {sf:SFs} (h:fs.agr sf=true) (t:Tr):sf.part ver fx t=fs.wr fx ver (fs.toD fx ver sf 0 t) (zh (fs.topT 0) fx t):=by
 unfold SFs.part
 refine (gw (t:=t) (Flds.agr_ord h _ _ _ _)).trans ?_
 have:=Flds.toD_wr fx ver fs sf 0 t 0 [] (zh (fs.topT 0) fx t) h zS wC
 simp only[List.nil_append] at this
 rw[this]
 congr 1
 cases fx<;>simp[zh]
theorem part_good {fx:Bool} {ver:Nat} {fs:Flds} {sf:SFs} (h:fs.agr sf=true) {t:Tr} (ht:t.tok):fs.good fx ver (fs.toD fx ver sf 0 t) (zh (fs.topT 0) fx t):=by
 have:=Flds.toD_good fx ver fs sf 0 t 0 [] (zh (fs.topT 0) fx t) h ht zH zS List.Pairwise.nil zS (tagsD_good ht) wC tagsD_len
 cases fx with
 | true=>simpa using this
 | false=>simpa [zh] using this
end Go.Km
namespace Go.Km
open Go Go.RowKit
attribute [local irreducible] vc rO_ qz qJ qF
structure STexts (P:Program) (E:Env):Prop where
 has:Text P E.sHas 2 20 #[.tmp 4] (c_sHas E)
 null:Text P E.sNull 3 20 #[.tmp 6] (c_sNull E)
 whole:Text P E.sWhole 1 8 #[.tmp 2] (c_sWhole E)
 things:Text P E.sThings 1 8 #[.tmp 2] (c_sThings E)
 at':Text P E.sAt 2 16 #[.cell 4 E.tT] (c_sAt E)
 uvar:Text P E.sUvar 1 20 #[.tmp 2] (c_sUvar E)
 fixed:Text P E.sFixed 2 22 #[.tmp 4] (yU E)
 width:Text P E.sWidth 1 11 #[.tmp 2] (c_sWidth E)
 counted:Text P E.sCounted 4 28 #[.tmp 8] (wk E)
 value:Text P E.sValue 6 70 #[.tmp 12] (c_sValue E)
 field:Text P E.sField 4 76 #[.tmp 8] (c_sField E)
 known:Text P E.sKnown 1 23 #[.tmp 2] (c_sKnown E)
 usual:Text P E.sUsual 2 91 #[.tmp 4] (c_sUsual E)
 unknown:Text P E.sUnknown 2 85 #[.tmp 4] (c_sUnknown E)
 part:Text P E.sPart 4 132 #[.tmp 8] (c_sPart E)
 dflt:E.sDefault≠0->Text P E.sDefault 1 35 #[.cell 2 E.tT] (c_sDefault E)
 write:Text P E.sWrite 3 21 #[.tmp 6] (c_sWrite E)
 same:Text P E.sSame 2 26 #[.tmp 4] (gl E)
 mixed:P.follows .mixedOrders=true
def SlF (w:World) (U:Nat) (v:Value) (fs:SFs):Prop :=
 (v=.slice none 0 0/\fs.len=0)\/∃ q o cap,v=.slice (some ⟨q,o,none⟩) fs.len cap/\fs.len<=cap/\q<U/\fs.Rep w U q o
theorem SlF.below {w w':World} {U:Nat} {v:Value} {fs:SFs} (h:SlF w U v fs) (hw:Below U w w'):SlF w' U v fs:=by
 rcases h with h | ⟨q,o,cap,h1,h2,h3,h4⟩
 ·exact .inl h
 ·exact .inr ⟨q,o,cap,h1,h2,h3,h4.below hw h3⟩
theorem xM.mono {W:World} {B B':Nat} {v:Value} {l:List UInt8} (h:xM W B v l) (hB:B<=B'):xM W B' v l:=by
 rcases h with h | ⟨q,o,cap,h1,h2,h3,h4⟩
 ·exact .inl h
 ·exact .inr ⟨q,o,cap,h1,h2,by omega,h4⟩
theorem kD.mono {W:World} {B B':Nat} {v:Value} {u:List (Nat × List UInt8)} (h:kD W B v u) (hB:B<=B'):kD W B' v u:=by
 rcases h with h | ⟨q,o,cap,h1,h2,h3,h4⟩
 ·exact .inl h
 ·refine .inr ⟨q,o,cap,h1,h2,by omega,fun i x hx=>?_⟩
  obtain ⟨sv,h0,h5,h6⟩:=h4 i x hx
  exact ⟨sv,h0,h5,h6.mono hB⟩
mutual
theorem Tr.Rep.mono {w:World} {U U':Nat} (hU:U<=U'):∀ {t:Tr} {cs:List Value},t.Rep w U cs->t.Rep w U' cs
 | .mk n s nl l u,cs,⟨sv,lv,uv,h1,h2,h3,h4⟩=>by
  refine ⟨sv,lv,uv,h1,h2.mono hU,h3.mono hU,?_⟩
  rcases h4 with h4 | ⟨q,o,cap,h5,h6,h7,h8⟩
  ·exact .inl h4
  ·exact .inr ⟨q,o,cap,h5,h6,by omega,Trs.Rep.mono hU h8⟩
theorem Trs.Rep.mono {w:World} {U U' q:Nat} (hU:U<=U'):∀ {l:Trs} {o:Nat},l.Rep w U q o->l.Rep w U' q o
 | .nil,_,_=>trivial
 | .cons t r,o,⟨⟨c,h1,h2⟩,h3⟩=>⟨⟨c,h1,Tr.Rep.mono hU h2⟩,Trs.Rep.mono hU h3⟩
end
mutual
theorem SF.Rep.mono {w:World} {U U':Nat} (hU:U<=U'):∀ {t:SF} {cs:List Value},t.Rep w U cs->t.Rep w U' cs
 | .mk kind fr to nul tag df el sub,cs,⟨sv,h1,h4⟩=>by
  refine ⟨sv,h1,?_⟩
  rcases h4 with h4 | ⟨q,o,cap,h5,h6,h7,h8⟩
  ·exact .inl h4
  ·exact .inr ⟨q,o,cap,h5,h6,by omega,SFs.Rep.mono hU h8⟩
theorem SFs.Rep.mono {w:World} {U U' q:Nat} (hU:U<=U'):∀ {l:SFs} {o:Nat},l.Rep w U q o->l.Rep w U' q o
 | .nil,_,_=>trivial
 | .cons t r,o,⟨⟨c,h1,h2⟩,h3⟩=>⟨⟨c,h1,SF.Rep.mono hU h2⟩,SFs.Rep.mono hU h3⟩
end
theorem SlF.mono {w:World} {U U':Nat} {v:Value} {fs:SFs} (h:SlF w U v fs) (hU:U<=U'):SlF w U' v fs:=by
 rcases h with h | ⟨q,o,cap,h1,h2,h3,h4⟩
 ·exact .inl h
 ·exact .inr ⟨q,o,cap,h1,h2,by omega,h4.mono hU⟩
def vI (P:Program) (E:Env) (ver:Int) (fx:Bool) (fs:SFs):Prop :=
 ∀ (U:Nat) (w:World) (sv:Value) (t:Tr) (ts:List Value),U<=w.heap.size->SlF w U sv fs->t.Rep w U ts->(fs.part ver fx t).length<=big →
  vd P E E.sPart U #[sv,.int .i64 ver,.bool fx,.agg ts.toArray] (fs.part ver fx t) w
def cText (E:Env) (X t:Nat) (size:Int):Code :=
 sq [(rg [(oQ t (.fieldAddr E.tT (.tmp 11) 1) 0),
    (oQ (t+1) (.load E.tB (.tmp t)) E.tB),
    (oQ (t+2) (.call { callee:=.value (.func E.sWhole),args:=#[(.tmp (t+1))],argTypes:=#[E.tB] }) E.tB),
    (oQ X (.assign (.tmp (t+2))) E.tB)]),
   (sq [(rg [(oQ (t+3) (.move (.tmp 2)) E.tO)]),
    (.cond (.tmp (t+3))
     (rg [(oQ X (.assign (.const (.slice none 0 0))) E.tB)])
     .skip)]),
   (rg [(oQ (t+4) (.move (.tmp 4)) E.tO),
    (oQ (t+5) (.move (.tmp 2)) E.tO),
    (oQ (t+6) (.move (.tmp X)) E.tB),
    (oQ (t+7) (.call { callee:=.builtin .len,args:=#[(.tmp (t+6))],argTypes:=#[E.tB] }) E.tI),
    (oQ (t+8) (.call { callee:=.value (.func E.sCounted),args:=#[(.tmp (t+4)),(.tmp (t+5)),(.tmp (t+7)),(.const (.int .i64 size))],argTypes:=#[E.tO,E.tO,E.tI,E.tI] }) E.tB),
    (oQ (t+9) (.move (.tmp X)) E.tB),
    (oQ (t+10) (.call { callee:=.builtin .append,args:=#[(.tmp (t+8)),(.tmp (t+9))],argTypes:=#[E.tB,E.tB] }) E.tB),
    (oQ 12 (.assign (.tmp (t+10))) E.tB)]),
   .ret]
section
variable {P : Program} {E : Env} {w : World} {U : Nat}
theorem xM.form {v:Value} {l:List UInt8} (h:xM w U v l):∃ ad cap,v=.slice ad l.length cap/\l.length<=cap/\∀ n w',n<=l.length->Below U w w'->xM w' U (.slice ad n cap) (l.take n):=by
 rcases h with ⟨⟨ad,cap,rfl⟩,rfl⟩ | ⟨q,o,cap,rfl,hcap,hq,hc⟩
 ·refine ⟨ad,cap,rfl,Nat.zero_le _,fun n w' hn _=>?_⟩
  simp only[List.length_nil,Nat.le_zero] at hn
  subst hn
  exact .inl ⟨⟨_,_,rfl⟩,rfl⟩
 ·refine ⟨_,cap,rfl,hcap,fun n w' hn hw=>.inr ⟨q,o,cap,?_,?_,hq,?_⟩⟩
  ·rw[List.length_take,Nat.min_eq_left hn]
  ·rw[List.length_take];omega
  ·rw[List.map_take]
   exact (hc.below hw hq).take n
theorem src_empty {P:Program} {t e:TypeId} {s cap:Nat} {ad:Option Addr} {w:World} (ht:xu P t=some (e,s)):Src P s t (.slice ad 0 cap) 0 [] w:=by
 cases ad with
 | none=>exact wH ht
 | some a=>exact Src.ofSlice w (zW ht).1 a 0 cap [] zS (fun j u hu=>by simp at hu) (fun u hu=>by simp at hu)
theorem xM.src {v:Value} {l:List UInt8} {T e:TypeId} (hT:xu P T=some (e,1)) (h:xM w U v l):Src P 1 T v l.length (l.map bv) w:=by
 rcases h with ⟨⟨ad,cap,rfl⟩,rfl⟩ | ⟨q,o,cap,rfl,hcap,hq,hc⟩
 ·exact src_empty hT
 ·exact xW hT hc zS (xm l)
theorem s_text (H:SEnv P E) (HT:STexts P E) {A:Act} {W:World} {X t size:Nat} {nl fx:Bool} {b:Nat} {sv:Value} {s:List UInt8} {Q:Exit->Act->World->Prop} (hX:X=14\/X=15) (ht:16<t) (ht2:t+11<=70) (hsz8:size<=8)
  (hs:A.tmps.size=70) (hd:A.defers=[]) (f2:A.eval (.tmp 2)=.bool nl) (f4:A.eval (.tmp 4)=.bool fx) (f11:A.eval (.tmp 11)=.pointer (some ⟨b,0,none⟩)) (hc:W.cell? ⟨b,1,none⟩=some sv)
  (ho:xM w U sv s) (hw:Below U w W) (hU:U<=w.heap.size) (hbig:(cnt fx nl (if nl then [] else s.take 32767:List UInt8).length size++(if nl then [] else s.take 32767)).length<=big)
  (hQ:∀ a' w',(Out P #[.tmp 12] fun v w'=>w'.ownsRow U E.tU8 1 v (cnt fx nl (if nl then [] else s.take 32767:List UInt8).length size++(if nl then [] else s.take 32767)).length ((cnt fx nl (if nl then [] else s.take 32767:List UInt8).length size++(if nl then [] else s.take 32767)).map bv)/\Below U w w') .ret a' w'->Q .ret a' w'):vc P (cText E X t size) Q A W:=by
 obtain ⟨ad,cap,rfl,hcap,htake⟩:=ho.form
 have hsl:=rB H.row
 unfold cText
 refine vX ?_
 refine rF (b:=b) (o:=0) zA (ql H.fTree (by decide)) ?_
 refine rL (b:=b) (o:=0+1) zE H.oBytes (by simpa using hc) ?_
 refine q8 (args:=#[.slice ad s.length cap]) ?_ (s_first (T:=E.tB) (e:=E.tU8) (c:=.skip) (.inl hsl) H.int hcap HT.whole) ?_
 ·simp only[lM]
  exact zE
 rintro v w' ⟨rfl,rfl⟩
 refine rA (dn ?_)
 have hlt:s.take (min s.length 32767)=s.take 32767:=by
  rcases Nat.le_total s.length 32767 with h | h
  ·rw[Nat.min_eq_left h,List.take_length,List.take_of_length_le h]
  ·rw[Nat.min_eq_right h]
 have ho2:∀ w2,Below U w w2->xM w2 U (.slice ad (min s.length 32767) cap) (s.take 32767):=by
  intro w2 hw2
  have:=htake (min s.length 32767) w2 (Nat.min_le_left _ _) hw2
  rwa [hlt] at this
 have tail:∀ (B:Act) (xv:Value) (x:List UInt8),B.tmps.size=70->B.defers=[]->B.eval (.tmp 2)=.bool nl->B.eval (.tmp 4)=.bool fx->B.eval (.tmp X)=xv->(∀ w2,Below U w w2->xM w2 U xv x)->x=(if nl then [] else s.take 32767) →
   vc P (sq [(rg [(oQ (t+4) (.move (.tmp 4)) E.tO),
    (oQ (t+5) (.move (.tmp 2)) E.tO),
    (oQ (t+6) (.move (.tmp X)) E.tB),
    (oQ (t+7) (.call { callee:=.builtin .len,args:=#[(.tmp (t+6))],argTypes:=#[E.tB] }) E.tI),
    (oQ (t+8) (.call { callee:=.value (.func E.sCounted),args:=#[(.tmp (t+4)),(.tmp (t+5)),(.tmp (t+7)),(.const (.int .i64 size))],argTypes:=#[E.tO,E.tO,E.tI,E.tI] }) E.tB),
    (oQ (t+9) (.move (.tmp X)) E.tB),
    (oQ (t+10) (.call { callee:=.builtin .append,args:=#[(.tmp (t+8)),(.tmp (t+9))],argTypes:=#[E.tB,E.tB] }) E.tB),
    (oQ 12 (.assign (.tmp (t+10))) E.tB)]),.ret]) Q B w':=by
  intro B xv x hs2 hd2 g2 g4 gX hox hx
  rw[← hx] at hbig hQ
  obtain ⟨ad2,cap2,rfl,_,_⟩:=(hox w (Below.refl _ _)).form
  have hxl:x.length<=big:=by rw[List.length_append] at hbig;omega
  have hX70:X<t:=by omega
  refine vX (rM (rM (rM ?_)))
  refine x7 (ad:=ad2) (n:=x.length) (c:=cap2) hsl zA ?_
  refine q8 (args:=#[.bool fx,.bool nl,.int .i64 (x.length:Int),.int .i64 (size:Int)]) ?_ (s_counted (U:=U) HT.counted HT.uvar HT.fixed H.row H.u8 H.u64 H.i64 H.int hxl hsz8 (Nat.le_trans hU hw.size)) ?_
  ·simp only[lM]
   simp (disch:=(try simp only[sP]);omega) only[eV,g2,g4]
  rintro v w2 ⟨hown,hb2⟩
  have hbw:Below U w w2:=hw.trans hb2
  refine rM ?_
  refine xc (sz:=1) (U:=U) (m:=x.length) (news:=x.map bv) H.row zE zA hown (Nat.le_trans hU hbw.size) ((hox w2 hbw).src hsl) (by rw[List.length_append] at hbig;exact hbig) ?_
  intro v' w3 h1 h2
  rw[← List.length_append,← List.map_append] at h1
  refine rA (dn (vS (vT ?_)))
  exact hQ _ _ ⟨by simp only[dF];exact hd2,v',rO zE,h1,hbw.trans h2⟩
 refine vS (vX (rM (dn ?_)))
 refine vS (vC (t:=nl) zA ?_ ?_)
 ·intro hn
  refine vR zS ?_
  refine rA (dn (vN ?_))
  exact tail _ (.slice none 0 0) [] (by simp only[zP];exact hs) (by simp only[dF];exact hd) zA zA zE (fun _ _=>.inl ⟨nilS,rfl⟩) (by rw[hn];rfl)
 ·intro hn
  refine vK (vN ?_)
  exact tail _ (.slice ad (min s.length 32767) cap) (s.take 32767) (by simp only[zP];exact hs) (by simp only[dF];exact hd) zA zA zE ho2 (by rw[hn];rfl)
end
end Go.Km
namespace Go.Km
open Go Go.RowKit
attribute [local irreducible] vc rO_ qz qJ qF
theorem i64_and1 (n:Int):bits .and .i64 n 1=n % 2:=by
 have h1:(BitVec.ofInt 64 1).toNat=2 ^ 1-1:=by decide
 have key:(BitVec.ofInt 64 n &&& BitVec.ofInt 64 1).toNat=(n % ((2 ^ 64:Nat):Int)).toNat % 2 ^ 1:=by
  rw[BitVec.toNat_and,BitVec.toNat_ofInt,h1,Nat.and_two_pow_sub_one_eq_mod]
 show IntKind.i64.wrap ((BitVec.ofInt 64 n &&& BitVec.ofInt 64 1).toNat:Nat)=n % 2
 rw[key,IntKind.wrap_i64]
 omega
section
variable {P : Program} {a : Act} {w : World} {r : List Oper} {Q : Exit → Act → World → Prop} {U : Nat}
theorem r_and1 {d xt x c yt ty p af g} {n:Int} (hx:a.eval x=.int .i64 n) (hc:c=.const (.int .i64 1)) (h:rO_ P Q r (a.put (some d) (.int .i64 (n % 2))) w):rO_ P Q (⟨some d,.binOp .and xt x c yt,ty,p,af,g⟩::r) a w:=by
 subst hc
 refine yO (v:=.int .i64 (n % 2)) hx rfl zS ?_ h
 show (pure (Value.int .i64 (bits .and .i64 n 1)):Sem Value)=_
 rw[i64_and1]
theorem r_make16 {d t ty p af g e} (hB:xe P t e 1=true) (hz:qK P e=some (.int .u8 0)) (hU:U<=w.heap.size)
  (h:∀ w',w'.ownsRow U e 1 (.slice (some ⟨w.heap.size,0,none⟩) 16 16) 16 (List.replicate 16 (.int .u8 0))->Below U w w'->U<=w.heap.size->rO_ P Q r (a.put (some d) (.slice (some ⟨w.heap.size,0,none⟩) 16 16)) w') :
  rO_ P Q (⟨some d,.makeSlice t (.const (.int .i64 16)) (.const (.int .i64 16)),ty,p,af,g⟩::r) a w:=by
 refine st ?_
 obtain ⟨hu,i,z,hi,hs,hs0,hzz,hzs,hby⟩:=xQ hB
 have hz0:z=.int .u8 0:=by
  simp only[qK,hi,Option.bind_some,hzz,Option.some.injEq] at hz
  exact hz
 obtain ⟨w',hr,hown,hg⟩:=run_makeSlice_full (P:=P) w U t e i z 1 hu hi hzz hs .i64 .i64 16 (by decide) zH (by decide) hU
 subst hz0
 have e1:(madeCells (Value.int .u8 0).cells (16*1)).toList=List.replicate 16 (.int .u8 0):=toList_madeCells_one _ _
 rw[e1] at hown
 have hr':(Instr.makeSlice t (.int .i64 16) (.int .i64 16)).run P w=.ok (.slice (some ⟨w.heap.size,0,none⟩) 16 16) w':=hr
 simp only[Oper.wp,execOp,xg,Sem.run_bind,hr',Sem.run_pure,Result.andThen_ok,Oper.upon_value]
 exact h w' hown ⟨hg.os,hg.tape,hg.output,hg.size,fun k hk=>hg.block k zH zS⟩ hU
theorem r_copy16 {d x y t ty p af g e gb sv} {s:List UInt8} (hB:xe P t e 1=true) (hx:a.eval x=.slice (some ⟨gb,0,none⟩) 16 16) (hy:a.eval y=sv)
  (hown:w.ownsRow U e 1 (.slice (some ⟨gb,0,none⟩) 16 16) 16 (List.replicate 16 (.int .u8 0))) (ho:xM w U sv s) (hgU:U<=gb)
  (h:∀ w',w'.ownsRow U e 1 (.slice (some ⟨gb,0,none⟩) 16 16) 16 ((s.take 16++List.replicate (16-s.length) 0).map bv)->Below U w w'->rO_ P Q r (a.put (some d) (.int .i64 (min s.length 16:Nat))) w') :
  rO_ P Q (⟨some d,.call { callee:=.builtin .copy,args:=#[x,y],argTypes:=#[t,t] },ty,p,af,g⟩::r) a w:=by
 refine st ?_
 obtain ⟨hu,i,z,hi,hs,hs0,hzz,hzs,hby⟩:=xQ hB
 have hsz:(P.info? e).map (·.size)=some 1:=by simp[hi,hs]
 have fin:∀ (n:Nat) (w':World),(Builtin.copy_ #[t,t] ty #[.slice (some ⟨gb,0,none⟩) 16 16,sv]).run P w=.ok (goInt n) w'->n=min s.length 16->w'.ownsRow U e 1 (.slice (some ⟨gb,0,none⟩) 16 16) 16 ((s.take 16++List.replicate (16-s.length) 0).map bv)->Below U w w' →
   Oper.wp P ⟨some d,.call { callee:=.builtin .copy,args:=#[x,y],argTypes:=#[t,t] },ty,p,af,g⟩ a w (rO_ P Q r) Q:=by
  intro n w' hr hn h1 h2
  simp only[Oper.wp,execOp,resolve,invoke,builtin,Sem.run_bind,Sem.run_pure,Result.andThen_ok,List.map_toArray,List.map_cons,List.map_nil,hx,hy,hr,Oper.upon_value]
  subst hn
  exact h w' h1 h2
 rcases hown.2 with ⟨hh,_⟩ | ⟨g',cap,cur,hv,hbg,hg,hnc,hcm,hcs,htake⟩
 ·cases hh
 simp only[Value.slice.injEq,Option.some.injEq,Addr.mk.injEq,and_true,true_and] at hv
 obtain ⟨rfl,rfl⟩:=hv
 have hcur:cur.toList=List.replicate 16 (.int .u8 0):=by
  rw[← htake,List.take_of_length_le (by simp[hcs])]
 rcases ho with ⟨⟨ad,cap,rfl⟩,rfl⟩ | ⟨q,o,cap,rfl,hcap,hq,hc⟩
 ·refine fin 0 w (run_copy_none w t t ty e _ _ _ _ _ _ hu hsz rfl) zS ?_ (Below.refl _ _)
  have:(([]:List UInt8).take 16++List.replicate (16-([]:List UInt8).length) 0).map bv=List.replicate 16 (.int .u8 0):=by simp[bv]
  rw[this]
  exact hown
 ·have hnl:((s.take 16).map bv).length=Nat.min s.length 16:=by simp[Nat.min_comm]
  have hr:=run_copy_row (P:=P) w t t ty e gb 0 16 16 ⟨q,o,none⟩ s.length cap cur e ((s.take 16).map bv) hu hsz hg hnl (by
   intro j v hv
   rw[Addr.add_lit]
   refine hc j v ?_
   rw[List.map_take,List.getElem?_take] at hv
   split at hv
   ·exact hv
   ·cases hv) (by rw[hnl,hcs];show 0+min s.length 16<=16*1;omega) (xm _)
  refine fin _ _ hr hnl ?_ ?_
  ·refine ⟨by simp;omega,.inr ⟨gb,16,_,rfl,hbg,setRow_heap w gb cur _ e _ hg,by omega,hcm,?_,?_⟩⟩
   ·simp[hcs];omega
   ·rw[hcur]
    simp only[List.take_zero,List.nil_append,Nat.zero_add]
    rw[List.take_of_length_le (by simp;omega)]
    rw[List.map_append,List.drop_replicate]
    congr 1
    rw[List.map_replicate]
    congr 1
    ·simp;omega
  ·refine ⟨rfl,rfl,rfl,by simp,fun k hk=>setRow_other w gb k _ zH⟩
end
end Go.Km
namespace Go.Km
open Go Go.RowKit
attribute [local irreducible] vc rO_ qz qJ qF
section
variable {P : Program} {E : Env} {w : World} {U : Nat}
theorem jM {W:World} {B B':Nat} {e:TypeId} {s:Nat} {v:Value} {n:Nat} {xs:List Value} (h:W.ownsRow B e s v n xs) (hB:B'<=B):W.ownsRow B' e s v n xs:=by
 refine ⟨h.1,?_⟩
 rcases h.2 with h | ⟨g,cap,cur,h1,h2,h3⟩
 ·exact .inl h
 ·exact .inr ⟨g,cap,cur,h1,Nat.le_trans hB h2,h3⟩
set_option maxHeartbeats 1000000 in
theorem s_value (H:SEnv P E) (HT:STexts P E) (hz8:qK P E.tU8=some (.int .u8 0)) {kind:Nat} {ver:Int} {nl fx:Bool} {fs:SFs} {sv:Value} {t:Tr} {ts:List Value} (hk:kind<=10) (hp:kind=10->vI P E ver fx fs)
  (hU:U<=w.heap.size) (hsf:kind=10->SlF w U sv fs) (hr:t.Rep w U ts) (hbig:(xP kind (fs.part ver fx) nl fx t).length<=big) :
  vd P E E.sValue U #[.int .i64 kind,sv,.bool nl,.int .i64 ver,.bool fx,.agg ts.toArray] (xP kind (fs.part ver fx) nl fx t) w:=by
 refine qa.enter HT.value zS ?_
 intro a hsz hdf harg
 have e0:=harg 0 (.int .i64 kind) zS
 have e1:=harg 1 sv zS
 have e2:=harg 2 (.bool nl) zS
 have e3:=harg 3 (.int .i64 ver) zS
 have e4:=harg 4 (.bool fx) zS
 have e5:=harg 5 (.agg ts.toArray) zS
 cases t with
 | mk n s tnl l u =>
 have hr0:=hr
 obtain ⟨s1,lv,uv,rfl,ho,hu,hl⟩:=hr
 unfold c_sValue
 refine vX ?_
 refine xI (v:=.agg [Value.int .i64 n,s1,.bool tnl,lv,uv].toArray) zA ?_
 refine rA (dn ?_)
 generalize hw1:w.alloc (.cells (Value.agg [Value.int .i64 n,s1,.bool tnl,lv,uv].toArray).cells E.tT)=W
 have hb:Below U w W:=by rw[← hw1];exact (Below.refl U w).alloc (o:=.cells _ _) hU
 have c0:W.cell? ⟨w.heap.size,0,none⟩=some (.int .i64 n):=by rw[← hw1];exact qs w _ E.tT (i:=0) rfl
 have c1:W.cell? ⟨w.heap.size,1,none⟩=some s1:=by rw[← hw1];exact qs w _ E.tT (i:=1) rfl
 have call:qb W w.heap.size 0 [.int .i64 n,s1,.bool tnl,lv,uv]:=by
  intro i v hv
  rw[← hw1,Nat.zero_add]
  exact qs w _ E.tT (by simpa [Value.cells] using hv)
 have hUW:U<=W.heap.size:=Nat.le_trans hU hb.size
 clear hw1
 refine vS (vX (rM (dn ?_)))
 generalize hA:((a.put (some 11) _).put (some 12) _).put (some 16) _=A
 have g0:A.eval (.tmp 0)=.int .i64 kind:=by rw[← hA];exact zA
 have g1:A.eval (.tmp 1)=sv:=by rw[← hA];exact zA
 have g2:A.eval (.tmp 2)=.bool nl:=by rw[← hA];exact zA
 have g3:A.eval (.tmp 3)=.int .i64 ver:=by rw[← hA];exact zA
 have g4:A.eval (.tmp 4)=.bool fx:=by rw[← hA];exact zA
 have g11:A.eval (.tmp 11)=.pointer (some ⟨w.heap.size,0,none⟩):=by rw[← hA];exact zE
 have g16:A.eval (.tmp 16)=.int .i64 kind:=by rw[← hA];exact zA
 have hs:A.tmps.size=70:=by rw[← hA];simp only[zP];exact hsz
 have hd:A.defers=[]:=by rw[← hA];simp only[dF];exact hdf
 clear hA
 refine vS (qh ?_)
 refine vX ?_
 refine xy (k:=.i64) (m:=(kind:Int)) (n:=0) zA rfl ?_
 refine rA (dn ?_)
 refine vS (vC (t:=((kind:Int)==0)) zM ?_ ?_)
 ·intro hk0
  have hk0':kind=0:=by simp only[beq_iff_eq] at hk0;omega
  subst hk0'
  refine vX ?_
  refine rF (b:=w.heap.size) (o:=0) zA (ql H.fTree (by decide)) ?_
  refine rL (b:=w.heap.size) (o:=0) zM H.oI64 c0 ?_
  refine r_and1 (n:=n) zE rfl ?_
  refine qL (k:=.i64) (k':=.u8) (m:=n % 2) H.i64 H.u8 zE ?_
  have hw8:IntKind.u8.wrap (n % 2)=n % 2:=by rw[kQ];omega
  rw[hw8]
  refine xz (s:=1) (vs:=[.int .u8 (n % 2)]) H.row ?_ rfl (by intro v hv;simp only[List.mem_cons,List.not_mem_nil,or_false] at hv;subst hv;rfl) zH zH ?_
  ·simp only[lM]
   simp (disch:=(try simp only[sP]);omega) only[eV]
   rfl
  refine rA (dn (vS (vT ?_)))
  refine ⟨by simp only[dF];exact hd,_,rO zM,?_,hb.trans ((Below.refl U W).alloc (o:=.cells _ _) hUW)⟩
  have hv:xP ((0:Nat):Int) (fs.part ver fx) nl fx (Tr.mk n s tnl l u)=[o8 (n % 2)]:=by simp[xP]
  rw[hv]
  have:=World.ownsRow_lit W (base:=U) (e:=E.tU8) (size:=1) #[.int .u8 (n % 2)] 1 hUW (by decide) rfl
  have hbv:[o8 (n % 2)].map bv=[Value.int .u8 (n % 2)]:=by
   simp only[List.map_cons,List.map_nil]
   rw[bv_o8 zH zH]
  rw[hbv]
  exact this
 intro hk0
 have hk0':kind≠0:=by simp only[beq_eq_false_iff_ne,ne_eq] at hk0;omega
 refine vX ?_
 refine xy (k:=.i64) (m:=(kind:Int)) (n:=7) zA rfl ?_
 refine rA (dn ?_)
 refine vS (vC (t:=((kind:Int)==7)) zM ?_ ?_)
 ·intro hk7
  have hk7':kind=7:=by simp only[beq_iff_eq] at hk7;omega
  subst hk7'
  have hv:xP ((7:Nat):Int) (fs.part ver fx) nl fx (Tr.mk n s tnl l u)=s.take 16++List.replicate (16-s.length) 0:=by simp[xP]
  rw[hv]
  refine vX ?_
  have hlt:w.heap.size<W.heap.size:=qo c0
  refine r_make16 (U:=W.heap.size) H.row hz8 (Nat.le_refl _) ?_
  intro w2 hown2 hb2' _
  have hb2:Below U W w2:=hb2'.mono hUW
  refine rA (dn (vX (rM ?_)))
  refine rF (b:=w.heap.size) (o:=0) zA (ql H.fTree (by decide)) ?_
  refine rL (b:=w.heap.size) (o:=0+1) zE H.oBytes (v:=s1) (by rw[hb2'.cell (p:=⟨w.heap.size,0+1,none⟩) hlt];simpa using c1) ?_
  refine r_copy16 (U:=W.heap.size) (gb:=W.heap.size) (sv:=s1) (s:=s) H.row zE zE hown2 ((ho.below (hb.trans hb2)).mono hUW) (Nat.le_refl _) ?_
  intro w3 hown3' hb3'
  have hb3:Below U w2 w3:=hb3'.mono hUW
  have hown3:=jM hown3' hUW
  refine dn (vX (rM (rA (dn (vS (vT ?_))))))
  refine ⟨by simp only[dF];exact hd,.slice (some ⟨W.heap.size,0,none⟩) 16 16,rO zE,?_,(hb.trans hb2).trans hb3⟩
  rw[show (List.take 16 s++List.replicate (16-s.length) (0:UInt8)).length=16 by simp;omega]
  exact hown3
 intro hk7
 have hk7':kind≠7:=by simp only[beq_eq_false_iff_ne,ne_eq] at hk7;omega
 refine vX ?_
 refine xy (k:=.i64) (m:=(kind:Int)) (n:=8) zA rfl ?_
 refine rA (dn ?_)
 refine vS (vC (t:=((kind:Int)==8)) zM ?_ ?_)
 ·intro hk8
  have hk8':kind=8:=by simp only[beq_iff_eq] at hk8;omega
  subst hk8'
  have hv:xP ((8:Nat):Int) (fs.part ver fx) nl fx (Tr.mk n s tnl l u)=cnt fx nl (if nl then [] else s.take 32767:List UInt8).length 2++(if nl then [] else s.take 32767):=by simp[xP]
  rw[hv] at hbig ⊢
  exact s_text (w:=w) (U:=U) (X:=14) (t:=34) (size:=2) (sv:=s1) (s:=s) H HT (.inl rfl) (by decide) (by decide) (by decide) (by simp only[zP];exact hs) (by simp only[dF];exact hd) zA zA zA c1 ho hb hU hbig (fun _ _ h=>h)
 intro hk8
 have hk8':kind≠8:=by simp only[beq_eq_false_iff_ne,ne_eq] at hk8;omega
 refine vX ?_
 refine xy (k:=.i64) (m:=(kind:Int)) (n:=9) zA rfl ?_
 refine rA (dn ?_)
 refine vS (vC (t:=((kind:Int)==9)) zM ?_ ?_)
 ·intro hk9
  have hk9':kind=9:=by simp only[beq_iff_eq] at hk9;omega
  subst hk9'
  have hv:xP ((9:Nat):Int) (fs.part ver fx) nl fx (Tr.mk n s tnl l u)=cnt fx nl (if nl then [] else s.take 32767:List UInt8).length 4++(if nl then [] else s.take 32767):=by simp[xP]
  rw[hv] at hbig ⊢
  exact s_text (w:=w) (U:=U) (X:=15) (t:=47) (size:=4) (sv:=s1) (s:=s) H HT (.inr rfl) (by decide) (by decide) (by decide) (by simp only[zP];exact hs) (by simp only[dF];exact hd) zA zA zA c1 ho hb hU hbig (fun _ _ h=>h)
 intro hk9
 have hk9':kind≠9:=by simp only[beq_eq_false_iff_ne,ne_eq] at hk9;omega
 refine vX ?_
 refine xy (k:=.i64) (m:=(kind:Int)) (n:=10) zA rfl ?_
 refine rA (dn ?_)
 refine vS (vC (t:=((kind:Int)==10)) zM ?_ ?_)
 ·intro hka
  have hka':kind=10:=by simp only[beq_iff_eq] at hka;omega
  subst hka'
  have hv:xP ((10:Nat):Int) (fs.part ver fx) nl fx (Tr.mk n s tnl l u)=fs.part ver fx (Tr.mk n s tnl l u):=by simp[xP]
  rw[hv] at hbig ⊢
  refine vX (rM (rM (rM ?_)))
  refine qf (b:=w.heap.size) (o:=0) (cs:=[.int .i64 n,s1,.bool tnl,lv,uv]) zA H.aTree call ?_
  refine q8 (args:=#[sv,.int .i64 ver,.bool fx,.agg [Value.int .i64 n,s1,.bool tnl,lv,uv].toArray]) ?_ (hp rfl U W sv (Tr.mk n s tnl l u) _ hUW ((hsf rfl).below hb) (hr0.below hb) hbig) ?_
  ·simp only[lM]
   simp (disch:=(try simp only[sP]);omega) only[eV,g1,g3,g4]
  rintro v w2 ⟨h1,h2⟩
  refine rA (dn (vS (vT ?_)))
  exact ⟨by simp only[dF];exact hd,v,rO zE,h1,hb.trans h2⟩
 intro hka
 have hka':kind≠10:=by simp only[beq_eq_false_iff_ne,ne_eq] at hka;omega
 have hv:xP (kind:Int) (fs.part ver fx) nl fx (Tr.mk n s tnl l u)=be (xr kind) n:=by
  simp[xP,hk0',show ¬ (kind:Int)=0 by omega,show ¬ (kind:Int)=7 by omega,show ¬ (kind:Int)=8 by omega,show ¬ (kind:Int)=9 by omega,show ¬ (kind:Int)=10 by omega]
 rw[hv] at hbig ⊢
 refine vK ?_
 generalize hA2:((((((((((A.put (some 18) _).put (some 17) _).put (some 25) _).put (some 24) _).put (some 33) _).put (some 32) _).put (some 46) _).put (some 45) _).put (some 59) _).put (some 58) _)=B
 have b0:B.eval (.tmp 0)=.int .i64 kind:=by rw[← hA2];exact zA
 have b11:B.eval (.tmp 11)=.pointer (some ⟨w.heap.size,0,none⟩):=by rw[← hA2];exact zA
 have hsB:B.tmps.size=70:=by rw[← hA2];simp only[zP];exact hs
 have hdB:B.defers=[]:=by rw[← hA2];simp only[dF];exact hd
 clear hA2
 simp only[Exit.then,Exit.inBlock]
 repeat (refine vN ?_)
 have hlt:w.heap.size<W.heap.size:=qo c0
 have hw8:xr kind<=8:=by unfold xr;repeat' (first | omega | split)
 refine vS (xd [(0,true),(1,true),(2,true),(3,false),(4,false),(5,true)] (fun W'=>W'.cell? ⟨w.heap.size,0,none⟩=some (.int .i64 n)) HT.mixed (by kernel_rfl) rfl (by kernel_rfl) (fun _ _ _ _ h=>False.elim h) ?_)
 have hS:({ W with drawn:=W.drawn+1 }:World).cell? ⟨w.heap.size,0,none⟩=some (.int .i64 n):=c0
 have hbd:Below W.heap.size W { W with drawn:=W.drawn+1 }:=⟨rfl,rfl,rfl,Nat.le_refl _,fun _ _=>rfl⟩
 refine dP rfl rfl rfl (wN rfl) (by simp only[zP,hsB];decide) hS (fun w' hS'=>rF (b:=w.heap.size) (o:=0) zA (ql H.fTree (by decide)) (dn ⟨rfl,rfl,rfl⟩)) ?_
 refine dP rfl rfl rfl (wN rfl) (by simp only[zP,hsB];decide) hS (fun w' hS'=>rL (b:=w.heap.size) (o:=0) (v:=.int .i64 n) zM H.oI64 hS' (dn ⟨rfl,rfl,rfl⟩)) ?_
 refine dP rfl rfl rfl (wN rfl) (by simp only[zP,hsB];decide) hS (fun w' hS'=>rM (dn ⟨rfl,rfl,rfl⟩)) ?_
 refine qx rfl (wN rfl) ?_
 refine q8 (args:=#[.int .i64 kind]) ?_ (s_width HT.width zH) ?_
 ·simp only[lM]
  simp (disch:=(try simp only[sP]);omega) only[eV,b0]
 rintro v w2 ⟨rfl,rfl⟩
 refine dn (qw hS ?_)
 refine qx rfl (wN rfl) ?_
 refine q8 (args:=#[.int .i64 n,.int .i64 (xr kind:Nat)]) ?_ (zJ (U:=W.heap.size) HT.fixed H.row H.u8 H.i64 H.int hw8 (Nat.le_refl _)) ?_
 ·simp only[lM]
  exact zE
 rintro v w3 ⟨h1,h2⟩
 have hS3:w3.cell? ⟨w.heap.size,0,none⟩=some (.int .i64 n):=by rw[(hbd.trans h2).cell (p:=⟨w.heap.size,0,none⟩) hlt];exact c0
 refine dn (qw hS3 ?_)
 refine dP rfl rfl rfl (wN rfl) (by simp only[zP,hsB];decide) hS3 (fun w' hS'=>rA (dn ⟨rfl,rfl,rfl⟩)) ?_
 refine xC ?_
 refine vS (vT ?_)
 exact ⟨by simp only[dF];exact hdB,v,rO zE,jM h1 hUW,hb.trans ((hbd.trans h2).mono hUW)⟩
end
end Go.Km
namespace Go.Km
open Go Go.RowKit
attribute [local irreducible] vc rO_ qz qJ qF
theorem qE {w w':World} {B C:Nat} {e:TypeId} {s:Nat} {v:Value} {n:Nat} {xs:List Value} (h:w.ownsRow B e s v n xs) (hb:Below C w w') (hC:C=w.heap.size:=by rfl):w'.ownsRow B e s v n xs:=by
 subst hC
 refine ⟨h.1,?_⟩
 rcases h.2 with h | ⟨g,cap,cur,h1,h2,h3,h4⟩
 ·exact .inl h
 ·have hg:g<w.heap.size:=(Array.getElem?_eq_some_iff.1 h3).1
  exact .inr ⟨g,cap,cur,h1,h2,by rw[hb.block g hg];exact h3,h4⟩
def ws (P:Program) (E:Env) (ver:Int) (fx:Bool) (f:SF):Prop :=
 ∀ (U:Nat) (w:World) (cs:List Value) (t:Tr) (ts:List Value),U<=w.heap.size->f.Rep w U cs->t.Rep w U ts->(f.wr ver fx t).length<=big →
  vd P E E.sField U #[.agg cs.toArray,.int .i64 ver,.bool fx,.agg ts.toArray] (f.wr ver fx t) w
def SF.kindOk:SF->Bool
 | .mk kind _ _ _ _ _ el _=>decide (0<=kind)&&decide (kind<=11)&&decide (0<=el)&&decide (el<=10)
def SF.sub:SF->SFs
 | .mk _ _ _ _ _ _ _ sub=>sub
structure FFr (P:Program) (E:Env) (w:World) (U:Nat) (ver:Int) (fx nl:Bool) (cs ts:List Value) (b:Nat) (A:Act) (W:World):Prop where
 size:A.tmps.size=76
 defers:A.defers=[]
 s1:A.eval (.tmp 1)=.int .i64 ver
 s2:A.eval (.tmp 2)=.bool fx
 s4:A.eval (.tmp 4)=.pointer (some ⟨b,0,none⟩)
 s7:A.eval (.tmp 7)=.pointer (some ⟨b+1,0,none⟩)
 s9:A.eval (.tmp 9)=.bool nl
 below:Below U w W
 bU:U<=b
 bW:b+1<W.heap.size
 cf:qb W b 0 cs
 ct:qb W (b+1) 0 ts
theorem FFr.put {P : Program} {E : Env} {w : World} {U : Nat} {ver : Int} {fx nl : Bool} {cs ts : List Value} {b : Nat} {A : Act} {W : World} (h : FFr P E w U ver fx nl cs ts b A W) {d : Nat} (v : Value) (hd : 9 < d ∨ d = 8) : FFr P E w U ver fx nl cs ts b (A.put (some d) v) W :=
  ⟨by rw [zP]; exact h.size, by rw [dF]; exact h.defers, by rw [qi _ _ _ _ zH]; exact h.s1, by rw [qi _ _ _ _ zH]; exact h.s2, by rw [qi _ _ _ _ zH]; exact h.s4,
   by rw [qi _ _ _ _ zH]; exact h.s7, by rw [qi _ _ _ _ zH]; exact h.s9, h.below, h.bU, h.bW, h.cf, h.ct⟩
theorem FFr.world {P:Program} {E:Env} {w:World} {U:Nat} {ver:Int} {fx nl:Bool} {cs ts:List Value} {b:Nat} {A:Act} {W W':World} (h:FFr P E w U ver fx nl cs ts b A W) {B:Nat} (hb:Below B W W') (hB:b+2<=B):FFr P E w U ver fx nl cs ts b A W' :=
 ⟨h.size,h.defers,h.s1,h.s2,h.s4,h.s7,h.s9,h.below.trans (hb.mono (by have:=h.bU;omega)),h.bU,Nat.lt_of_lt_of_le h.bW hb.size,h.cf.below hb zH,h.ct.below hb zH⟩
section
variable {P : Program} {E : Env} {w : World} {U : Nat}
theorem s_fieldV (H:SEnv P E) (HT:STexts P E) (hz8:qK P E.tU8=some (.int .u8 0)) {kind:Nat} {fr to nul tag df el ver:Int} {sub:SFs} {nl fx:Bool} {cs ts:List Value} {t:Tr} {b:Nat} {A:Act} {W:World} {Q:Exit->Act->World->Prop}
  (hf:FFr P E w U ver fx nl cs ts b A W) (hr:(SF.mk kind fr to nul tag df el sub).Rep w U cs) (hrt:t.Rep w U ts) (hU:U<=w.heap.size) (hk:kind<=10) (hp:kind=10->vI P E ver fx sub)
  (hbig:(xP kind (sub.part ver fx) nl fx t).length<=big)
  (hQ:∀ a' w',Out P #[.tmp 8] (fun v w'=>w'.ownsRow U E.tU8 1 v (xP kind (sub.part ver fx) nl fx t).length ((xP kind (sub.part ver fx) nl fx t).map bv)/\Below U w w') .ret a' w'->Q .ret a' w') :
  vc P (sq [(rg [(oQ 67 (.fieldAddr E.tFld (.tmp 4) 0) 0),
   (oQ 68 (.load E.tI (.tmp 67)) E.tI),
   (oQ 69 (.fieldAddr E.tFld (.tmp 4) 7) 0),
   (oQ 70 (.load E.tFlds (.tmp 69)) E.tFlds),
   (oQ 71 (.move (.tmp 9)) E.tO),
   (oQ 72 (.move (.tmp 1)) E.tI),
   (oQ 73 (.move (.tmp 2)) E.tO),
   (oQ 74 (.load E.tT (.tmp 7)) E.tT),
   (oQ 75 (.call { callee:=.value (.func E.sValue),args:=#[(.tmp 68),(.tmp 70),(.tmp 71),(.tmp 72),(.tmp 73),(.tmp 74)],argTypes:=#[E.tI,E.tFlds,E.tO,E.tI,E.tO,E.tT] }) E.tB),
   (oQ 8 (.assign (.tmp 75)) E.tB)]),.ret]) Q A W:=by
 obtain ⟨sv,rfl,hsub⟩:=hr
 have hs:=hf.size
 have c0:=hf.cf 0 _ rfl
 have c7:=hf.cf 7 _ rfl
 refine vX ?_
 refine rF (b:=b) (o:=0) (by simp (disch:=(try simp only[sP]);omega) only[eV,hf.s4]) (ql H.fFld (by decide)) ?_
 refine rL (b:=b) (o:=0+0) zE H.oInt c0 ?_
 refine rF (b:=b) (o:=0) (by simp (disch:=(try simp only[sP]);omega) only[eV,hf.s4]) (ql H.fFld (by decide)) ?_
 refine rL (b:=b) (o:=0+7) zE H.oFlds c7 ?_
 refine rM (rM (rM ?_))
 refine qf (b:=b+1) (o:=0) (cs:=ts) (by simp (disch:=(try simp only[sP]);omega) only[eV,hf.s7]) (by rw[hrt.len];exact H.aTree) hf.ct ?_
 refine q8 (args:=#[.int .i64 kind,sv,.bool nl,.int .i64 ver,.bool fx,.agg ts.toArray]) ?_ (s_value (U:=U) H HT hz8 hk hp (Nat.le_trans hU hf.below.size) (fun _=>SlF.below hsub hf.below) (hrt.below hf.below) hbig) ?_
 ·simp only[lM]
  simp (disch:=(try simp only[sP]);omega) only[eV,hf.s1,hf.s2,hf.s9]
 rintro v w2 ⟨h1,h2⟩
 refine rA (dn (vS (vT ?_)))
 exact hQ _ _ ⟨by simp only[dF];exact hf.defers,v,rO zE,h1,hf.below.trans h2⟩
theorem s_fieldN (H:SEnv P E) (HT:STexts P E) {kind fr to nul tag df el ver:Int} {sub:SFs} {nl fx:Bool} {cs ts:List Value} {t:Tr} {b:Nat} {A:Act} {W:World} {Q:Exit->Act->World->Prop}
  (hf:FFr P E w U ver fx nl cs ts b A W) (hr:(SF.mk kind fr to nul tag df el sub).Rep w U cs) (hrt:t.Rep w U ts) (hU:U<=w.heap.size) (hp:vI P E ver fx sub)
  (hbig:(if nl then be 1 (-1) else be 1 1++sub.part ver fx t).length<=big) (hpanic:∀ c a a' w,Q (.panic c) a w->Q (.panic c) a' w)
  (hQ:∀ a' w',Out P #[.tmp 8] (fun v w'=>w'.ownsRow U E.tU8 1 v (if nl then be 1 (-1) else be 1 1++sub.part ver fx t).length ((if nl then be 1 (-1) else be 1 1++sub.part ver fx t).map bv)/\Below U w w') .ret a' w'->Q .ret a' w') :
  vc P (sq [(sq [(rg [(oQ 57 (.move (.tmp 9)) E.tO)]),
      (.cond (.tmp 57)
       (sq [(rg [(oQ 58 (.call { callee:=.value (.func E.sFixed),args:=#[(.const (.int .i64 (-1))),(.const (.int .i64 1))],argTypes:=#[E.tI64,E.tI] }) E.tB),
         (oQ 8 (.assign (.tmp 58)) E.tB)]),
        .ret])
       .skip)]),
     (rgd [(oQ 59 (.call { callee:=.value (.func E.sFixed),args:=#[(.const (.int .i64 1)),(.const (.int .i64 1))],argTypes:=#[E.tI64,E.tI] }) E.tB),
      (oQ 60 (.fieldAddr E.tFld (.tmp 4) 7) 0),
      ⟨some 61,.load E.tFlds (.tmp 60),E.tFlds,"",#[⟨1,.data⟩],none⟩,
      (oQ 62 (.move (.tmp 1)) E.tI),
      (oQ 63 (.move (.tmp 2)) E.tO),
      (oQ 64 (.load E.tT (.tmp 7)) E.tT),
      ⟨some 65,.call { callee:=.value (.func E.sPart),args:=#[(.tmp 61),(.tmp 62),(.tmp 63),(.tmp 64)],argTypes:=#[E.tFlds,E.tI,E.tO,E.tT] },E.tB,"",#[⟨2,.data⟩,⟨3,.data⟩,⟨4,.data⟩,⟨5,.data⟩,⟨0,.chain⟩],none⟩,
      ⟨some 66,.call { callee:=.builtin .append,args:=#[(.tmp 59),(.tmp 65)],argTypes:=#[E.tB,E.tB] },E.tB,"",#[⟨0,.data⟩,⟨6,.data⟩,⟨6,.chain⟩],none⟩,
      ⟨some 8,.assign (.tmp 66),E.tB,"",#[⟨7,.data⟩,⟨7,.chain⟩,⟨0,.phase⟩,⟨1,.phase⟩,⟨2,.phase⟩,⟨3,.phase⟩,⟨4,.phase⟩,⟨5,.phase⟩,⟨6,.phase⟩,⟨7,.phase⟩],none⟩]),
     .ret]) Q A W:=by
 obtain ⟨sv,rfl,hsub⟩:=hr
 have hs:=hf.size
 have c7:=hf.cf 7 _ rfl
 have hUW:U<=W.heap.size:=Nat.le_trans hU hf.below.size
 refine vS (vX (rM (dn ?_)))
 refine vS (vC (t:=nl) (by simp (disch:=(try simp only[sP]);omega) only[eV,hf.s9]) ?_ ?_)
 ·intro hn
  subst hn
  refine vX ?_
  refine q8 (args:=#[.int .i64 (-1),.int .i64 ((1:Nat):Int)]) (by simp only[lM];rfl) (zJ (U:=U) HT.fixed H.row H.u8 H.i64 H.int (by decide) hUW) ?_
  rintro v w2 ⟨h1,h2⟩
  refine rA (dn (vS (vT ?_)))
  exact hQ _ _ ⟨by simp only[dF];exact hf.defers,v,rO zE,h1,hf.below.trans h2⟩
 ·intro hn
  subst hn
  refine vK (vN ?_)
  refine vS (xd [(1,true),(2,true),(3,true),(4,true),(5,true),(0,false),(6,false),(7,false),(8,true)] (fun W'=>W'.cell? ⟨b,7,none⟩=some sv/\qb W' (b+1) 0 ts) HT.mixed (by kernel_rfl) rfl (by kernel_rfl) (fun c a a' w h=>hpanic c a a' w h) ?_)
  generalize hB:A.put (some 57) (A.eval (.tmp 9))=B
  have hfB:=hf.put (d:=57) (A.eval (.tmp 9)) zH
  rw[hB] at hfB
  have hsB:=hfB.size
  clear hB
  have hbW:=hf.bW
  have hbd:Below W.heap.size W { W with drawn:=W.drawn+1 }:=⟨rfl,rfl,rfl,Nat.le_refl _,fun _ _=>rfl⟩
  have mkS:∀ w2,Below W.heap.size W w2->w2.cell? ⟨b,7,none⟩=some sv/\qb w2 (b+1) 0 ts:=fun w2 h2 =>
   ⟨by rw[h2.cell (p:=⟨b,7,none⟩) (by show b<_;omega)];simpa using c7,hf.ct.below h2 zH⟩
  have hS:=mkS _ hbd
  refine dP rfl rfl rfl (wN rfl) (by simp only[zP,hsB];decide) hS (fun w' hS'=>rF (b:=b) (o:=0) (by simp (disch:=(try simp only[sP]);omega) only[eV,hfB.s4]) (ql H.fFld (by decide)) (dn ⟨rfl,rfl,rfl⟩)) ?_
  refine dP rfl rfl rfl (wN rfl) (by simp only[zP,hsB];decide) hS (fun w' hS'=>rL (b:=b) (o:=7) (v:=sv) zM H.oFlds hS'.1 (dn ⟨rfl,rfl,rfl⟩)) ?_
  refine dP rfl rfl rfl (wN rfl) (by simp only[zP,hsB];decide) hS (fun w' hS'=>rM (dn ⟨rfl,rfl,rfl⟩)) ?_
  refine dP rfl rfl rfl (wN rfl) (by simp only[zP,hsB];decide) hS (fun w' hS'=>rM (dn ⟨rfl,rfl,rfl⟩)) ?_
  refine dP rfl rfl rfl (wN rfl) (by simp only[zP,hsB];decide) hS (fun w' hS'=>qf (b:=b+1) (o:=0) (cs:=ts) (by simp (disch:=(try simp only[sP]);omega) only[eV,hfB.s7]) (by rw[hrt.len];exact H.aTree) hS'.2 (dn ⟨rfl,rfl,rfl⟩)) ?_
  refine qx rfl (wN rfl) ?_
  refine q8 (args:=#[.int .i64 1,.int .i64 ((1:Nat):Int)]) (by simp only[lM];rfl) (zJ (U:=W.heap.size) HT.fixed H.row H.u8 H.i64 H.int (by decide) (Nat.le_refl _)) ?_
  rintro v w2 ⟨h1,h2⟩
  have hW2:Below W.heap.size W w2:=hbd.trans h2
  refine dn (qw (mkS _ hW2) ?_)
  refine qx rfl (wN rfl) ?_
  have hblU:Below U w w2:=hf.below.trans (hW2.mono hUW)
  have hbg:(sub.part ver fx t).length<=big:=by
   simp only[Bool.false_eq_true,if_false,List.length_append] at hbig
   omega
  refine q8 (args:=#[sv,.int .i64 ver,.bool fx,.agg ts.toArray]) ?_ (hp w2.heap.size w2 sv t ts (Nat.le_refl _) ((SlF.below hsub hblU).mono (Nat.le_trans hUW hW2.size)) ((hrt.below hblU).mono (Nat.le_trans hUW hW2.size)) hbg) ?_
  ·simp only[lM]
   simp (disch:=(try simp only[sP]);omega) only[eV,hfB.s1,hfB.s2]
  rintro v3 w3 ⟨h3,h4⟩
  have hW3:Below W.heap.size W w3:=hW2.trans (h4.mono hW2.size)
  refine dn (qw (mkS _ hW3) ?_)
  refine qx rfl (wN rfl) ?_
  have hown3:w3.ownsRow W.heap.size E.tU8 1 v (be 1 1).length ((be 1 1).map bv):=by
   exact qE h1 h4
  refine xc (sz:=1) (U:=W.heap.size) (m:=(sub.part ver fx t).length) (news:=(sub.part ver fx t).map bv) H.row zE zE hown3 hW3.size (xJ (rB H.row) h3 (xm _)) (by simp only[Bool.false_eq_true,if_false,List.length_append] at hbig;exact hbig) ?_
  intro v4 w4 h5 h6
  refine dn (qw (mkS _ (hW3.trans h6)) ?_)
  refine dP rfl rfl rfl (wN rfl) (by simp only[zP,hsB];decide) (mkS _ (hW3.trans h6)) (fun w' hS'=>rA (dn ⟨rfl,rfl,rfl⟩)) ?_
  refine xC ?_
  refine vS (vT ?_)
  simp only[Bool.false_eq_true,if_false] at hQ
  rw[← List.length_append,← List.map_append] at h5
  exact hQ _ _ ⟨by simp only[dF];exact hfB.defers,v4,rO zE,jM h5 hUW,hf.below.trans ((hW3.trans h6).mono hUW)⟩
end
end Go.Km
namespace Go.Km
open Go Go.RowKit
attribute [local irreducible] vc rO_ qz qJ qF
theorem Trs.toL_len:∀ l:Trs,l.toL.length=l.len
 | .nil=>rfl
 | .cons t r=>by simp[Trs.toL,Trs.len,Trs.toL_len r]
theorem Trs.toL_get:∀ (l:Trs) (i:Nat),l.toL[i]? = l.get i
 | .nil,i=>by simp[Trs.toL,Trs.get]
 | .cons t r,0=>rfl
 | .cons t r,i+1=>by simpa [Trs.toL,Trs.get] using Trs.toL_get r i
theorem y2 {α β:Type} (l:List α) (f:α->List β) (i:Nat) (h:i<l.length):((l.take (i+1)).map f).flatten=((l.take i).map f).flatten++f l[i]:=by
 rw[List.take_succ_eq_append_getElem h,List.map_append,List.flatten_append]
 simp
theorem gc {α β:Type} (l:List α) (f:α->List β) (i:Nat):((l.take i).map f).flatten.length<=((l.map f).flatten).length:=by
 have:l=l.take i++l.drop i:=(List.take_append_drop i l).symm
 conv=>rhs;rw[this]
 rw[List.map_append,List.flatten_append,List.length_append]
 omega
def ListB (w:World) (U:Nat) (v:Value) (L:List Tr):Prop :=
 (NilS v/\L=[])\/∃ q o cap,v=.slice (some ⟨q,o,none⟩) L.length cap/\q<U/\∀ (i:Nat) (t:Tr),L[i]? = some t->∃ c,qb w q (o+i*5) c/\t.Rep w U c
section
variable {P : Program} {E : Env} {w : World} {U : Nat}
theorem ListB.below {w w':World} {v:Value} {L:List Tr} (h:ListB w U v L) (hw:Below U w w'):ListB w' U v L:=by
 rcases h with h | ⟨q,o,cap,h1,h2,h3⟩
 ·exact .inl h
 ·refine .inr ⟨q,o,cap,h1,h2,fun i t ht=>?_⟩
  obtain ⟨c,h4,h5⟩:=h3 i t ht
  exact ⟨c,h4.below hw h2,h5.below hw⟩
theorem ListB.form {v:Value} {L:List Tr} (h:ListB w U v L):∃ ad cap,v=.slice ad L.length cap:=by
 rcases h with ⟨⟨_,_,rfl⟩,rfl⟩ | ⟨q,o,cap,rfl,_⟩<;>exact ⟨_,_,rfl⟩
set_option maxHeartbeats 1000000 in
theorem s_fieldL2 (H:SEnv P E) (HT:STexts P E) (hz8:qK P E.tU8=some (.int .u8 0)) {kind fr to nul tag df ver:Int} {el:Nat} {sub:SFs} {nl fx:Bool} {cs ts:List Value} {b:Nat} {A:Act} {W:World} {Q:Exit->Act->World->Prop} {xv:Value}
  (hf:FFr P E w U ver fx nl cs ts b A W) (hr:(SF.mk kind fr to nul tag df el sub).Rep w U cs) (hU:U<=w.heap.size) (hel:el<=10) (hp:vI P E ver fx sub) {L:List Tr} (hx:A.eval (.tmp 10)=xv) (hLB:ListB w U xv L) (hLn:L.length<=big)
  (hbig:(cnt fx nl L.length 4++(L.map fun t=>xP el (sub.part ver fx) false fx t).flatten).length<=big) (hpanic:∀ c a a' w,Q (.panic c) a w->Q (.panic c) a' w)
  (hQ:∀ a' w',Out P #[.tmp 8] (fun v w'=>w'.ownsRow U E.tU8 1 v (cnt fx nl L.length 4++(L.map fun t=>xP el (sub.part ver fx) false fx t).flatten).length ((cnt fx nl L.length 4++(L.map fun t=>xP el (sub.part ver fx) false fx t).flatten).map bv)/\Below U w w') .ret a' w'->Q .ret a' w') :
  vc P (sq [(rg [(oQ 24 (.move (.tmp 2)) E.tO),
      (oQ 25 (.move (.tmp 9)) E.tO),
      (oQ 26 (.move (.tmp 10)) E.tS),
      (oQ 27 (.call { callee:=.builtin .len,args:=#[(.tmp 26)],argTypes:=#[E.tS] }) E.tI),
      (oQ 28 (.call { callee:=.value (.func E.sCounted),args:=#[(.tmp 24),(.tmp 25),(.tmp 27),(.const (.int .i64 4))],argTypes:=#[E.tO,E.tO,E.tI,E.tI] }) E.tB),
      (oQ 11 (.assign (.tmp 28)) E.tB)]),
     (sq [(rg [(oQ 29 (.move (.tmp 10)) E.tS),
       (oQ 30 (.call { callee:=.builtin .len,args:=#[(.tmp 29)],argTypes:=#[E.tS] }) E.tI),
       (oQ 31 (.move (.const (.int .i64 0))) E.tI)]),
      (.block 0 (.loop (sq [(rg [(oQ 32 (.binOp .lss E.tI (.tmp 31) (.tmp 30) E.tI) 0)]),
         (.cond (.tmp 32)
          .skip
          (.exit 0)),
         (.block 1 (sq [(rg [(oQ 33 (.move (.tmp 31)) E.tI),
            (oQ 12 (.assign (.tmp 33)) E.tI)]),
           (rgd [(oQ 34 (.move (.tmp 11)) E.tB),
            (oQ 35 (.fieldAddr E.tFld (.tmp 4) 6) 0),
            ⟨some 36,.load E.tI (.tmp 35),E.tI,"",#[⟨1,.data⟩],none⟩,
            (oQ 37 (.fieldAddr E.tFld (.tmp 4) 7) 0),
            ⟨some 38,.load E.tFlds (.tmp 37),E.tFlds,"",#[⟨3,.data⟩],none⟩,
            (oQ 39 (.move (.tmp 1)) E.tI),
            (oQ 40 (.move (.tmp 2)) E.tO),
            (oQ 41 (.move (.tmp 10)) E.tS),
            (oQ 42 (.move (.tmp 12)) E.tI),
            ⟨some 43,.indexAddr E.tS (.tmp 41) (.tmp 42),0,"",#[⟨7,.data⟩,⟨8,.data⟩],none⟩,
            ⟨some 44,.load E.tT (.tmp 43),E.tT,"",#[⟨9,.data⟩],none⟩,
            ⟨some 45,.call { callee:=.value (.func E.sValue),args:=#[(.tmp 36),(.tmp 38),(.const (.bool false)),(.tmp 39),(.tmp 40),(.tmp 44)],argTypes:=#[E.tI,E.tFlds,E.tO,E.tI,E.tO,E.tT] },E.tB,"",#[⟨2,.data⟩,⟨4,.data⟩,⟨5,.data⟩,⟨6,.data⟩,⟨10,.data⟩],none⟩,
            ⟨some 46,.call { callee:=.builtin .append,args:=#[(.tmp 34),(.tmp 45)],argTypes:=#[E.tB,E.tB] },E.tB,"",#[⟨0,.data⟩,⟨11,.data⟩,⟨11,.chain⟩],none⟩,
            ⟨some 11,.assign (.tmp 46),E.tB,"",#[⟨12,.data⟩,⟨12,.chain⟩,⟨0,.phase⟩,⟨1,.phase⟩,⟨2,.phase⟩,⟨3,.phase⟩,⟨4,.phase⟩,⟨5,.phase⟩,⟨6,.phase⟩,⟨7,.phase⟩,⟨8,.phase⟩,⟨9,.phase⟩,⟨10,.phase⟩,⟨11,.phase⟩,⟨12,.phase⟩],none⟩])])),
         (rg [(oQ 47 (.binOp .add E.tI (.tmp 31) (.const (.int .i64 1)) E.tI) E.tI),
          (oQ 31 (.move (.tmp 47)) E.tI)])])))]),
     (rg [(oQ 48 (.move (.tmp 11)) E.tB),
      (oQ 8 (.assign (.tmp 48)) E.tB)]),
     .ret]) Q A W:=by
 obtain ⟨sv,hcs,hsub⟩:=hr
 have hUW:U<=W.heap.size:=Nat.le_trans hU hf.below.size
 have hsl:=rB H.rTrees
 obtain ⟨ad,cap,hxv⟩:=hLB.form
 have hs:=hf.size
 have hbW:=hf.bW
 have hbU:=hf.bU
 refine vX (rM (rM (rM ?_)))
 refine x7 (ad:=ad) (n:=L.length) (c:=cap) hsl (by simp (disch:=(try simp only[sP]);omega) only[eV,hx,hxv]) ?_
 refine q8 (args:=#[.bool fx,.bool nl,.int .i64 (L.length:Int),.int .i64 ((4:Nat):Int)]) ?_ (s_counted (U:=W.heap.size) HT.counted HT.uvar HT.fixed H.row H.u8 H.u64 H.i64 H.int hLn (by decide) (Nat.le_refl _)) ?_
 ·simp only[lM]
  simp (disch:=(try simp only[sP]);omega) only[eV,hf.s2,hf.s9]
  rfl
 rintro v W1 ⟨hown1,hb1⟩
 refine rA (dn (vS (vX (rM ?_))))
 refine x7 (ad:=ad) (n:=L.length) (c:=cap) hsl (by simp (disch:=(try simp only[sP]);omega) only[eV,hx,hxv]) ?_
 refine rM (dn ?_)
 have hf1:=hf.world hb1 zH
 refine vS (qh (xG (fun m B V=>m<=L.length/\FFr P E w U ver fx nl cs ts b B V/\B.eval (.tmp 10)=xv/\B.eval (.tmp 30)=.int .i64 (L.length:Int)/\B.eval (.tmp 31)=.int .i64 ((L.length-m:Nat):Int)/\W.heap.size<=V.heap.size/\Below W.heap.size W V ∧
  ∃ xs:List UInt8,V.ownsRow W.heap.size E.tU8 1 (B.eval (.tmp 11)) xs.length (xs.map bv)/\xs=cnt fx nl L.length 4++((L.take (L.length-m)).map fun t=>xP el (sub.part ver fx) false fx t).flatten) L.length ?_ ?_ ?_))
 ·refine ⟨Nat.le_refl _,(((((((((hf1.put _ zH).put _ zH).put _ zH).put _ zH).put _ zH).put _ zH).put _ zH).put _ zH).put _ zH),zA,zE,?_,hb1.size,hb1,cnt fx nl L.length 4,?_,?_⟩
  ·simp (disch:=(try simp only[sP]);omega) only[eV]
   simp
  ·rw[show Act.eval _ (.tmp 11)=v by exact zE]
   exact hown1
  ·simp
 ·rintro m B V ⟨hm,hfB,g10,g30,g31,hWV,hbV,xs,hown,hxs⟩
  have hi:L.length-(m+1)<L.length:=by omega
  have him:L.length-m=(L.length-(m+1))+1:=by omega
  rw[him]
  generalize hii:L.length-(m+1)=i at *
  have hbVU:Below U w V:=hf.below.trans (hbV.mono hUW)
  have hLV:=hLB.below hbVU
  obtain ⟨q,o,cap',hxv',hq,hel'⟩:∃ q o cap,xv=.slice (some ⟨q,o,none⟩) L.length cap/\q<U/\∀ (i:Nat) (t:Tr),L[i]? = some t->∃ c,qb V q (o+i*5) c/\t.Rep V U c:=by
   rcases hLV with ⟨_,rfl⟩ | ⟨q,o,cap,h1,h2,h3⟩
   ·simp at hi
   ·exact ⟨q,o,cap,h1,h2,h3⟩
  obtain ⟨c,hc,hrc⟩:=hel' i L[i] (List.getElem?_eq_getElem hi)
  have hsB:=hfB.size
  have c6:V.cell? ⟨b,6,none⟩=some (.int .i64 (el:Int)):=by have:=hfB.cf 6 (.int .i64 (el:Int)) (by rw[hcs];rfl);simpa using this
  have c7:V.cell? ⟨b,7,none⟩=some sv:=by have:=hfB.cf 7 sv (by rw[hcs];rfl);simpa using this
  refine vX ?_
  refine qV (k:=.i64) (m:=(i:Int)) (n:=(L.length:Int)) g31 g30 ?_
  refine dn ?_
  refine vS (vC (t:=true) ?_ ?_ (fun h=>by cases h))
  ·simp (disch:=(try simp only[sP]);omega) only[eV]
   simp only[Value.bool.injEq,decide_eq_true_eq]
   omega
  intro _
  refine vK ?_
  refine vS (qh (vX ?_))
  refine rM (rA (dn ?_))
  generalize hG:((B.put (some 32) _).put (some 33) _).put (some 12) _=G
  have hfG:=((hfB.put (d:=32) (.bool (decide ((i:Int)<(L.length:Int)))) zH).put (d:=33) ((B.put (some 32) (.bool (decide ((i:Int)<(L.length:Int))))).eval (.tmp 31)) zH).put (d:=12) (((B.put (some 32) (.bool (decide ((i:Int)<(L.length:Int))))).put (some 33) ((B.put (some 32) (.bool (decide ((i:Int)<(L.length:Int))))).eval (.tmp 31))).eval (.tmp 33)) zH
  rw[hG] at hfG
  have k10:G.eval (.tmp 10)=xv:=by rw[← hG];exact zA
  have k12:G.eval (.tmp 12)=.int .i64 (i:Int):=by rw[← hG];exact zA
  have k30:G.eval (.tmp 30)=.int .i64 (L.length:Int):=by rw[← hG];exact zA
  have k31:G.eval (.tmp 31)=.int .i64 (i:Int):=by rw[← hG];exact zA
  have k11:G.eval (.tmp 11)=B.eval (.tmp 11):=by rw[← hG];exact zE
  have hsG:=hfG.size
  clear hG
  rw[← k11] at hown
  have hsucc:=y2 L (fun t=>xP (el:Int) (sub.part ver fx) false fx t) i hi
  have hle:=gc L (fun t=>xP (el:Int) (sub.part ver fx) false fx t) (i+1)
  rw[hsucc,List.length_append] at hle
  have hvb:xs.length+(xP (el:Int) (sub.part ver fx) false fx L[i]).length<=big:=by
   rw[hxs,List.length_append]
   rw[List.length_append] at hbig
   omega
  have hUV:U<=V.heap.size:=Nat.le_trans hUW hWV
  have hbd:Below V.heap.size V { V with drawn:=V.drawn+1 }:=⟨rfl,rfl,rfl,Nat.le_refl _,fun _ _=>rfl⟩
  have hbV2:b+1<V.heap.size:=hfB.bW
  have mkS:∀ w2,Below W.heap.size V w2->w2.cell? ⟨b,6,none⟩=some (.int .i64 (el:Int))/\w2.cell? ⟨b,7,none⟩=some sv/\qb w2 q (o+i*5) c:=fun w2 h2 =>
   ⟨by rw[h2.cell (p:=⟨b,6,none⟩) (by show b<_;omega)];exact c6,by rw[h2.cell (p:=⟨b,7,none⟩) (by show b<_;omega)];exact c7,hc.below h2 zH⟩
  have hS:=mkS _ (hbd.mono hWV)
  refine vS (xd [(0,true),(1,true),(2,true),(3,true),(4,true),(5,true),(6,true),(7,true),(8,true),(9,true),(10,true),(11,false),(12,false),(13,true)] (fun W'=>W'.cell? ⟨b,6,none⟩=some (.int .i64 (el:Int))/\W'.cell? ⟨b,7,none⟩=some sv/\qb W' q (o+i*5) c) HT.mixed (by kernel_rfl) rfl (by kernel_rfl) (fun c a a' w h=>hpanic c a a' w h) ?_)
  refine dP rfl rfl rfl (wN rfl) (by simp only[zP,hsG];decide) hS (fun w' hS'=>rM (dn ⟨rfl,rfl,rfl⟩)) ?_
  refine dP rfl rfl rfl (wN rfl) (by simp only[zP,hsG];decide) hS (fun w' hS'=>rF (b:=b) (o:=0) (by simp (disch:=(try simp only[sP]);omega) only[eV,hfG.s4]) (ql H.fFld (by decide)) (dn ⟨rfl,rfl,rfl⟩)) ?_
  refine dP rfl rfl rfl (wN rfl) (by simp only[zP,hsG];decide) hS (fun w' hS'=>rL (b:=b) (o:=6) (v:=.int .i64 (el:Int)) zM H.oInt hS'.1 (dn ⟨rfl,rfl,rfl⟩)) ?_
  refine dP rfl rfl rfl (wN rfl) (by simp only[zP,hsG];decide) hS (fun w' hS'=>rF (b:=b) (o:=0) (by simp (disch:=(try simp only[sP]);omega) only[eV,hfG.s4]) (ql H.fFld (by decide)) (dn ⟨rfl,rfl,rfl⟩)) ?_
  refine dP rfl rfl rfl (wN rfl) (by simp only[zP,hsG];decide) hS (fun w' hS'=>rL (b:=b) (o:=7) (v:=sv) zM H.oFlds hS'.2.1 (dn ⟨rfl,rfl,rfl⟩)) ?_
  refine dP rfl rfl rfl (wN rfl) (by simp only[zP,hsG];decide) hS (fun w' hS'=>rM (dn ⟨rfl,rfl,rfl⟩)) ?_
  refine dP rfl rfl rfl (wN rfl) (by simp only[zP,hsG];decide) hS (fun w' hS'=>rM (dn ⟨rfl,rfl,rfl⟩)) ?_
  refine dP rfl rfl rfl (wN rfl) (by simp only[zP,hsG];decide) hS (fun w' hS'=>rM (dn ⟨rfl,rfl,rfl⟩)) ?_
  refine dP rfl rfl rfl (wN rfl) (by simp only[zP,hsG];decide) hS (fun w' hS'=>rM (dn ⟨rfl,rfl,rfl⟩)) ?_
  refine dP rfl rfl rfl (wN rfl) (by simp only[zP,hsG];decide) hS (fun w' hS'=>qA (k:=.i64) (j:=i) (b:=q) (o:=o) (len:=L.length) (cap:=cap') hsl (by simp (disch:=(try simp only[sP]);omega) only[eV,k10,hxv']) zA hi (dn ⟨rfl,rfl,rfl⟩)) ?_
  refine dP rfl rfl rfl (wN rfl) (by simp only[zP,hsG];decide) hS (fun w' hS'=>qf (b:=q) (o:=o+i*5) (cs:=c) zE (by rw[hrc.len];exact H.aTree) hS'.2.2 (dn ⟨rfl,rfl,rfl⟩)) ?_
  refine qx rfl (wN rfl) ?_
  have hbd':Below U w { V with drawn:=V.drawn+1 }:=hbVU.trans (hbd.mono hUV)
  refine q8 (args:=#[.int .i64 (el:Int),sv,.bool false,.int .i64 ver,.bool fx,.agg c.toArray]) ?_ (s_value (U:=V.heap.size) (ver:=ver) (nl:=false) (fx:=fx) (t:=L[i]) H HT hz8 hel (fun _=>hp) (Nat.le_refl _) (fun _=>(SlF.below hsub hbd').mono hUV) ((hrc.below (hbd.mono hUV)).mono hUV) zH) ?_
  ·simp only[lM]
   simp (disch:=(try simp only[sP]);omega) only[eV,hfG.s1,hfG.s2]
  rintro v2 w2 ⟨h1,h2⟩
  have hV2:Below V.heap.size V w2:=hbd.trans h2
  refine dn (qw (mkS _ (hV2.mono hWV)) ?_)
  refine qx rfl (wN rfl) ?_
  have hown2:=qE hown hV2
  refine xc (sz:=1) (U:=W.heap.size) (m:=(xP (el:Int) (sub.part ver fx) false fx L[i]).length) (news:=(xP (el:Int) (sub.part ver fx) false fx L[i]).map bv) H.row zE zE hown2 (Nat.le_trans hWV hV2.size) (xJ (rB H.row) h1 (xm _)) hvb ?_
  intro v4 w4 h5 h6
  have hV4:Below W.heap.size V w4:=(hV2.mono hWV).trans h6
  refine dn (qw (mkS _ hV4) ?_)
  refine dP rfl rfl rfl (wN rfl) (by simp only[zP,hsG];decide) (mkS _ hV4) (fun w' hS'=>rA (dn ⟨rfl,rfl,rfl⟩)) ?_
  refine xC ?_
  refine vN (vX ?_)
  refine xN (k:=.i64) (m:=(i:Int)) (n:=1) zA rfl ?_
  refine rM (dn (vN ?_))
  rw[← List.length_append,← List.map_append] at h5
  refine ⟨by omega,?_,zA,zA,?_,Nat.le_trans hWV hV4.size,hbV.trans hV4,xs++xP (el:Int) (sub.part ver fx) false fx L[i],?_,?_⟩
  ·have:=hfG.world hV4 zH
   repeat (refine FFr.put ?_ _ zH)
   exact this
  ·simp (disch:=(try simp only[sP]);omega) only[eV]
   rw[wrap_i64 (by unfold big at hLn;omega) (by unfold big at hLn;omega)]
   rfl
  ·rw[show Act.eval _ (.tmp 11)=v4 by exact zE]
   exact h5
  ·rw[hsucc,hxs,List.append_assoc]
 ·rintro B V ⟨hm,hfB,g10,g30,g31,hWV,hbV,xs,hown,hxs⟩
  refine vX ?_
  refine qV (k:=.i64) (m:=((L.length-0:Nat):Int)) (n:=(L.length:Int)) g31 g30 ?_
  refine dn ?_
  have hsB:=hfB.size
  refine vS (vC (t:=false) ?_ (fun h=>by cases h) ?_)
  ·simp (disch:=(try simp only[sP]);omega) only[eV]
   simp only[Value.bool.injEq,decide_eq_false_iff_not]
   omega
  intro _
  refine xb ?_
  simp only[Exit.then,Exit.inBlock,if_true]
  refine vN (vX (rM (rA (dn (vS (vT ?_))))))
  rw[Nat.sub_zero,List.take_length] at hxs
  rw[← hxs] at hQ
  exact hQ _ _ ⟨by simp only[dF];exact hfB.defers,B.eval (.tmp 11),rO zE,jM hown hUW,hf.below.trans (hbV.mono hUW)⟩
end
end Go.Km
namespace Go.Km
open Go Go.RowKit
attribute [local irreducible] vc rO_ qz qJ qF
section
variable {P : Program} {E : Env} {w : World} {U : Nat}
theorem s_fieldL (H:SEnv P E) (HT:STexts P E) (hz8:qK P E.tU8=some (.int .u8 0)) {kind fr to nul tag df ver:Int} {el:Nat} {sub:SFs} {nl fx:Bool} {cs ts:List Value} {n:Int} {s:List UInt8} {tnl:Bool} {l:Trs} {u:List (Nat × List UInt8)} {b:Nat} {A:Act} {W:World} {Q:Exit->Act->World->Prop}
  (hf:FFr P E w U ver fx nl cs ts b A W) (hr:(SF.mk kind fr to nul tag df el sub).Rep w U cs) (hrt:(Tr.mk n s tnl l u).Rep w U ts) (hU:U<=w.heap.size) (hel:el<=10) (hp:vI P E ver fx sub) {L:List Tr} (hL:L=if nl then [] else l.toL.take 32767)
  (hbig:(cnt fx nl L.length 4++(L.map fun t=>xP el (sub.part ver fx) false fx t).flatten).length<=big) (hpanic:∀ c a a' w,Q (.panic c) a w->Q (.panic c) a' w)
  (hQ:∀ a' w',Out P #[.tmp 8] (fun v w'=>w'.ownsRow U E.tU8 1 v (cnt fx nl L.length 4++(L.map fun t=>xP el (sub.part ver fx) false fx t).flatten).length ((cnt fx nl L.length 4++(L.map fun t=>xP el (sub.part ver fx) false fx t).flatten).map bv)/\Below U w w') .ret a' w'->Q .ret a' w') :
  vc P (sq [(rg [(oQ 20 (.fieldAddr E.tT (.tmp 7) 3) 0),
      (oQ 21 (.load E.tS (.tmp 20)) E.tS),
      (oQ 22 (.call { callee:=.value (.func E.sThings),args:=#[(.tmp 21)],argTypes:=#[E.tS] }) E.tS),
      (oQ 10 (.assign (.tmp 22)) E.tS)]),
     (sq [(rg [(oQ 23 (.move (.tmp 9)) E.tO)]),
      (.cond (.tmp 23)
       (rg [(oQ 10 (.assign (.const (.slice none 0 0))) E.tS)])
       .skip)]),
     (rg [(oQ 24 (.move (.tmp 2)) E.tO),
      (oQ 25 (.move (.tmp 9)) E.tO),
      (oQ 26 (.move (.tmp 10)) E.tS),
      (oQ 27 (.call { callee:=.builtin .len,args:=#[(.tmp 26)],argTypes:=#[E.tS] }) E.tI),
      (oQ 28 (.call { callee:=.value (.func E.sCounted),args:=#[(.tmp 24),(.tmp 25),(.tmp 27),(.const (.int .i64 4))],argTypes:=#[E.tO,E.tO,E.tI,E.tI] }) E.tB),
      (oQ 11 (.assign (.tmp 28)) E.tB)]),
     (sq [(rg [(oQ 29 (.move (.tmp 10)) E.tS),
       (oQ 30 (.call { callee:=.builtin .len,args:=#[(.tmp 29)],argTypes:=#[E.tS] }) E.tI),
       (oQ 31 (.move (.const (.int .i64 0))) E.tI)]),
      (.block 0 (.loop (sq [(rg [(oQ 32 (.binOp .lss E.tI (.tmp 31) (.tmp 30) E.tI) 0)]),
         (.cond (.tmp 32)
          .skip
          (.exit 0)),
         (.block 1 (sq [(rg [(oQ 33 (.move (.tmp 31)) E.tI),
            (oQ 12 (.assign (.tmp 33)) E.tI)]),
           (rgd [(oQ 34 (.move (.tmp 11)) E.tB),
            (oQ 35 (.fieldAddr E.tFld (.tmp 4) 6) 0),
            ⟨some 36,.load E.tI (.tmp 35),E.tI,"",#[⟨1,.data⟩],none⟩,
            (oQ 37 (.fieldAddr E.tFld (.tmp 4) 7) 0),
            ⟨some 38,.load E.tFlds (.tmp 37),E.tFlds,"",#[⟨3,.data⟩],none⟩,
            (oQ 39 (.move (.tmp 1)) E.tI),
            (oQ 40 (.move (.tmp 2)) E.tO),
            (oQ 41 (.move (.tmp 10)) E.tS),
            (oQ 42 (.move (.tmp 12)) E.tI),
            ⟨some 43,.indexAddr E.tS (.tmp 41) (.tmp 42),0,"",#[⟨7,.data⟩,⟨8,.data⟩],none⟩,
            ⟨some 44,.load E.tT (.tmp 43),E.tT,"",#[⟨9,.data⟩],none⟩,
            ⟨some 45,.call { callee:=.value (.func E.sValue),args:=#[(.tmp 36),(.tmp 38),(.const (.bool false)),(.tmp 39),(.tmp 40),(.tmp 44)],argTypes:=#[E.tI,E.tFlds,E.tO,E.tI,E.tO,E.tT] },E.tB,"",#[⟨2,.data⟩,⟨4,.data⟩,⟨5,.data⟩,⟨6,.data⟩,⟨10,.data⟩],none⟩,
            ⟨some 46,.call { callee:=.builtin .append,args:=#[(.tmp 34),(.tmp 45)],argTypes:=#[E.tB,E.tB] },E.tB,"",#[⟨0,.data⟩,⟨11,.data⟩,⟨11,.chain⟩],none⟩,
            ⟨some 11,.assign (.tmp 46),E.tB,"",#[⟨12,.data⟩,⟨12,.chain⟩,⟨0,.phase⟩,⟨1,.phase⟩,⟨2,.phase⟩,⟨3,.phase⟩,⟨4,.phase⟩,⟨5,.phase⟩,⟨6,.phase⟩,⟨7,.phase⟩,⟨8,.phase⟩,⟨9,.phase⟩,⟨10,.phase⟩,⟨11,.phase⟩,⟨12,.phase⟩],none⟩])])),
         (rg [(oQ 47 (.binOp .add E.tI (.tmp 31) (.const (.int .i64 1)) E.tI) E.tI),
          (oQ 31 (.move (.tmp 47)) E.tI)])])))]),
     (rg [(oQ 48 (.move (.tmp 11)) E.tB),
      (oQ 8 (.assign (.tmp 48)) E.tB)]),
     .ret]) Q A W:=by
 obtain ⟨s1,lv,uv,hts,_,_,hl⟩:=hrt
 have d3:W.cell? ⟨b+1,0+3,none⟩=some lv:=hf.ct 3 lv (by rw[hts];rfl)
 have hsl:=rB H.rTrees
 obtain ⟨ad,cap,hlv,hcap,had⟩:∃ ad cap,lv=.slice ad l.len cap/\l.len<=cap/\∀ k,k<=l.len->ListB w U (.slice ad k cap) (l.toL.take k):=by
  rcases hl with ⟨⟨ad,cap,rfl⟩,h0⟩ | ⟨q,o,cap,rfl,hc,hq,hrep⟩
  ·refine ⟨ad,cap,by rw[h0],by omega,fun k hk=>.inl ⟨⟨ad,cap,by rw[show k=0 by omega]⟩,?_⟩⟩
   rw[show k=0 by omega,List.take_zero]
  ·refine ⟨_,cap,rfl,hc,fun k hk=>.inr ⟨q,o,cap,by rw[List.length_take,Trs.toL_len,Nat.min_eq_left hk],hq,fun i t ht=>?_⟩⟩
   have:l.get i=some t:=by
    rw[List.getElem?_take] at ht
    split at ht
    ·rw[← Trs.toL_get];exact ht
    ·cases ht
   exact hrep.get this
 subst hlv
 have hs:=hf.size
 refine vX ?_
 refine rF (b:=b+1) (o:=0) (by simp (disch:=(try simp only[sP]);omega) only[eV,hf.s7]) (ql H.fTree (by decide)) ?_
 refine rL (b:=b+1) (o:=0+3) zE H.oTrees d3 ?_
 refine q8 (args:=#[.slice ad l.len cap]) ?_ (s_first (T:=E.tS) (e:=E.tT) (c:=.skip) (.inr hsl) H.int hcap HT.things) ?_
 ·simp only[lM]
  exact zE
 rintro v w' ⟨rfl,rfl⟩
 refine rA (dn (vS (vX (rM (dn ?_)))))
 refine vS (vC (t:=nl) (by simp (disch:=(try simp only[sP]);omega) only[eV,hf.s9]) ?_ ?_)
 ·intro hn
  have hL0:L=[]:=by rw[hL,hn];rfl
  refine vR zS ?_
  refine rA (dn (vN ?_))
  refine s_fieldL2 (b:=b) (ts:=ts) (cs:=cs) (xv:=.slice none 0 0) H HT hz8 (L:=L) ?_ hr hU hel hp zE (.inl ⟨nilS,hL0⟩) (by rw[hL0];decide) hbig hpanic hQ
  repeat (refine FFr.put ?_ _ zH)
  exact hf
 ·intro hn
  have hL1:L=l.toL.take (min l.len 32767):=by
   rw[hL,hn]
   simp only[Bool.false_eq_true,if_false]
   rcases Nat.le_total l.len 32767 with h | h
   ·rw[Nat.min_eq_left h,List.take_of_length_le (by rw[Trs.toL_len];exact h),List.take_of_length_le (by rw[Trs.toL_len];exact Nat.le_refl _)]
   ·rw[Nat.min_eq_right h]
  refine vK (vN ?_)
  refine s_fieldL2 (b:=b) (ts:=ts) (cs:=cs) (xv:=.slice ad (min l.len 32767) cap) H HT hz8 (L:=L) ?_ hr hU hel hp zE (by rw[hL1];exact had _ (Nat.min_le_left _ _)) (by rw[hL1,List.length_take];unfold big;omega) hbig hpanic hQ
  repeat (refine FFr.put ?_ _ zH)
  exact hf
end
end Go.Km
namespace Go.Km
open Go Go.RowKit
attribute [local irreducible] vc rO_ qz qJ qF
theorem SF.wr_list {v:Int} {fx:Bool} {fr to nul tag df el:Int} {sub:SFs} {n:Int} {s:List UInt8} {tnl:Bool} {l:Trs} {u:List (Nat × List UInt8)} (nl:Bool) (hn:(SF.mk 11 fr to nul tag df el sub).isNull v (.mk n s tnl l u)=nl) (L:List Tr) (hL:L=if nl then [] else l.toL.take 32767) :
  (SF.mk 11 fr to nul tag df el sub).wr v fx (.mk n s tnl l u)=cnt fx nl L.length 4++(L.map fun t=>xP el (sub.part v fx) false fx t).flatten:=by
 subst hn;subst hL
 simp only[SF.wr,if_true]
 rfl
theorem SF.wr_null {v:Int} {fx:Bool} {fr to nul tag df el:Int} {sub:SFs} {t:Tr} (h0:nul ≥ 0) :
  (SF.mk 10 fr to nul tag df el sub).wr v fx t=if (SF.mk 10 fr to nul tag df el sub).isNull v t then be 1 (-1) else be 1 1++sub.part v fx t:=by
 simp[SF.wr,SFs.part,h0]
theorem SF.wr_val {v:Int} {fx:Bool} {kind fr to nul tag df el:Int} {sub:SFs} {t:Tr} (h1:kind≠11) (h2:¬ (kind=10/\nul ≥ 0)) :
  (SF.mk kind fr to nul tag df el sub).wr v fx t=xP kind (sub.part v fx) ((SF.mk kind fr to nul tag df el sub).isNull v t) fx t:=by
 have:¬ ((decide (kind=10)&&decide (nul ≥ 0))=true):=by simpa using h2
 simp only[SF.wr,h1,if_false,this]
 rfl
section
variable {P : Program} {E : Env}
theorem s_field (H:SEnv P E) (HT:STexts P E) (hz8:qK P E.tU8=some (.int .u8 0)) {ver:Int} {fx:Bool} {f:SF} (hk:f.kindOk=true) (hp:vI P E ver fx f.sub):ws P E ver fx f:=by
 intro U w cs t ts hU hr hrt hbig
 refine qa.enter HT.field zS ?_
 intro a hsz hdf harg
 have e0:=harg 0 (.agg cs.toArray) zS
 have e1:=harg 1 (.int .i64 ver) zS
 have e2:=harg 2 (.bool fx) zS
 have e3:=harg 3 (.agg ts.toArray) zS
 unfold c_sField
 refine vX ?_
 refine xI (v:=.agg cs.toArray) zA ?_
 refine xI (v:=.agg ts.toArray) zA ?_
 refine rA (dn ?_)
 generalize hw1:w.alloc (.cells (Value.agg cs.toArray).cells E.tFld)=w1
 have hb1:Below U w w1:=by rw[← hw1];exact (Below.refl U w).alloc (o:=.cells _ _) hU
 have hz1:w1.heap.size=w.heap.size+1:=by rw[← hw1];simp
 have c1:qb w1 w.heap.size 0 cs:=by
  intro i v hv
  rw[← hw1,Nat.zero_add]
  exact qs w _ E.tFld (by simpa [Value.cells] using hv)
 clear hw1
 generalize hw2:w1.alloc (.cells (Value.agg ts.toArray).cells E.tT)=W
 have hb2:Below U w W:=by rw[← hw2];exact hb1.trans ((Below.refl U w1).alloc (o:=.cells _ _) zH)
 have hz2:W.heap.size=w.heap.size+2:=by rw[← hw2];simp[hz1]
 have d1:qb W w.heap.size 0 cs:=by rw[← hw2];exact c1.eff (Eff.refl (fun _ _=>False) w1 |>.alloc _) (fun _ _ h=>h)
 have d2:qb W (w.heap.size+1) 0 ts:=by
  intro i v hv
  rw[← hw2,Nat.zero_add,← hz1]
  exact qs w1 _ E.tT (by simpa [Value.cells] using hv)
 clear hw2
 rw[hz1]
 refine vX ?_
 refine qf (b:=w.heap.size) (o:=0) (cs:=cs) zE (by rw[hr.len];exact H.aFld) d1 ?_
 refine rM ?_
 refine qf (b:=w.heap.size+1) (o:=0) (cs:=ts) zE (by rw[hrt.len];exact H.aTree) d2 ?_
 refine q8 (args:=#[.agg cs.toArray,.int .i64 ver,.agg ts.toArray]) ?_ (s_null (U:=W.heap.size) H HT.null ((hr.below hb2).mono zH) ((hrt.below hb2).mono zH) (Nat.le_refl _)) ?_
 ·simp only[lM]
  simp (disch:=(try simp only[sP]);omega) only[eV,e1]
 rintro v w3 ⟨rfl,hb3⟩
 refine rA (dn ?_)
 generalize hA:Act.put _ (some 9) _=A
 have hf:FFr P E w U ver fx (f.isNull ver t) cs ts w.heap.size A w3:=by
  rw[← hA]
  exact ⟨by simp only[zP];exact hsz,by simp only[dF];exact hdf,zA,zA,zE,zE,zE,hb2.trans (hb3.mono zH),hU,by have:=hb3.size;omega,d1.below hb3 zH,d2.below hb3 zH⟩
 clear hA
 have hs:=hf.size
 cases f with
 | mk kindI fr to nul tag df elI sub =>
 simp only[SF.kindOk,Bool.and_eq_true,decide_eq_true_eq] at hk
 obtain ⟨kind,rfl⟩:=Int.eq_ofNat_of_zero_le hk.1.1.1
 obtain ⟨el,rfl⟩:=Int.eq_ofNat_of_zero_le hk.1.2
 have hel:el<=10:=by omega
 have k0:w3.cell? ⟨w.heap.size,0+0,none⟩=some (.int .i64 (kind:Int)):=hf.cf 0 _ (by obtain ⟨sv,rfl,_⟩:=hr;rfl)
 have k3:w3.cell? ⟨w.heap.size,0+3,none⟩=some (.int .i64 nul):=hf.cf 3 _ (by obtain ⟨sv,rfl,_⟩:=hr;rfl)
 cases t with
 | mk n s tnl l u =>
 generalize hnl:(SF.mk (kind:Int) fr to nul tag df (el:Int) sub).isNull ver (.mk n s tnl l u)=nl at hf
 refine vS (vX ?_)
 refine rF (b:=w.heap.size) (o:=0) (by simp (disch:=(try simp only[sP]);omega) only[eV,hf.s4]) (ql H.fFld (by decide)) ?_
 refine rL (b:=w.heap.size) (o:=0+0) zE H.oInt k0 ?_
 refine xy (k:=.i64) (m:=(kind:Int)) (n:=11) zE rfl ?_
 refine dn ?_
 refine vS (vC (t:=((kind:Int)==11)) zM ?_ ?_)
 ·intro h11
  have h11':kind=11:=by simp only[beq_iff_eq] at h11;omega
  subst h11'
  have hwr:=SF.wr_list (fx:=fx) nl hnl _ rfl
  have hwr':(SF.mk ((11:Nat):Int) fr to nul tag df (el:Int) sub).wr ver fx (.mk n s tnl l u)=_:=hwr
  rw[hwr'] at hbig ⊢
  refine s_fieldL (w:=w) (U:=U) (b:=w.heap.size) (ts:=ts) (cs:=cs) (nl:=nl) H HT hz8 ?_ hr hrt hU hel hp rfl hbig (fun _ _ _ _ h=>False.elim h) (fun _ _ h=>h)
  repeat (refine FFr.put ?_ _ zH)
  exact hf
 ·intro h11
  have h11':kind≠11:=by simp only[beq_eq_false_iff_ne,ne_eq] at h11;omega
  refine vK (vN ?_)
  generalize hB:Act.put _ (some 19) _=B
  have hfB:FFr P E w U ver fx nl cs ts w.heap.size B w3:=by
   rw[← hB]
   repeat (refine FFr.put ?_ _ zH)
   exact hf
  clear hB
  have hsB:=hfB.size
  refine vS (vS (yE [0,1,2,3,4,5,6,7] rfl ?_))
  refine rD rfl (wN rfl) (rF (b:=w.heap.size) (o:=0) (by simp (disch:=(try simp only[sP]);omega) only[eV,hfB.s4]) (ql H.fFld (by decide)) (dn (rT ?_)))
  refine rD rfl (wN rfl) (rL (b:=w.heap.size) (o:=0+0) zE H.oInt k0 (dn (rT ?_)))
  refine rD rfl (wN rfl) (xy (k:=.i64) (m:=(kind:Int)) (n:=10) zE rfl (dn (rT ?_)))
  (refine rD rfl (wN rfl) ?_;refine rM ?_;refine dn (rT ?_))
  have fin:∀ (C:Act),FFr P E w U ver fx nl cs ts w.heap.size C w3->¬ (kind=10/\nul ≥ 0)->∀ Q:Exit->Act->World->Prop,(∀ a' w',Out P #[.tmp 8] (fun v w'=>w'.ownsRow U E.tU8 1 v ((SF.mk (kind:Int) fr to nul tag df (el:Int) sub).wr ver fx (.mk n s tnl l u)).length (((SF.mk (kind:Int) fr to nul tag df (el:Int) sub).wr ver fx (.mk n s tnl l u)).map bv)/\Below U w w') .ret a' w'->Q .ret a' w')->vc P (sq [(rg [(oQ 67 (.fieldAddr E.tFld (.tmp 4) 0) 0),
   (oQ 68 (.load E.tI (.tmp 67)) E.tI),
   (oQ 69 (.fieldAddr E.tFld (.tmp 4) 7) 0),
   (oQ 70 (.load E.tFlds (.tmp 69)) E.tFlds),
   (oQ 71 (.move (.tmp 9)) E.tO),
   (oQ 72 (.move (.tmp 1)) E.tI),
   (oQ 73 (.move (.tmp 2)) E.tO),
   (oQ 74 (.load E.tT (.tmp 7)) E.tT),
   (oQ 75 (.call { callee:=.value (.func E.sValue),args:=#[(.tmp 68),(.tmp 70),(.tmp 71),(.tmp 72),(.tmp 73),(.tmp 74)],argTypes:=#[E.tI,E.tFlds,E.tO,E.tI,E.tO,E.tT] }) E.tB),
   (oQ 8 (.assign (.tmp 75)) E.tB)]),.ret]) Q C w3:=by
   intro C hfC hno Q hQ
   have hwr:=SF.wr_val (v:=ver) (fx:=fx) (fr:=fr) (to:=to) (nul:=nul) (tag:=tag) (df:=df) (el:=(el:Int)) (sub:=sub) (t:=.mk n s tnl l u) (kind:=(kind:Int)) zH zH
   rw[hnl] at hwr
   rw[hwr] at hbig hQ
   exact s_fieldV H HT hz8 hfC hr hrt hU zH (fun _=>hp) hbig hQ
  by_cases h10:kind=10
  ·subst h10
   refine rD rfl (by rw[wS (b:=true) rfl rfl zM];rfl) (rF (b:=w.heap.size) (o:=0) (by simp (disch:=(try simp only[sP]);omega) only[eV,hfB.s4]) (ql H.fFld (by decide)) (dn (rT ?_)))
   refine rD rfl (by rw[wS (b:=true) rfl rfl zM];rfl) (rL (b:=w.heap.size) (o:=0+3) zE H.oInt k3 (dn (rT ?_)))
   refine rD rfl (by rw[wS (b:=true) rfl rfl zM];rfl) (kX (k:=.i64) (m:=nul) (n:=0) zE rfl (dn (rT ?_)))
   (refine rD rfl (wN rfl) ?_;(refine qZ ?_ ?_;(try simp (disch:=(try simp only[sP]);omega) only[eV])<;>(first | rfl | assumption));refine dn (rT ?_))
   refine qy ?_
   refine vS (vC (t:=decide (nul ≥ 0)) zM ?_ ?_)
   ·intro h0
    have h0':nul ≥ 0:=by simpa using h0
    have hwr:=SF.wr_null (v:=ver) (fx:=fx) (fr:=fr) (to:=to) (tag:=tag) (df:=df) (el:=(el:Int)) (sub:=sub) (t:=.mk n s tnl l u) h0'
    have hnl':(SF.mk 10 fr to nul tag df (el:Int) sub).isNull ver (.mk n s tnl l u)=nl:=hnl
    rw[hnl'] at hwr
    have hwr':(SF.mk ((10:Nat):Int) fr to nul tag df (el:Int) sub).wr ver fx (.mk n s tnl l u)=_:=hwr
    rw[hwr'] at hbig ⊢
    refine s_fieldN (w:=w) (U:=U) (b:=w.heap.size) (ts:=ts) (cs:=cs) (nl:=nl) (t:=.mk n s tnl l u) H HT ?_ hr hrt hU hp hbig (fun _ _ _ _ h=>False.elim h) (fun _ _ h=>h)
    repeat (refine FFr.put ?_ _ zH)
    exact hfB
   ·intro h0
    have h0':¬ nul ≥ 0:=by simpa using h0
    refine vK (vN ?_)
    refine fin _ ?_ (fun h=>h0' h.2) _ (fun _ _ h=>h)
    repeat (refine FFr.put ?_ _ zH)
    exact hfB
  ·have hb10:((kind:Int)==10)=false:=by simp only[beq_eq_false_iff_ne,ne_eq];omega
   rw[hb10]
   (refine qX rfl (by rw[wS (b:=false) rfl rfl zM];rfl) ?_)
   (refine qX rfl (by rw[wS (b:=false) rfl rfl zM];rfl) ?_)
   (refine qX rfl (by rw[wS (b:=false) rfl rfl zM];rfl) ?_)
   (refine rD rfl (wN rfl) ?_;(refine xx ?_ ?_;(try exact zE)<;>(first | rfl | assumption));refine dn (rT ?_))
   refine qy ?_
   refine vS (vC (t:=false) zM (fun h=>by cases h) ?_)
   intro _
   refine vK (vN ?_)
   refine fin _ ?_ (fun h=>h10 h.1) _ (fun _ _ h=>h)
   repeat (refine FFr.put ?_ _ zH)
   exact hfB
end
end Go.Km
namespace Go.Km
open Go Go.RowKit
attribute [local irreducible] vc rO_ qz qJ qF
theorem SFs.tags_len:∀ fs:SFs,fs.tags.length=fs.len
 | .nil=>rfl
 | .cons (.mk _ _ _ _ _ _ _ _) r=>by simp[SFs.tags,SFs.len,SFs.tags_len r]
def SF.tag:SF->Int
 | .mk _ _ _ _ tag _ _ _=>tag
theorem SFs.tags_get:∀ (fs:SFs) (i:Nat) (f:SF),fs.get i=some f->fs.tags[i]? = some f.tag
 | .nil,_,_,h=>by cases h
 | .cons (.mk _ _ _ _ tag _ _ _) r,0,f,h=>by simp only[SFs.get,Option.some.injEq] at h;subst h;rfl
 | .cons (.mk _ _ _ _ tag _ _ _) r,i+1,f,h=>by simpa [SFs.tags] using SFs.tags_get r i f h
theorem known_succ (l:List Int) (i:Nat) (h:i<l.length):known (l.take (i+1))=if 0<=l[i] then max (known (l.take i)) (l[i].toNat+1) else known (l.take i):=by
 unfold known
 rw[List.take_succ_eq_append_getElem h,List.foldl_append]
 rfl
theorem known_lt {B:Nat} (l:List Int) (h:∀ t ∈ l,t<(B:Int)):known l<=B:=by
 unfold known
 have:∀ (l:List Int) (n:Nat),n<=B->(∀ t ∈ l,t<(B:Int))->l.foldl (fun n t=>if 0<=t then max n (t.toNat+1) else n) n<=B:=by
  intro l
  induction l with
  | nil=>exact fun n hn _=>hn
  | cons t r ih =>
   intro n hn h
   refine ih _ ?_ (fun x hx=>h x (by simp[hx]))
   have:=h t zS
   show (if 0<=t then max n (t.toNat+1) else n)<=B
   split<;>omega
 exact this l 0 (Nat.zero_le _) h
section
variable {P : Program} {a : Act} {w : World} {r : List Oper} {Q : Exit → Act → World → Prop}
theorem r_max {d x y t ty p af g k m n} (hx:a.eval x=.int k m) (hy:a.eval y=.int k n) (h:rO_ P Q r (a.put (some d) (.int k (if n>m then n else m))) w) :
  rO_ P Q (⟨some d,.call { callee:=.builtin .max,args:=#[x,y],argTypes:=t },ty,p,af,g⟩::r) a w:=by
 refine st ?_
 have hr:(Builtin.max_ t ty #[a.eval x,a.eval y]).run P w=.ok (.int k (if n>m then n else m)) w:=by
  rw[hx,hy]
  simp[Builtin.max_,Builtin.max2]
 simp only[Oper.wp,execOp,resolve,invoke,builtin,Sem.run_bind,Sem.run_pure,Result.andThen_ok,List.map_toArray,List.map_cons,List.map_nil,hr,Oper.upon_value]
 exact h
end
section
variable {P : Program} {E : Env} {w : World} {U : Nat}
theorem s_known (H:SEnv P E) (HL:SLay P E) (HT:STexts P E) {fs:SFs} {sv:Value} (hsf:SlF w U sv fs) (hU:U<=w.heap.size) (htg:∀ t ∈ fs.tags,t<65536) (hlen:fs.len<=big) :
  qa P E.sKnown #[sv] w fun v w'=>v=.int .u32 (known fs.tags:Nat)/\Below U w w':=by
 unfold big at hlen
 refine qa.enter HT.known zS ?_
 intro a hsz hdf harg
 have e0:=harg 0 sv zS
 obtain ⟨ad,cap,hsv,hget⟩:∃ ad cap,sv=.slice ad fs.len cap/\∀ i f,fs.get i=some f->i<fs.len->∃ q o c,ad=some ⟨q,o,none⟩/\q<U/\qb w q (o+i*8) c/\f.Rep w U c:=by
  rcases hsf with ⟨rfl,h0⟩ | ⟨q,o,cap,rfl,_,hq,hrep⟩
  ·exact ⟨none,0,by rw[h0],fun i f _ hi=>by omega⟩
  ·refine ⟨_,cap,rfl,fun i f hf _=>?_⟩
   obtain ⟨c,h1,h2⟩:=hrep.get hf
   exact ⟨q,o,c,rfl,hq,h1,h2⟩
 obtain ⟨z,hz,hzc⟩:=xD HL.fld
 unfold c_sKnown
 refine vX (rA (dn (vX (rA (dn (vS (vX (rM ?_))))))))
 refine x7 (ad:=ad) (n:=fs.len) (c:=cap) H.sFlds (by simp (disch:=(try simp only[sP]);omega) only[eV,e0,hsv]) ?_
 refine rM (dn ?_)
 refine vS (qh (xG (fun m A W=>m<=fs.len/\A.tmps.size=23/\A.defers=[]/\A.eval (.tmp 6)=sv/\A.eval (.tmp 7)=.int .i64 (fs.len:Int)/\A.eval (.tmp 8)=.int .i64 ((fs.len-m:Nat):Int)/\A.eval (.tmp 3)=.int .u32 (known (fs.tags.take (fs.len-m)):Nat)/\Below U w W) fs.len ?_ ?_ ?_))
 ·refine ⟨Nat.le_refl _,by simp only[zP];exact hsz,by simp only[dF];exact hdf,zA,zE,?_,?_,Below.refl _ _⟩
  ·simp (disch:=(try simp only[sP]);omega) only[eV]
   simp
  ·simp (disch:=(try simp only[sP]);omega) only[eV]
   simp[known]
 ·rintro m A W ⟨hm,hs,hd,g6,g7,g8,g3,hb⟩
  have hi:fs.len-(m+1)<fs.len:=by omega
  have him:fs.len-m=(fs.len-(m+1))+1:=by omega
  rw[him]
  generalize hii:fs.len-(m+1)=i at *
  obtain ⟨f,hf⟩:=SFs.get_lt fs i hi
  obtain ⟨q,o,c,rfl,hq,hc,hrc⟩:=hget i f hf hi
  have htag:=SFs.tags_get fs i f hf
  have hil:i<fs.tags.length:=by rw[SFs.tags_len];exact hi
  have htag':fs.tags[i]=f.tag:=by rw[List.getElem?_eq_getElem hil] at htag;exact Option.some.inj htag
  have hks:=known_succ fs.tags i hil
  rw[htag'] at hks
  have htb:f.tag<65536:=htg f.tag (by rw[← htag'];exact List.getElem_mem hil)
  have hkb:known (fs.tags.take i)<=65536:=known_lt (B:=65536) _ (fun t ht=>htg t (List.mem_of_mem_take ht))
  have hUW:U<=W.heap.size:=Nat.le_trans hU hb.size
  refine vX ?_
  refine qV (k:=.i64) (m:=(i:Int)) (n:=(fs.len:Int)) g8 g7 ?_
  refine dn ?_
  refine vS (vC (t:=true) ?_ ?_ (fun h=>by cases h))
  ·simp (disch:=(try simp only[sP]);omega) only[eV]
   simp only[Value.bool.injEq,decide_eq_true_eq]
   omega
  intro _
  refine vK ?_
  refine vS (qh (vX ?_))
  refine qA (k:=.i64) (j:=i) (b:=q) (o:=o) (len:=fs.len) (cap:=cap) H.sFlds (by simp (disch:=(try simp only[sP]);omega) only[eV,g6,hsv]) zA hi ?_
  refine qf (b:=q) (o:=o+i*8) (cs:=c) zE (by rw[hrc.len];exact H.aFld) (hc.below hb hq) ?_
  refine qI hz ?_
  refine qu (b:=W.heap.size) (o:=0) (cs:=c) zE zE hrc.one (by rw[hrc.len];exact H.aFld) ?_ ?_
  ·intro j hj
   rw[Nat.zero_add]
   exact qm W _ _ (by rw[hzc];rw[hrc.len] at hj;simpa using hj)
  refine dn ?_
  have hc4:(setCells (W.alloc (.cells z.cells E.tFld)) W.heap.size 0 c).cell? ⟨W.heap.size,0+4,none⟩=some (.int .i64 f.tag):=by
   refine qg W.heap.size c _ 0 (fun j hj=>?_) 4 _ ?_
   ·rw[Nat.zero_add]
    exact (qm W z.cells E.tFld (by rw[hzc];rw[hrc.len] at hj;simpa using hj)).1
   ·cases f with
    | mk=>obtain ⟨sv2,rfl,_⟩:=hrc;rfl
  have hb2:Below U w (setCells (W.alloc (.cells z.cells E.tFld)) W.heap.size 0 c):=by
   refine hb.trans (((Below.refl U W).alloc (o:=.cells _ _) hUW).trans ((qe W.heap.size c _ 0).below (by simp;omega) (by rintro k i hk ⟨rfl,_,_⟩;omega)))
  generalize setCells (W.alloc (.cells z.cells E.tFld)) W.heap.size 0 c=W2 at hc4 hb2 ⊢
  have fin:∀ (B:Act) (k:Nat),B.tmps.size=23->B.defers=[]->B.eval (.tmp 6)=sv->B.eval (.tmp 7)=.int .i64 (fs.len:Int)->B.eval (.tmp 8)=.int .i64 (i:Int)->B.eval (.tmp 3)=.int .u32 (k:Int)->k=known (fs.tags.take (i+1))->∀ Q:Exit->Act->World->Prop,
    (∀ A' ,m<=fs.len/\A'.tmps.size=23/\A'.defers=[]/\A'.eval (.tmp 6)=sv/\A'.eval (.tmp 7)=.int .i64 (fs.len:Int)/\A'.eval (.tmp 8)=.int .i64 ((i+1:Nat):Int)/\A'.eval (.tmp 3)=.int .u32 (known (fs.tags.take (i+1)):Nat)/\Below U w W2->Q .normal A' W2) →
    vc P (sq [(rg [(oQ 21 (.binOp .add E.tI (.tmp 8) (.const (.int .i64 1)) E.tI) E.tI),(oQ 8 (.move (.tmp 21)) E.tI)])]) Q B W2:=by
   intro B k b1 b2 b6 b7 b8 b3 hk Q hQ
   refine vR zS ?_
   refine xN (k:=.i64) (m:=(i:Int)) (n:=1) zA rfl ?_
   refine rM (dn ?_)
   refine hQ _ ⟨by omega,by simp only[zP];exact b1,by simp only[dF];exact b2,zA,zA,?_,?_,hb2⟩
   ·simp (disch:=(try simp only[sP]);omega) only[eV]
    rw[wrap_i64 zH zH]
    rfl
   ·simp (disch:=(try simp only[sP]);omega) only[eV,b3]
    rw[hk]
  refine vX ?_
  refine rF (b:=W.heap.size) (o:=0) zE (ql H.fFld (by decide)) ?_
  refine rL (b:=W.heap.size) (o:=0+4) zE H.oInt hc4 ?_
  refine kX (k:=.i64) (m:=f.tag) (n:=0) zE rfl ?_
  refine dn ?_
  refine vS (vC (t:=decide (f.tag ≥ 0)) zM ?_ ?_)
  ·intro h0
   have h0':0<=f.tag:=by simpa using h0
   refine vR zS ?_
   refine rM ?_
   refine rF (b:=W.heap.size) (o:=0) zE (ql H.fFld (by decide)) ?_
   refine rL (b:=W.heap.size) (o:=0+4) zE H.oInt hc4 ?_
   refine qL (k:=.i64) (k':=.u32) (m:=f.tag) H.int H.u32 zE ?_
   have hw1:IntKind.u32.wrap f.tag=f.tag:=by rw[jI];omega
   rw[hw1]
   refine xN (k:=.u32) (m:=f.tag) (n:=1) zE rfl ?_
   have hw2:IntKind.u32.wrap (f.tag+1)=((f.tag.toNat+1:Nat):Int):=by rw[jI];omega
   rw[hw2]
   refine r_max (k:=.u32) (m:=((known (fs.tags.take i):Nat):Int)) (n:=((f.tag.toNat+1:Nat):Int)) zA zE ?_
   refine rA (dn (vN ?_))
   refine fin _ (max (known (fs.tags.take i)) (f.tag.toNat+1)) (by simp only[zP];exact hs) (by simp only[dF];exact hd) zA zA zA ?_ (by rw[hks,if_pos h0']) _ (fun A' h=>h)
   simp (disch:=(try simp only[sP]);omega) only[eV]
   congr 1
   split<;>omega
  ·intro h0
   have h0':¬ 0<=f.tag:=by simpa using h0
   refine vK (vN ?_)
   exact fin _ (known (fs.tags.take i)) (by simp only[zP];exact hs) (by simp only[dF];exact hd) zA zA zA zA (by rw[hks,if_neg h0']) _ (fun A' h=>h)
 ·rintro A W ⟨hm,hs,hd,g6,g7,g8,g3,hb⟩
  refine vX ?_
  refine qV (k:=.i64) (m:=((fs.len-0:Nat):Int)) (n:=(fs.len:Int)) g8 g7 ?_
  refine dn ?_
  refine vS (vC (t:=false) ?_ (fun h=>by cases h) ?_)
  ·simp (disch:=(try simp only[sP]);omega) only[eV]
   simp only[Value.bool.injEq,decide_eq_false_iff_not]
   omega
  intro _
  refine xb ?_
  simp only[Exit.then,Exit.inBlock,if_true]
  refine vN (vX (rM (rA (dn (vS (vT ?_))))))
  rw[Nat.sub_zero,← SFs.tags_len,List.take_length] at g3
  exact ⟨by simp only[dF];exact hd,_,rO zA,rfl,hb⟩
end
end Go.Km
namespace Go.Km
open Go Go.RowKit
attribute [local irreducible] vc rO_ qz qJ qF
section
variable {P : Program} {E : Env} {w : World} {U : Nat}
theorem s_write (H:SEnv P E) (HL:SLay P E) (HT:STexts P E) (hoM:offs P E.tMsg 2=true) {fs:SFs} {sv:Value} {flex ver:Int} {t:Tr} {ts:List Value} (hsf:SlF w U sv fs) (hr:t.Rep w U ts) (hU:U<=w.heap.size)
  (hp:vI P E ver (decide (flex ≥ 0)&&decide (ver ≥ flex)) fs) (hbig:(fs.part ver (decide (flex ≥ 0)&&decide (ver ≥ flex)) t).length<=big) :
  vd P E E.sWrite U #[.agg [sv,.int .i64 flex].toArray,.int .i64 ver,.agg ts.toArray] (fs.part ver (decide (flex ≥ 0)&&decide (ver ≥ flex)) t) w:=by
 refine qa.enter HT.write zS ?_
 intro a hsz hdf harg
 have e0:=harg 0 (.agg [sv,.int .i64 flex].toArray) zS
 have e1:=harg 1 (.int .i64 ver) zS
 have e2:=harg 2 (.agg ts.toArray) zS
 unfold c_sWrite
 refine vX ?_
 refine xI (v:=.agg [sv,.int .i64 flex].toArray) zA ?_
 refine xI (v:=.agg ts.toArray) zA ?_
 refine rA (dn ?_)
 generalize hw1:w.alloc (.cells (Value.agg [sv,.int .i64 flex].toArray).cells E.tMsg)=w1
 have hb1:Below U w w1:=by rw[← hw1];exact (Below.refl U w).alloc (o:=.cells _ _) hU
 have hz1:w1.heap.size=w.heap.size+1:=by rw[← hw1];simp
 have c1:qb w1 w.heap.size 0 [sv,.int .i64 flex]:=by
  intro i v hv
  rw[← hw1,Nat.zero_add]
  exact qs w _ E.tMsg (by simpa [Value.cells] using hv)
 clear hw1
 generalize hw2:w1.alloc (.cells (Value.agg ts.toArray).cells E.tT)=W
 have hb2:Below U w W:=by rw[← hw2];exact hb1.trans ((Below.refl U w1).alloc (o:=.cells _ _) zH)
 have d1:qb W w.heap.size 0 [sv,.int .i64 flex]:=by rw[← hw2];exact c1.eff (Eff.refl (fun _ _=>False) w1 |>.alloc _) (fun _ _ h=>h)
 have d2:qb W w1.heap.size 0 ts:=by
  intro i v hv
  rw[← hw2,Nat.zero_add]
  exact qs w1 _ E.tT (by simpa [Value.cells] using hv)
 clear hw2
 have k0:W.cell? ⟨w.heap.size,0+0,none⟩=some sv:=d1 0 sv rfl
 have k1:W.cell? ⟨w.heap.size,0+1,none⟩=some (.int .i64 flex):=d1 1 _ rfl
 have hUW:U<=W.heap.size:=Nat.le_trans hU hb2.size
 refine vS (yE [0,1,2,3,4,5,6,7,8,9,10,11,12,13,14] rfl ?_)
 refine rD rfl (wN rfl) (rF (b:=w.heap.size) (o:=0) zE (ql hoM (by decide)) (dn (rT ?_)))
 refine rD rfl (wN rfl) (rL (b:=w.heap.size) (o:=0+0) zE H.oFlds k0 (dn (rT ?_)))
 (refine rD rfl (wN rfl) ?_;refine rM ?_;refine dn (rT ?_))
 refine rD rfl (wN rfl) (rF (b:=w.heap.size) (o:=0) zE (ql hoM (by decide)) (dn (rT ?_)))
 refine rD rfl (wN rfl) (rL (b:=w.heap.size) (o:=0+1) zE H.oInt k1 (dn (rT ?_)))
 refine rD rfl (wN rfl) (kX (k:=.i64) (m:=flex) (n:=0) zE rfl (dn (rT ?_)))
 (refine rD rfl (wN rfl) ?_;refine rM ?_;refine dn (rT ?_))
 by_cases h0:flex ≥ 0
 ·have g0:decide (flex ≥ 0)=true:=by simpa using h0
  rw[g0,Bool.true_and] at hp hbig ⊢
  (refine rD rfl (by rw[wS (b:=true) rfl rfl zM];rfl) ?_;refine rM ?_;refine dn (rT ?_))
  refine rD rfl (by rw[wS (b:=true) rfl rfl zM];rfl) (rF (b:=w.heap.size) (o:=0) zE (ql hoM (by decide)) (dn (rT ?_)))
  refine rD rfl (by rw[wS (b:=true) rfl rfl zM];rfl) (rL (b:=w.heap.size) (o:=0+1) zE H.oInt k1 (dn (rT ?_)))
  refine rD rfl (by rw[wS (b:=true) rfl rfl zM];rfl) (kX (k:=.i64) (m:=ver) (n:=flex) zA zE (dn (rT ?_)))
  (refine rD rfl (wN rfl) ?_;(refine qZ ?_ ?_;(try exact zE)<;>(first | rfl | assumption));refine dn (rT ?_))
  refine rD rfl (wN rfl) (qf (b:=w1.heap.size) (o:=0) (cs:=ts) zE (by rw[hr.len];exact H.aTree) d2 (dn (rT ?_)))
  refine rD rfl (wN rfl) ?_
  refine q8 (args:=#[sv,.int .i64 ver,.bool (decide (ver ≥ flex)),.agg ts.toArray]) ?_ (hp U W sv t ts hUW (hsf.below hb2) (hr.below hb2) hbig) ?_
  ·simp only[lM]
   simp (disch:=(try simp only[sP]);omega) only[eV,e1]
  rintro v w2 ⟨h1,h2⟩
  refine dn (rT ?_)
  (refine rD rfl (wN rfl) ?_;refine rA ?_;refine dn (rT ?_))
  refine qy ?_
  refine vT ?_
  exact ⟨by simp only[dF];exact hdf,v,rO zE,h1,hb2.trans h2⟩
 ·have g0:decide (flex ≥ 0)=false:=by simpa using h0
  rw[g0,Bool.false_and] at hp hbig ⊢
  (refine qX rfl (by rw[wS (b:=false) rfl rfl zM];rfl) ?_)
  (refine qX rfl (by rw[wS (b:=false) rfl rfl zM];rfl) ?_)
  (refine qX rfl (by rw[wS (b:=false) rfl rfl zM];rfl) ?_)
  (refine qX rfl (by rw[wS (b:=false) rfl rfl zM];rfl) ?_)
  (refine rD rfl (wN rfl) ?_;(refine xx ?_ ?_;(try exact zE)<;>(first | rfl | assumption));refine dn (rT ?_))
  refine rD rfl (wN rfl) (qf (b:=w1.heap.size) (o:=0) (cs:=ts) zE (by rw[hr.len];exact H.aTree) d2 (dn (rT ?_)))
  refine rD rfl (wN rfl) ?_
  refine q8 (args:=#[sv,.int .i64 ver,.bool false,.agg ts.toArray]) ?_ (hp U W sv t ts hUW (hsf.below hb2) (hr.below hb2) hbig) ?_
  ·simp only[lM]
   simp (disch:=(try simp only[sP]);omega) only[eV,e1]
  rintro v w2 ⟨h1,h2⟩
  refine dn (rT ?_)
  (refine rD rfl (wN rfl) ?_;refine rA ?_;refine dn (rT ?_))
  refine qy ?_
  refine vT ?_
  exact ⟨by simp only[dF];exact hdf,v,rO zE,h1,hb2.trans h2⟩
end
end Go.Km
namespace Go.Km
open Go Go.RowKit
attribute [local irreducible] vc rO_ qz qJ qF
theorem insU_len (x:Nat × List UInt8):∀ l,(zm x l).length<=l.length+1
 | []=>by simp[zm]
 | y::r=>by
  have:=insU_len x r
  unfold zm
  split
  ·simp;exact this
  ·split<;>simp
theorem unk_len (least:Nat) (u:List (Nat × List UInt8)):(unk least u).length<=32767:=by
 unfold unk
 have:∀ (v l:List (Nat × List UInt8)),(v.foldl (fun l x=>if x.1<least then l else zm x l) l).length<=l.length+v.length:=by
  intro v
  induction v with
  | nil=>exact fun l=>Nat.le_refl _
  | cons x r ih =>
   intro l
   refine Nat.le_trans (ih _) ?_
   have:=insU_len x l
   show (if x.1<least then l else zm x l).length+r.length<=_
   rw[List.length_cons]
   split<;>omega
 refine Nat.le_trans (this _ _) ?_
 rw[List.length_take,List.length_nil]
 omega
theorem kD.form {w:World} {U:Nat} {v:Value} {u:List (Nat × List UInt8)} (h:kD w U v u):∃ ad cap,v=.slice ad u.length cap:=by
 rcases h with ⟨⟨_,_,rfl⟩,rfl⟩ | ⟨q,o,cap,rfl,_⟩<;>exact ⟨_,_,rfl⟩
theorem vk {P:Program} {t e:TypeId} {s:Nat} (h:xe P t e s=true):∃ z,qK P e=some z/\z.cells.size=s:=by
 obtain ⟨_,i,z,hi,_,_,hz,hzs,_⟩:=xQ h
 exact ⟨z,by simp[qK,hi,hz],hzs⟩
theorem xA {w:World} {B:Nat} {e:TypeId} {s:Nat} {v:Value} {n:Nat} {xs:List Value} (h:w.ownsRow B e s v n xs) {g:Nat} (hg:v.ownBlock=some g):g<w.heap.size:=by
 rcases h.2 with ⟨rfl,_⟩ | ⟨g',cap,cur,rfl,_,h3,_⟩
 ·cases hg
 ·simp only[Value.ownBlock,Option.some.injEq] at hg
  subst hg
  exact (Array.getElem?_eq_some_iff.1 h3).1
theorem own_grown {w w':World} {B:Nat} {e:TypeId} {s:Nat} {v v2:Value} {n:Nat} {xs:List Value} (h:w.ownsRow B e s v n xs) (hg:w.grownBy w' v2.ownBlock) (hne:∀ g,v2.ownBlock=some g->g<B):w'.ownsRow B e s v n xs:=by
 refine ⟨h.1,?_⟩
 rcases h.2 with h | ⟨g,cap,cur,h1,h2,h3,h4⟩
 ·exact .inl h
 ·have hl:g<w.heap.size:=(Array.getElem?_eq_some_iff.1 h3).1
  exact .inr ⟨g,cap,cur,h1,h2,by rw[hg.block g hl (fun he=>by have:=hne g he.symm;omega)];exact h3,h4⟩
theorem qb.grown {w w':World} {b o:Nat} {cs:List Value} {row:Option Nat} (h:qb w b o cs) (hg:w.grownBy w' row) (hb:b<w.heap.size) (hne:some b≠row):qb w' b o cs:=by
 intro i v hv
 have:=h i v hv
 have e:w'.heap[b]? = w.heap[b]?:=hg.block b hb hne
 simp only[World.cell?] at this ⊢
 rw[e]
 exact this
section
variable {P : Program} {a : Act} {w : World} {r : List Oper} {Q : Exit → Act → World → Prop}
theorem zl {d s x t tx ty p af g e sz U v n xs u m news} (hB:xe P t e sz=true) (hs:a.eval s=v) (hx:a.eval x=u) (hown:w.ownsRow U e sz v n xs) (hU:U<=w.heap.size) (hsrc:Src P sz tx u m news w) (hb:n+m<=big)
  (h:∀ v' w',w'.ownsRow U e sz v' (n+m) (xs++news)->Below U w w'->w.grownBy w' v.ownBlock->(∀ g,v'.ownBlock=some g->v.ownBlock=some g\/w.heap.size<=g)->rO_ P Q r (a.put (some d) v') w') :
  rO_ P Q (⟨some d,.call { callee:=.builtin .append,args:=#[s,x],argTypes:=#[t,tx] },ty,p,af,g⟩::r) a w:=by
 refine st ?_
 obtain ⟨v',w',hr,h1,h2,h3⟩:=jl w U t tx ty e sz hB v n xs hown u m news hsrc hb hU
 subst hs;subst hx
 simp only[Oper.wp,execOp,resolve,invoke,builtin,Sem.run_bind,Sem.run_pure,Result.andThen_ok,List.map_toArray,List.map_cons,List.map_nil,hr,Oper.upon_value]
 exact h v' w' h1 (jH hown h2 hU) h2 h3
end
section
variable {P : Program} {E : Env} {w : World} {U : Nat}
end
end Go.Km
namespace Go.Km
open Go Go.RowKit
attribute [local irreducible] vc rO_ qz qJ qF
theorem SFs.recs_len (v:Int) (fx:Bool):∀ (fs:SFs) (k:Nat) (t:Tr),(fs.recs v fx k t).length=fs.len
 | .nil,_,_=>by simp[SFs.recs,SFs.len]
 | .cons f r,k,t=>by simp[SFs.recs,SFs.len,SFs.recs_len v fx r]
theorem SFs.recs_get (v:Int) (fx:Bool):∀ (fs:SFs) (k i:Nat) (t:Tr) (f:SF),fs.get i=some f->(fs.recs v fx k t)[i]? = some (f.tag,f.has v,f.usual (t.at (k+i)),f.wr v fx (t.at (k+i)))
 | .nil,_,_,_,_,h=>by cases h
 | .cons (.mk _ _ _ _ _ _ _ _) r,k,0,t,f,h=>by
  simp only[SFs.get,Option.some.injEq] at h
  subst h
  simp[SFs.recs,SF.tag]
 | .cons (.mk _ _ _ _ _ _ _ _) r,k,i+1,t,f,h=>by
  simp only[SFs.get] at h
  have:=SFs.recs_get v fx r (k+1) i t f h
  rw[show k+1+i=k+(i+1) by omega] at this
  simpa [SFs.recs] using this
theorem SFs.recs_tags (v:Int) (fx:Bool):∀ (fs:SFs) (k:Nat) (t:Tr),(fs.recs v fx k t).map (·.1)=fs.tags
 | .nil,_,_=>by simp[SFs.recs,SFs.tags]
 | .cons (.mk _ _ _ _ _ _ _ _) r,k,t=>by simp[SFs.recs,SFs.tags,SFs.recs_tags v fx r]
def Rec.out (r:Rec):List UInt8:=if r.1<0&&r.2.1 then r.2.2.2 else []
def Tr.tags:Tr->List (Nat × List UInt8)
 | .mk _ _ _ _ u=>u
section
variable {P : Program} {E : Env} {w : World} {U : Nat}
end
end Go.Km
namespace Go.Km
open Go Go.RowKit
attribute [local irreducible] vc rO_ qz qJ qF
def pos (x:Nat) (l:List (Nat × List UInt8)):Nat:=(l.takeWhile fun y=>decide (y.1<x)).length
theorem jL {x:Nat} {y:Nat × List UInt8} {r:List (Nat × List UInt8)} (h:y.1<x):pos x (y::r)=pos x r+1:=by
 simp[pos,List.takeWhile_cons,h]
theorem kH {x:Nat} {y:Nat × List UInt8} {r:List (Nat × List UInt8)} (h:¬ y.1<x):pos x (y::r)=0:=by
 simp[pos,List.takeWhile_cons,h]
theorem pos_le (x:Nat):∀ l,pos x l<=l.length
 | []=>by simp[pos]
 | y::r=>by
  by_cases h:y.1<x
  ·rw[jL h,List.length_cons];have:=pos_le x r;omega
  ·rw[kH h];omega
theorem pos_lt (x:Nat):∀ (l:List (Nat × List UInt8)) (i:Nat) (h:i<l.length),i<pos x l->l[i].1<x
 | [],i,h,_=>by simp at h
 | y::r,i,h,hp=>by
  by_cases hy:y.1<x
  ·cases i with
   | zero=>exact hy
   | succ i =>
    rw[jL hy] at hp
    simpa using pos_lt x r i (by simpa using h) zH
  ·rw[kH hy] at hp;omega
theorem pos_at (x:Nat):∀ (l:List (Nat × List UInt8)) (h:pos x l<l.length),¬ l[pos x l].1<x
 | [],h=>by simp at h
 | y::r,h=>by
  by_cases hy:y.1<x
  ·have h':pos x r<r.length:=by rw[jL hy] at h;simpa using h
   have:=pos_at x r h'
   simp only[jL hy,List.getElem_cons_succ]
   exact this
  ·simp only[kH hy,List.getElem_cons_zero]
   exact hy
theorem insU_pos (x:Nat × List UInt8):∀ l:List (Nat × List UInt8),zm x l=if (l[pos x.1 l]?).map (·.1)=some x.1 then l else l.take (pos x.1 l)++x::l.drop (pos x.1 l)
 | []=>by simp[zm,pos]
 | y::r=>by
  have ih:=insU_pos x r
  unfold zm
  by_cases hy:y.1<x.1
  ·rw[if_pos hy,ih,jL hy]
   simp only[List.getElem?_cons_succ,List.take_succ_cons,List.drop_succ_cons,List.cons_append]
   split<;>rfl
  ·rw[if_neg hy,kH hy]
   simp only[List.getElem?_cons_zero,Option.map_some,Option.some.injEq,List.take_zero,List.drop_zero,List.nil_append]
abbrev UE:=(Nat × List UInt8) × Value
def fl:List UE->List Value
 | []=>[]
 | e::r=>.int .u32 (e.1.1:Int)::e.2::fl r
theorem fl_len:∀ l,(fl l).length=l.length*2
 | []=>rfl
 | e::r=>by simp[fl,fl_len r];omega
theorem fl_app:∀ a b:List UE,fl (a++b)=fl a++fl b
 | [],b=>rfl
 | e::r,b=>by simp[fl,fl_app r b]
theorem fl_get0:∀ (l:List UE) (i:Nat) (e:UE),l[i]? = some e->(fl l)[i*2]? = some (.int .u32 (e.1.1:Int))
 | [],i,e,h=>by simp at h
 | x::r,0,e,h=>by simp at h;subst h;rfl
 | x::r,i+1,e,h=>by
  have:=fl_get0 r i e (by simpa using h)
  rw[show (i+1)*2=i*2+1+1 by omega]
  simpa [fl] using this
theorem fl_get1:∀ (l:List UE) (i:Nat) (e:UE),l[i]? = some e->(fl l)[i*2+1]? = some e.2
 | [],i,e,h=>by simp at h
 | x::r,0,e,h=>by simp at h;subst h;rfl
 | x::r,i+1,e,h=>by
  have:=fl_get1 r i e (by simpa using h)
  rw[show (i+1)*2+1=i*2+1+1+1 by omega]
  simpa [fl] using this
theorem fl_set:∀ (l:List UE) (i:Nat) (e:UE),i<l.length->((fl l).set (i*2) (.int .u32 (e.1.1:Int))).set (i*2+1) e.2=fl (l.set i e)
 | [],i,e,h=>by simp at h
 | x::r,0,e,h=>by simp[fl]
 | x::r,i+1,e,h=>by
  have:=fl_set r i e (by simpa using h)
  rw[show (i+1)*2=i*2+1+1 by omega]
  simpa [fl] using this
theorem shift_set (es:List UE) (k:Nat) (X:UE) (h:k<es.length):(es.take (k+1)++X::es.drop (k+1)).set (k+1) es[k]=es.take k++es[k]::es.drop k:=by
 have h1:(es.take (k+1)).length=k+1:=by simp;omega
 rw[List.set_append_right _ _ zH,h1,Nat.sub_self,List.set_cons_zero,List.take_succ_eq_append_getElem h,List.append_assoc]
 congr 1
 rw[List.drop_eq_getElem_cons h]
 rfl
theorem shift_get (es:List UE) (k:Nat) (X:UE) (h:k<es.length):(es.take (k+1)++X::es.drop (k+1))[k]? = some es[k]:=by
 rw[List.getElem?_append_left (by simp;omega),List.getElem?_take,if_pos zH,List.getElem?_eq_getElem h]
theorem put_set (es:List UE) (k:Nat) (X e:UE) (h:k<=es.length):(es.take k++X::es.drop k).set k e=es.take k++e::es.drop k:=by
 have h1:(es.take k).length=k:=by simp;omega
 rw[List.set_append_right _ _ zH,h1,Nat.sub_self,List.set_cons_zero]
theorem own_set2 {w:World} {B:Nat} {e:TypeId} {g n cap i:Nat} {l:List UE} {x:UE} (h:w.ownsRow B e 2 (.slice (some ⟨g,0,none⟩) n cap) n (fl l)) (hi:i<l.length) :
  (setCells w g (i*2) [.int .u32 (x.1.1:Int),x.2]).ownsRow B e 2 (.slice (some ⟨g,0,none⟩) n cap) n (fl (l.set i x))/\Below B w (setCells w g (i*2) [.int .u32 (x.1.1:Int),x.2]):=by
 have h1:=h.stored (i*2) (.int .u32 (x.1.1:Int))
 have h2:=h1.1.stored (i*2+1) x.2
 rw[fl_set l i x hi] at h2
 refine ⟨h2.1,?_⟩
 have hb:B<=g:=(h.lt g rfl).1
 have k1:Below B w (w.setCell ⟨g,i*2,none⟩ (.int .u32 (x.1.1:Int))):=⟨h1.2.os,h1.2.tape,h1.2.output,h1.2.size,fun k hk=>by
  rcases Nat.lt_or_ge k w.heap.size with h3 | h3
  ·exact h1.2.block k h3 (by simp;omega)
  ·have hg:g<w.heap.size:=xA h rfl
   omega⟩
 refine k1.trans ⟨h2.2.os,h2.2.tape,h2.2.output,h2.2.size,fun k hk=>?_⟩
 have hg:g<w.heap.size:=xA h rfl
 have:=h1.2.size
 exact h2.2.block k zH (by simp;omega)
theorem own_free2 {w:World} {B:Nat} {e:TypeId} {g n cap j:Nat} {l:List UE} (h:w.ownsRow B e 2 (.slice (some ⟨g,0,none⟩) n cap) n (fl l)) (hj:j<n*2):qt w g j:=by
 refine ⟨?_,h.frozenAt j⟩
 rw[h.cellAt j hj]
 have:=h.1
 rw[List.getElem?_eq_getElem zH]
 rfl
theorem ym {w:World} {B:Nat} {e:TypeId} {g n cap i:Nat} {l:List UE} {x:UE} (h:w.ownsRow B e 2 (.slice (some ⟨g,0,none⟩) n cap) n (fl l)) (hx:l[i]? = some x):qb w g (i*2) [.int .u32 (x.1.1:Int),x.2]:=by
 have hl:=h.1
 rw[fl_len] at hl
 have hi:i<l.length:=by
  rcases Nat.lt_or_ge i l.length with h | h
  ·exact h
  ·rw[List.getElem?_eq_none h] at hx;cases hx
 intro j v hv
 match j,hv with
 | 0,hv =>
  simp only[List.getElem?_cons_zero,Option.some.injEq] at hv
  subst hv
  rw[Nat.add_zero,h.cellAt _ zH]
  exact fl_get0 l i x hx
 | 1,hv =>
  simp only[List.getElem?_cons_succ,List.getElem?_cons_zero,Option.some.injEq] at hv
  subst hv
  rw[h.cellAt _ zH]
  exact fl_get1 l i x hx
theorem jY {w:World} {B:Nat} {e:TypeId} {v:Value} {n:Nat} {xs:List Value} (h:w.ownsRow B e 2 v n xs):(v=.slice none 0 0/\n=0)\/∃ g cap,v=.slice (some ⟨g,0,none⟩) n cap/\n<=cap/\B<=g/\g<w.heap.size:=by
 rcases h.2 with h' | ⟨g,cap,cur,h1,h2,h3,h4,_⟩
 ·exact .inl h'
 ·exact .inr ⟨g,cap,h1,h4,h2,(Array.getElem?_eq_some_iff.1 h3).1⟩
section
variable {P : Program} {E : Env} {w : World} {U : Nat}
theorem s_unkT1 (H:SEnv P E) (HT:STexts P E) {B:Act} {V:World} {Q:Exit->Act->World->Prop} {j n cap tk bb:Nat} {ad:Option Addr} {res:Bool}
  (hs:B.tmps.size=85) (h9:B.eval (.tmp 9)=.int .i64 (j:Int)) (h6:B.eval (.tmp 6)=.slice ad n cap) (h8:B.eval (.tmp 8)=.pointer (some ⟨bb,0,none⟩)) (hk:V.cell? ⟨bb,0,none⟩=some (.int .u32 (tk:Int)))
  (hlt:j<n->∃ g kj:Nat,ad=some ⟨g,0,none⟩/\V.cell? ⟨g,0+j*2,none⟩=some (.int .u32 (kj:Int))/\res=decide ((kj:Int)<(tk:Int))) (hge:¬ j<n->res=false)
  (hpanic:∀ c a a' w,Q (.panic c) a w->Q (.panic c) a' w)
  (hQ:∀ A',A'.tmps.size=85->A'.defers=B.defers->(∀ k:Nat,k<23->A'.eval (.tmp k)=B.eval (.tmp k))->A'.eval (.tmp 36)=.bool res->Q .normal A' { V with drawn:=V.drawn+1 }) :
  vc P (rgd [
   (oQ 23 (.move (.tmp 9)) E.tI),
             (oQ 24 (.move (.tmp 6)) E.tK),
             ⟨some 25,.call { callee:=.builtin .len,args:=#[(.tmp 24)],argTypes:=#[E.tK] },E.tI,"",#[⟨1,.data⟩],none⟩,
             ⟨some 26,.binOp .lss E.tI (.tmp 23) (.tmp 25) E.tI,E.tO,"",#[⟨0,.data⟩,⟨2,.data⟩],none⟩,
             ⟨some 27,.move (.tmp 26),E.tO,"",#[⟨3,.data⟩],none⟩,
             ⟨some 28,.move (.tmp 6),E.tK,"",#[⟨4,.guard⟩],some (4,true)⟩,
             ⟨some 29,.move (.tmp 9),E.tI,"",#[⟨4,.guard⟩],some (4,true)⟩,
             ⟨some 30,.indexAddr E.tK (.tmp 28) (.tmp 29),0,"",#[⟨5,.data⟩,⟨6,.data⟩,⟨4,.guard⟩],some (4,true)⟩,
             ⟨some 31,.fieldAddr E.tUnk (.tmp 30) 0,0,"",#[⟨7,.data⟩,⟨4,.guard⟩],some (4,true)⟩,
             ⟨some 32,.load E.tW (.tmp 31),E.tW,"",#[⟨8,.data⟩,⟨4,.guard⟩],some (4,true)⟩,
             ⟨some 33,.fieldAddr E.tUnk (.tmp 8) 0,0,"",#[⟨4,.guard⟩],some (4,true)⟩,
             ⟨some 34,.load E.tW (.tmp 33),E.tW,"",#[⟨10,.data⟩,⟨4,.guard⟩],some (4,true)⟩,
             ⟨some 35,.binOp .lss E.tW (.tmp 32) (.tmp 34) E.tW,E.tO,"",#[⟨9,.data⟩,⟨11,.data⟩,⟨4,.guard⟩],some (4,true)⟩,
             ⟨some 36,.pick (.tmp 27) (.tmp 35) (.const (.bool false)),E.tO,"",#[⟨4,.data⟩,⟨12,.data⟩],none⟩]) Q B V:=by
 have hsl:=rB H.rUnks
 by_cases hjn:j<n
 ·obtain ⟨g,kj,rfl,hc,hres⟩:=hlt hjn
  have hd:decide ((j:Int)<(n:Int))=true:=by simp;omega
  have hS:(fun W':World=>W'.cell? ⟨bb,0,none⟩=some (.int .u32 (tk:Int))/\W'.cell? ⟨g,0+j*2,none⟩=some (.int .u32 (kj:Int))) { V with drawn:=V.drawn+1 }:=⟨hk,hc⟩
  refine xd [(0,true),(1,true),(2,true),(3,true),(4,true),(5,true),(6,true),(7,true),(8,true),(9,true),(10,true),(11,true),(12,true),(13,true)] (fun W'=>W'.cell? ⟨bb,0,none⟩=some (.int .u32 (tk:Int))/\W'.cell? ⟨g,0+j*2,none⟩=some (.int .u32 (kj:Int))) HT.mixed (by kernel_rfl) rfl (by kernel_rfl) hpanic ?_
  refine dP rfl rfl rfl (wN rfl) (by simp only[zP,hs];decide) hS (fun w' hS'=>rM (dn ⟨rfl,rfl,rfl⟩)) ?_
  refine dP rfl rfl rfl (wN rfl) (by simp only[zP,hs];decide) hS (fun w' hS'=>rM (dn ⟨rfl,rfl,rfl⟩)) ?_
  refine dP rfl rfl rfl (wN rfl) (by simp only[zP,hs];decide) hS (fun w' hS'=>x7 (ad:=some ⟨g,0,none⟩) (n:=n) (c:=cap) hsl zA (dn ⟨rfl,rfl,rfl⟩)) ?_
  refine dP rfl rfl rfl (wN rfl) (by simp only[zP,hs];decide) hS (fun w' hS'=>qV (k:=.i64) (m:=(j:Int)) (n:=(n:Int)) zA zE (dn ⟨rfl,rfl,rfl⟩)) ?_
  rw[hd]
  refine dP rfl rfl rfl (wN rfl) (by simp only[zP,hs];decide) hS (fun w' hS'=>rM (dn ⟨rfl,rfl,rfl⟩)) ?_
  refine dP rfl rfl rfl (by rw[wS (b:=true) rfl rfl zM];rfl) (by simp only[zP,hs];decide) hS (fun w' hS'=>rM (dn ⟨rfl,rfl,rfl⟩)) ?_
  refine dP rfl rfl rfl (by rw[wS (b:=true) rfl rfl zM];rfl) (by simp only[zP,hs];decide) hS (fun w' hS'=>rM (dn ⟨rfl,rfl,rfl⟩)) ?_
  refine dP rfl rfl rfl (by rw[wS (b:=true) rfl rfl zM];rfl) (by simp only[zP,hs];decide) hS (fun w' hS'=>qA (k:=.i64) (j:=j) (b:=g) (o:=0) (len:=n) (cap:=cap) hsl zA zA hjn (dn ⟨rfl,rfl,rfl⟩)) ?_
  refine dP rfl rfl rfl (by rw[wS (b:=true) rfl rfl zM];rfl) (by simp only[zP,hs];decide) hS (fun w' hS'=>rF (b:=g) (o:=0+j*2) zE (ql H.fUnk (by decide)) (dn ⟨rfl,rfl,rfl⟩)) ?_
  refine dP rfl rfl rfl (by rw[wS (b:=true) rfl rfl zM];rfl) (by simp only[zP,hs];decide) hS (fun w' hS'=>rL (b:=g) (o:=0+j*2) (v:=.int .u32 (kj:Int)) zM H.oU32 hS'.2 (dn ⟨rfl,rfl,rfl⟩)) ?_
  refine dP rfl rfl rfl (by rw[wS (b:=true) rfl rfl zM];rfl) (by simp only[zP,hs];decide) hS (fun w' hS'=>rF (b:=bb) (o:=0) zA (ql H.fUnk (by decide)) (dn ⟨rfl,rfl,rfl⟩)) ?_
  refine dP rfl rfl rfl (by rw[wS (b:=true) rfl rfl zM];rfl) (by simp only[zP,hs];decide) hS (fun w' hS'=>rL (b:=bb) (o:=0) (v:=.int .u32 (tk:Int)) zM H.oU32 hS'.1 (dn ⟨rfl,rfl,rfl⟩)) ?_
  refine dP rfl rfl rfl (by rw[wS (b:=true) rfl rfl zM];rfl) (by simp only[zP,hs];decide) hS (fun w' hS'=>qV (k:=.u32) (m:=(kj:Int)) (n:=(tk:Int)) zE zE (dn ⟨rfl,rfl,rfl⟩)) ?_
  refine dP rfl rfl rfl (wN rfl) (by simp only[zP,hs];decide) hS (fun w' hS'=>qZ zE (dn ⟨rfl,rfl,rfl⟩)) ?_
  refine xC ?_
  refine hQ _ (by simp only[zP];exact hs) (by simp only[dF]) (fun k hk=>zE) ?_
  rw[hres]
  exact zE
 ·have hres:=hge hjn
  have hd:decide ((j:Int)<(n:Int))=false:=by simp;omega
  have hS:(fun W':World=>True) { V with drawn:=V.drawn+1 }:=trivial
  refine xd [(0,true),(1,true),(2,true),(3,true),(4,true),(5,true),(6,true),(7,true),(8,true),(9,true),(10,true),(11,true),(12,true),(13,true)] (fun W'=>True) HT.mixed (by kernel_rfl) rfl (by kernel_rfl) hpanic ?_
  refine dP rfl rfl rfl (wN rfl) (by simp only[zP,hs];decide) hS (fun w' hS'=>rM (dn ⟨rfl,rfl,rfl⟩)) ?_
  refine dP rfl rfl rfl (wN rfl) (by simp only[zP,hs];decide) hS (fun w' hS'=>rM (dn ⟨rfl,rfl,rfl⟩)) ?_
  refine dP rfl rfl rfl (wN rfl) (by simp only[zP,hs];decide) hS (fun w' hS'=>x7 (ad:=ad) (n:=n) (c:=cap) hsl zA (dn ⟨rfl,rfl,rfl⟩)) ?_
  refine dP rfl rfl rfl (wN rfl) (by simp only[zP,hs];decide) hS (fun w' hS'=>qV (k:=.i64) (m:=(j:Int)) (n:=(n:Int)) zA zE (dn ⟨rfl,rfl,rfl⟩)) ?_
  rw[hd]
  refine dP rfl rfl rfl (wN rfl) (by simp only[zP,hs];decide) hS (fun w' hS'=>rM (dn ⟨rfl,rfl,rfl⟩)) ?_
  iterate 8 (refine d_no rfl rfl (by rw[wS (b:=false) rfl rfl zM];rfl) hS ?_)
  refine dP rfl rfl rfl (wN rfl) (by simp only[zP,hs];decide) hS (fun w' hS'=>xx zE (dn ⟨rfl,rfl,rfl⟩)) ?_
  refine xC ?_
  refine hQ _ (by simp only[zP];exact hs) (by simp only[dF]) (fun k hk=>zE) ?_
  rw[hres]
  exact zE
theorem s_unkT2 (H:SEnv P E) (HT:STexts P E) {B:Act} {V:World} {Q:Exit->Act->World->Prop} {j n cap tk bb le:Nat} {ad:Option Addr} {res:Bool}
  (hs:B.tmps.size=85) (h5:B.eval (.tmp 5)=.int .u32 (le:Int)) (h9:B.eval (.tmp 9)=.int .i64 (j:Int)) (h6:B.eval (.tmp 6)=.slice ad n cap) (h8:B.eval (.tmp 8)=.pointer (some ⟨bb,0,none⟩)) (hk:V.cell? ⟨bb,0,none⟩=some (.int .u32 (tk:Int)))
  (hle:tk<le->res=true) (hlt:¬ tk<le->j<n->∃ g kj:Nat,ad=some ⟨g,0,none⟩/\V.cell? ⟨g,0+j*2,none⟩=some (.int .u32 (kj:Int))/\res=decide ((kj:Int)=(tk:Int))) (hge:¬ tk<le->¬ j<n->res=false)
  (hpanic:∀ c a a' w,Q (.panic c) a w->Q (.panic c) a' w)
  (hQ:∀ A',A'.tmps.size=85->A'.defers=B.defers->(∀ k:Nat,k<23->A'.eval (.tmp k)=B.eval (.tmp k))->A'.eval (.tmp 58)=.bool res->Q .normal A' { V with drawn:=V.drawn+1 }) :
  vc P (rgd [
   (oQ 39 (.fieldAddr E.tUnk (.tmp 8) 0) 0),
          ⟨some 40,.load E.tW (.tmp 39),E.tW,"",#[⟨0,.data⟩],none⟩,
          (oQ 41 (.move (.tmp 5)) E.tW),
          ⟨some 42,.binOp .lss E.tW (.tmp 40) (.tmp 41) E.tW,E.tO,"",#[⟨1,.data⟩,⟨2,.data⟩],none⟩,
          ⟨some 43,.move (.tmp 42),E.tO,"",#[⟨3,.data⟩],none⟩,
          ⟨some 44,.move (.tmp 9),E.tI,"",#[⟨4,.guard⟩],some (4,false)⟩,
          ⟨some 45,.move (.tmp 6),E.tK,"",#[⟨4,.guard⟩],some (4,false)⟩,
          ⟨some 46,.call { callee:=.builtin .len,args:=#[(.tmp 45)],argTypes:=#[E.tK] },E.tI,"",#[⟨6,.data⟩,⟨4,.guard⟩],some (4,false)⟩,
          ⟨some 47,.binOp .lss E.tI (.tmp 44) (.tmp 46) E.tI,E.tO,"",#[⟨5,.data⟩,⟨7,.data⟩,⟨4,.guard⟩],some (4,false)⟩,
          ⟨some 48,.move (.tmp 47),E.tO,"",#[⟨8,.data⟩,⟨4,.chain⟩,⟨4,.guard⟩],some (4,false)⟩,
          ⟨some 49,.move (.tmp 6),E.tK,"",#[⟨9,.guard⟩],some (9,true)⟩,
          ⟨some 50,.move (.tmp 9),E.tI,"",#[⟨9,.guard⟩],some (9,true)⟩,
          ⟨some 51,.indexAddr E.tK (.tmp 49) (.tmp 50),0,"",#[⟨10,.data⟩,⟨11,.data⟩,⟨9,.guard⟩],some (9,true)⟩,
          ⟨some 52,.fieldAddr E.tUnk (.tmp 51) 0,0,"",#[⟨12,.data⟩,⟨9,.guard⟩],some (9,true)⟩,
          ⟨some 53,.load E.tW (.tmp 52),E.tW,"",#[⟨13,.data⟩,⟨9,.guard⟩],some (9,true)⟩,
          ⟨some 54,.fieldAddr E.tUnk (.tmp 8) 0,0,"",#[⟨9,.guard⟩],some (9,true)⟩,
          ⟨some 55,.load E.tW (.tmp 54),E.tW,"",#[⟨15,.data⟩,⟨9,.guard⟩],some (9,true)⟩,
          ⟨some 56,.binOp .eql E.tW (.tmp 53) (.tmp 55) E.tW,E.tO,"",#[⟨14,.data⟩,⟨16,.data⟩,⟨9,.guard⟩],some (9,true)⟩,
          ⟨some 57,.pick (.tmp 48) (.tmp 56) (.const (.bool false)),E.tO,"",#[⟨9,.data⟩,⟨17,.data⟩,⟨4,.guard⟩],some (4,false)⟩,
          ⟨some 58,.pick (.tmp 43) (.const (.bool true)) (.tmp 57),E.tO,"",#[⟨4,.data⟩,⟨18,.data⟩],none⟩]) Q B V:=by
 have hsl:=rB H.rUnks
 by_cases hl:tk<le
 ·have hres:=hle hl
  have hd:decide ((tk:Int)<(le:Int))=true:=by simp;omega
  have hS:(fun W':World=>W'.cell? ⟨bb,0,none⟩=some (.int .u32 (tk:Int))) { V with drawn:=V.drawn+1 }:=hk
  refine xd [(0,true),(1,true),(2,true),(3,true),(4,true),(5,true),(6,true),(7,true),(8,true),(9,true),(10,true),(11,true),(12,true),(13,true),(14,true),(15,true),(16,true),(17,true),(18,true),(19,true)] (fun W'=>W'.cell? ⟨bb,0,none⟩=some (.int .u32 (tk:Int))) HT.mixed (by kernel_rfl) rfl (by kernel_rfl) hpanic ?_
  refine dP rfl rfl rfl (wN rfl) (by simp only[zP,hs];decide) hS (fun w' hS'=>rF (b:=bb) (o:=0) zA (ql H.fUnk (by decide)) (dn ⟨rfl,rfl,rfl⟩)) ?_
  refine dP rfl rfl rfl (wN rfl) (by simp only[zP,hs];decide) hS (fun w' hS'=>rL (b:=bb) (o:=0) (v:=.int .u32 (tk:Int)) zM H.oU32 hS' (dn ⟨rfl,rfl,rfl⟩)) ?_
  refine dP rfl rfl rfl (wN rfl) (by simp only[zP,hs];decide) hS (fun w' hS'=>rM (dn ⟨rfl,rfl,rfl⟩)) ?_
  refine dP rfl rfl rfl (wN rfl) (by simp only[zP,hs];decide) hS (fun w' hS'=>qV (k:=.u32) (m:=(tk:Int)) (n:=(le:Int)) zE zA (dn ⟨rfl,rfl,rfl⟩)) ?_
  rw[hd]
  refine dP rfl rfl rfl (wN rfl) (by simp only[zP,hs];decide) hS (fun w' hS'=>rM (dn ⟨rfl,rfl,rfl⟩)) ?_
  iterate 5 (refine d_no rfl rfl (by rw[wS (b:=true) rfl rfl zM];rfl) hS ?_)
  iterate 8 (refine d_no rfl rfl (yC rfl rfl zM (by simp only[zP,hs];decide)) hS ?_)
  refine d_no rfl rfl (by rw[wS (b:=true) rfl rfl zM];rfl) hS ?_
  refine dP rfl rfl rfl (wN rfl) (by simp only[zP,hs];decide) hS (fun w' hS'=>qZ zE (dn ⟨rfl,rfl,rfl⟩)) ?_
  refine xC ?_
  refine hQ _ (by simp only[zP];exact hs) (by simp only[dF]) (fun k hk=>zE) ?_
  rw[hres]
  exact zE
 have hd:decide ((tk:Int)<(le:Int))=false:=by simp;omega
 by_cases hjn:j<n
 ·obtain ⟨g,kj,rfl,hc,hres⟩:=hlt hl hjn
  have hd2:decide ((j:Int)<(n:Int))=true:=by simp;omega
  have hS:(fun W':World=>W'.cell? ⟨bb,0,none⟩=some (.int .u32 (tk:Int))/\W'.cell? ⟨g,0+j*2,none⟩=some (.int .u32 (kj:Int))) { V with drawn:=V.drawn+1 }:=⟨hk,hc⟩
  refine xd [(0,true),(1,true),(2,true),(3,true),(4,true),(5,true),(6,true),(7,true),(8,true),(9,true),(10,true),(11,true),(12,true),(13,true),(14,true),(15,true),(16,true),(17,true),(18,true),(19,true)] (fun W'=>W'.cell? ⟨bb,0,none⟩=some (.int .u32 (tk:Int))/\W'.cell? ⟨g,0+j*2,none⟩=some (.int .u32 (kj:Int))) HT.mixed (by kernel_rfl) rfl (by kernel_rfl) hpanic ?_
  refine dP rfl rfl rfl (wN rfl) (by simp only[zP,hs];decide) hS (fun w' hS'=>rF (b:=bb) (o:=0) zA (ql H.fUnk (by decide)) (dn ⟨rfl,rfl,rfl⟩)) ?_
  refine dP rfl rfl rfl (wN rfl) (by simp only[zP,hs];decide) hS (fun w' hS'=>rL (b:=bb) (o:=0) (v:=.int .u32 (tk:Int)) zM H.oU32 hS'.1 (dn ⟨rfl,rfl,rfl⟩)) ?_
  refine dP rfl rfl rfl (wN rfl) (by simp only[zP,hs];decide) hS (fun w' hS'=>rM (dn ⟨rfl,rfl,rfl⟩)) ?_
  refine dP rfl rfl rfl (wN rfl) (by simp only[zP,hs];decide) hS (fun w' hS'=>qV (k:=.u32) (m:=(tk:Int)) (n:=(le:Int)) zE zA (dn ⟨rfl,rfl,rfl⟩)) ?_
  rw[hd]
  refine dP rfl rfl rfl (wN rfl) (by simp only[zP,hs];decide) hS (fun w' hS'=>rM (dn ⟨rfl,rfl,rfl⟩)) ?_
  refine dP rfl rfl rfl (by rw[wS (b:=false) rfl rfl zM];rfl) (by simp only[zP,hs];decide) hS (fun w' hS'=>rM (dn ⟨rfl,rfl,rfl⟩)) ?_
  refine dP rfl rfl rfl (by rw[wS (b:=false) rfl rfl zM];rfl) (by simp only[zP,hs];decide) hS (fun w' hS'=>rM (dn ⟨rfl,rfl,rfl⟩)) ?_
  refine dP rfl rfl rfl (by rw[wS (b:=false) rfl rfl zM];rfl) (by simp only[zP,hs];decide) hS (fun w' hS'=>x7 (ad:=some ⟨g,0,none⟩) (n:=n) (c:=cap) hsl zA (dn ⟨rfl,rfl,rfl⟩)) ?_
  refine dP rfl rfl rfl (by rw[wS (b:=false) rfl rfl zM];rfl) (by simp only[zP,hs];decide) hS (fun w' hS'=>qV (k:=.i64) (m:=(j:Int)) (n:=(n:Int)) zA zE (dn ⟨rfl,rfl,rfl⟩)) ?_
  rw[hd2]
  refine dP rfl rfl rfl (by rw[wS (b:=false) rfl rfl zM];rfl) (by simp only[zP,hs];decide) hS (fun w' hS'=>rM (dn ⟨rfl,rfl,rfl⟩)) ?_
  refine dP rfl rfl rfl (by rw[wS (b:=true) rfl rfl zM];rfl) (by simp only[zP,hs];decide) hS (fun w' hS'=>rM (dn ⟨rfl,rfl,rfl⟩)) ?_
  refine dP rfl rfl rfl (by rw[wS (b:=true) rfl rfl zM];rfl) (by simp only[zP,hs];decide) hS (fun w' hS'=>rM (dn ⟨rfl,rfl,rfl⟩)) ?_
  refine dP rfl rfl rfl (by rw[wS (b:=true) rfl rfl zM];rfl) (by simp only[zP,hs];decide) hS (fun w' hS'=>qA (k:=.i64) (j:=j) (b:=g) (o:=0) (len:=n) (cap:=cap) hsl zA zA hjn (dn ⟨rfl,rfl,rfl⟩)) ?_
  refine dP rfl rfl rfl (by rw[wS (b:=true) rfl rfl zM];rfl) (by simp only[zP,hs];decide) hS (fun w' hS'=>rF (b:=g) (o:=0+j*2) zE (ql H.fUnk (by decide)) (dn ⟨rfl,rfl,rfl⟩)) ?_
  refine dP rfl rfl rfl (by rw[wS (b:=true) rfl rfl zM];rfl) (by simp only[zP,hs];decide) hS (fun w' hS'=>rL (b:=g) (o:=0+j*2) (v:=.int .u32 (kj:Int)) zM H.oU32 hS'.2 (dn ⟨rfl,rfl,rfl⟩)) ?_
  refine dP rfl rfl rfl (by rw[wS (b:=true) rfl rfl zM];rfl) (by simp only[zP,hs];decide) hS (fun w' hS'=>rF (b:=bb) (o:=0) zA (ql H.fUnk (by decide)) (dn ⟨rfl,rfl,rfl⟩)) ?_
  refine dP rfl rfl rfl (by rw[wS (b:=true) rfl rfl zM];rfl) (by simp only[zP,hs];decide) hS (fun w' hS'=>rL (b:=bb) (o:=0) (v:=.int .u32 (tk:Int)) zM H.oU32 hS'.1 (dn ⟨rfl,rfl,rfl⟩)) ?_
  refine dP rfl rfl rfl (by rw[wS (b:=true) rfl rfl zM];rfl) (by simp only[zP,hs];decide) hS (fun w' hS'=>xy (k:=.u32) (m:=(kj:Int)) (n:=(tk:Int)) zE zE (dn ⟨rfl,rfl,rfl⟩)) ?_
  refine dP rfl rfl rfl (by rw[wS (b:=false) rfl rfl zM];rfl) (by simp only[zP,hs];decide) hS (fun w' hS'=>qZ zE (dn ⟨rfl,rfl,rfl⟩)) ?_
  refine dP rfl rfl rfl (wN rfl) (by simp only[zP,hs];decide) hS (fun w' hS'=>xx zE (dn ⟨rfl,rfl,rfl⟩)) ?_
  refine xC ?_
  refine hQ _ (by simp only[zP];exact hs) (by simp only[dF]) (fun k hk=>zE) ?_
  rw[hres]
  simp (disch:=(try simp only[sP]);omega) only[eV]
  rfl
 ·have hres:=hge hl hjn
  have hd2:decide ((j:Int)<(n:Int))=false:=by simp;omega
  have hS:(fun W':World=>W'.cell? ⟨bb,0,none⟩=some (.int .u32 (tk:Int))) { V with drawn:=V.drawn+1 }:=hk
  refine xd [(0,true),(1,true),(2,true),(3,true),(4,true),(5,true),(6,true),(7,true),(8,true),(9,true),(10,true),(11,true),(12,true),(13,true),(14,true),(15,true),(16,true),(17,true),(18,true),(19,true)] (fun W'=>W'.cell? ⟨bb,0,none⟩=some (.int .u32 (tk:Int))) HT.mixed (by kernel_rfl) rfl (by kernel_rfl) hpanic ?_
  refine dP rfl rfl rfl (wN rfl) (by simp only[zP,hs];decide) hS (fun w' hS'=>rF (b:=bb) (o:=0) zA (ql H.fUnk (by decide)) (dn ⟨rfl,rfl,rfl⟩)) ?_
  refine dP rfl rfl rfl (wN rfl) (by simp only[zP,hs];decide) hS (fun w' hS'=>rL (b:=bb) (o:=0) (v:=.int .u32 (tk:Int)) zM H.oU32 hS' (dn ⟨rfl,rfl,rfl⟩)) ?_
  refine dP rfl rfl rfl (wN rfl) (by simp only[zP,hs];decide) hS (fun w' hS'=>rM (dn ⟨rfl,rfl,rfl⟩)) ?_
  refine dP rfl rfl rfl (wN rfl) (by simp only[zP,hs];decide) hS (fun w' hS'=>qV (k:=.u32) (m:=(tk:Int)) (n:=(le:Int)) zE zA (dn ⟨rfl,rfl,rfl⟩)) ?_
  rw[hd]
  refine dP rfl rfl rfl (wN rfl) (by simp only[zP,hs];decide) hS (fun w' hS'=>rM (dn ⟨rfl,rfl,rfl⟩)) ?_
  refine dP rfl rfl rfl (by rw[wS (b:=false) rfl rfl zM];rfl) (by simp only[zP,hs];decide) hS (fun w' hS'=>rM (dn ⟨rfl,rfl,rfl⟩)) ?_
  refine dP rfl rfl rfl (by rw[wS (b:=false) rfl rfl zM];rfl) (by simp only[zP,hs];decide) hS (fun w' hS'=>rM (dn ⟨rfl,rfl,rfl⟩)) ?_
  refine dP rfl rfl rfl (by rw[wS (b:=false) rfl rfl zM];rfl) (by simp only[zP,hs];decide) hS (fun w' hS'=>x7 (ad:=ad) (n:=n) (c:=cap) hsl zA (dn ⟨rfl,rfl,rfl⟩)) ?_
  refine dP rfl rfl rfl (by rw[wS (b:=false) rfl rfl zM];rfl) (by simp only[zP,hs];decide) hS (fun w' hS'=>qV (k:=.i64) (m:=(j:Int)) (n:=(n:Int)) zA zE (dn ⟨rfl,rfl,rfl⟩)) ?_
  rw[hd2]
  refine dP rfl rfl rfl (by rw[wS (b:=false) rfl rfl zM];rfl) (by simp only[zP,hs];decide) hS (fun w' hS'=>rM (dn ⟨rfl,rfl,rfl⟩)) ?_
  iterate 8 (refine d_no rfl rfl (by rw[wS (b:=false) rfl rfl zM];rfl) hS ?_)
  refine dP rfl rfl rfl (by rw[wS (b:=false) rfl rfl zM];rfl) (by simp only[zP,hs];decide) hS (fun w' hS'=>xx zE (dn ⟨rfl,rfl,rfl⟩)) ?_
  refine dP rfl rfl rfl (wN rfl) (by simp only[zP,hs];decide) hS (fun w' hS'=>xx zE (dn ⟨rfl,rfl,rfl⟩)) ?_
  refine xC ?_
  refine hQ _ (by simp only[zP];exact hs) (by simp only[dF]) (fun k hk=>zE) ?_
  rw[hres]
  exact zE
end
end Go.Km
namespace Go.Km
open Go Go.RowKit
attribute [local irreducible] vc rO_ qz qJ qF
section
variable {P : Program} {E : Env} {w : World} {U : Nat}
set_option maxHeartbeats 1000000 in
theorem s_unkIns (H:SEnv P E) (HL:SLay P E) {A:Act} {V:World} {Q:Exit->Act->World->Prop} {B bb j:Nat} {v6:Value} {es:List UE} {t:UE}
  (hs:A.tmps.size=85) (h6:A.eval (.tmp 6)=v6) (h8:A.eval (.tmp 8)=.pointer (some ⟨bb,0,none⟩)) (h9:A.eval (.tmp 9)=.int .i64 (j:Int)) (hj:j<=es.length) (hn:es.length<40000) (hB:B<=V.heap.size)
  (hown:V.ownsRow B E.tUnk 2 v6 es.length (fl es)) (hok:∀ e ∈ es,e.2.oneCell'=true) (hto:t.2.oneCell'=true) (hbb:bb<V.heap.size) (hne:∀ g,v6.ownBlock=some g->g≠bb) (hc:qb V bb 0 [.int .u32 (t.1.1:Int),t.2])
  (hQ:∀ A' V' v',A'.tmps.size=85->A'.defers=A.defers->(∀ k:Nat,k<23->k≠6->k≠10->A'.eval (.tmp k)=A.eval (.tmp k))->A'.eval (.tmp 6)=v'->Below B V V'->V'.ownsRow B E.tUnk 2 v' (es.length+1) (fl (es.take j++t::es.drop j))->Q .normal A' V') :
  vc P (sq [
        (rg [(oQ 59 (.move (.tmp 6)) E.tK),
         (oQ 60 (.build E.tUnk #[]) E.tUnk),
         (oQ 61 (.buildSlice E.tK 1 #[(0,(.tmp 60))]) E.tK),
         (oQ 62 (.call { callee:=.builtin .append,args:=#[(.tmp 59),(.tmp 61)],argTypes:=#[E.tK,E.tK] }) E.tK),
         (oQ 6 (.assign (.tmp 62)) E.tK)]),
        (sq [(rg [(oQ 63 (.move (.tmp 6)) E.tK),
          (oQ 64 (.call { callee:=.builtin .len,args:=#[(.tmp 63)],argTypes:=#[E.tK] }) E.tI),
          (oQ 65 (.binOp .sub E.tI (.tmp 64) (.const (.int .i64 1)) E.tI) E.tI),
          (oQ 10 (.assign (.tmp 65)) E.tI)]),
         (.block 4 (.loop (sq [(sq [(rg [(oQ 66 (.move (.tmp 10)) E.tI),
              (oQ 67 (.move (.tmp 9)) E.tI),
              (oQ 68 (.binOp .gtr E.tI (.tmp 66) (.tmp 67) E.tI) E.tO)]),
             (.cond (.tmp 68)
              .skip
              (.exit 4))]),
            (.block 5 (rg [(oQ 71 (.move (.tmp 6)) E.tK),
              (oQ 72 (.move (.tmp 10)) E.tI),
              (oQ 73 (.move (.tmp 6)) E.tK),
              (oQ 74 (.move (.tmp 10)) E.tI),
              (oQ 75 (.binOp .sub E.tI (.tmp 74) (.const (.int .i64 1)) E.tI) E.tI),
              (oQ 76 (.indexAddr E.tK (.tmp 73) (.tmp 75)) 0),
              (oQ 77 (.load E.tUnk (.tmp 76)) E.tUnk),
              (oQ 78 (.indexAddr E.tK (.tmp 71) (.tmp 72)) 0),
              ⟨none,.store E.tUnk (.tmp 78) (.tmp 77),0,"",#[],none⟩])),
            (rg [(oQ 69 (.move (.tmp 10)) E.tI),
             (oQ 70 (.binOp .sub E.tI (.tmp 69) (.const (.int .i64 1)) E.tI) E.tI),
             (oQ 10 (.assign (.tmp 70)) E.tI)])])))]),
        (rg [(oQ 79 (.move (.tmp 6)) E.tK),
         (oQ 80 (.move (.tmp 9)) E.tI),
         (oQ 81 (.load E.tUnk (.tmp 8)) E.tUnk),
         (oQ 82 (.indexAddr E.tK (.tmp 79) (.tmp 80)) 0),
         ⟨none,.store E.tUnk (.tmp 82) (.tmp 81),0,"",#[],none⟩])]) Q A V:=by
 have hsl:=rB H.rUnks
 generalize hnn:es.length=n at *
 refine vX (rM ?_)
 refine z6 (cells:=#[.int .u32 0,.slice none 0 0]) HL.unk (by simp[Instr.fill]) ?_
 refine xz (vs:=[.agg #[.int .u32 0,.slice none 0 0]]) H.rUnks ?_ rfl (by intro v hv;simp only[List.mem_singleton] at hv;subst hv;rfl) (by decide) (by decide) ?_
 ·simp only[lM]
  simp (disch:=(try simp only[sP]);omega) only[eV]
  rfl
 have hown1:=qE hown ((Below.refl V.heap.size V).alloc (o:=.cells ([Value.agg #[.int .u32 0,.slice none 0 0]].flatMap fun v=>v.cells.toList).toArray E.tUnk) (Nat.le_refl _))
 have hb1:Below V.heap.size V (V.alloc (.cells ([Value.agg #[.int .u32 0,.slice none 0 0]].flatMap fun v=>v.cells.toList).toArray E.tUnk)):=(Below.refl V.heap.size V).alloc (o:=.cells _ _) (Nat.le_refl _)
 have hcz:qb (V.alloc (.cells ([Value.agg #[.int .u32 0,.slice none 0 0]].flatMap fun v=>v.cells.toList).toArray E.tUnk)) V.heap.size 0 [.int .u32 0,.slice none 0 0]:=by
  intro i v hv
  rw[Nat.zero_add]
  exact qs V _ E.tUnk (by simpa [Value.cells] using hv)
 generalize V.alloc (.cells ([Value.agg #[.int .u32 0,.slice none 0 0]].flatMap fun v=>v.cells.toList).toArray E.tUnk)=V1 at *
 refine zl (sz:=2) (U:=B) (v:=v6) (m:=1) (news:=[.int .u32 0,.slice none 0 0]) H.rUnks (u:=.slice (some ⟨V.heap.size,0,none⟩) 1 1) zA zE hown1 (Nat.le_trans hB hb1.size) (xW hsl hcz rfl (by intro u hu;simp only[List.mem_cons,List.not_mem_nil,or_false] at hu;rcases hu with rfl | rfl<;>rfl)) (by unfold big;omega) ?_
 intro v7 V7 h7 hb7 hg7 hnew
 refine rA (dn ?_)
 have hbb1:bb<V1.heap.size:=Nat.lt_of_lt_of_le hbb hb1.size
 have hc7:qb V7 bb 0 [.int .u32 (t.1.1:Int),t.2]:=(hc.below hb1 hbb).grown hg7 hbb1 (fun he=>hne bb he.symm rfl)
 have hform:=jY h7
 obtain ⟨g,cap,rfl,hncap,hBg,hgV⟩:=hform.resolve_left (by rintro ⟨_,h⟩;omega)
 have hgb:g≠bb:=by
  rcases hnew g rfl with h | h
  ·exact hne g h
  ·omega
 have h7':V7.ownsRow B E.tUnk 2 (.slice (some ⟨g,0,none⟩) (n+1) cap) (n+1) (fl (es.take n++((0,[]),Value.slice none 0 0)::es.drop n)):=by
  rw[← hnn,List.take_length,List.drop_length,fl_app]
  rw[hnn]
  exact h7
 have hbV7:Below B V V7:=(hb1.mono hB).trans hb7
 clear h7 hnew hform hg7 hown1 hcz
 refine vS (vX (rM ?_))
 refine x7 (ad:=some ⟨g,0,none⟩) (n:=n+1) (c:=cap) hsl zE ?_
 refine yw (k:=.i64) (m:=((n+1:Nat):Int)) (n:=1) zE rfl ?_
 have hw0:IntKind.i64.wrap (((n+1:Nat):Int)-1)=(n:Int):=by rw[wrap_i64 zH zH];omega
 rw[hw0]
 refine rA (dn ?_)
 refine vS (qh (xG (fun m A' V'=>m<=n-j/\A'.tmps.size=85/\A'.defers=A.defers/\(∀ k:Nat,k<23->k≠6->k≠10->A'.eval (.tmp k)=A.eval (.tmp k))/\A'.eval (.tmp 6)=.slice (some ⟨g,0,none⟩) (n+1) cap/\A'.eval (.tmp 10)=.int .i64 ((j+m:Nat):Int) ∧
  Below B V V'/\qb V' bb 0 [.int .u32 (t.1.1:Int),t.2]/\∃ X:UE,V'.ownsRow B E.tUnk 2 (.slice (some ⟨g,0,none⟩) (n+1) cap) (n+1) (fl (es.take (j+m)++X::es.drop (j+m)))) (n-j) ?_ ?_ ?_))
 ·refine ⟨Nat.le_refl _,by simp only[zP];exact hs,by simp only[dF],fun k h1 h2 h3=>zE,zE,?_,hbV7,hc7,((0,[]),.slice none 0 0),?_⟩
  ·simp (disch:=(try simp only[sP]);omega) only[eV]
   rw[show j+(n-j)=n by omega]
  ·rw[show j+(n-j)=n by omega]
   exact h7'
 ·rintro m A' V' ⟨hm,hs',hd',hk',g6,g10,hbV',hc',X,hX⟩
  have hkn:j+m<es.length:=by omega
  rw[show j+(m+1)=(j+m)+1 by omega] at g10 hX
  generalize hkk:j+m=k at *
  have g9:A'.eval (.tmp 9)=.int .i64 (j:Int):=by rw[hk' 9 zH zH zH,h9]
  have hxl:(es.take (k+1)++X::es.drop (k+1)).length=n+1:=by
   simp only[List.length_append,List.length_cons,List.length_take,List.length_drop]
   omega
  refine vS (vX (rM (rM ?_)))
  refine ji (k:=.i64) (m:=((k+1:Nat):Int)) (n:=(j:Int)) zA zA ?_
  refine dn ?_
  refine vS (vC (t:=true) ?_ ?_ (fun h=>by cases h))
  ·simp (disch:=(try simp only[sP]);omega) only[eV]
   simp only[Value.bool.injEq,decide_eq_true_eq]
   omega
  intro _
  refine vK (vN ?_)
  refine vS (qh (vR zS ?_))
  refine rM (rM (rM (rM ?_)))
  refine yw (k:=.i64) (m:=((k+1:Nat):Int)) (n:=1) zA rfl ?_
  have hw1:IntKind.i64.wrap (((k+1:Nat):Int)-1)=(k:Int):=by rw[wrap_i64 zH zH];omega
  rw[hw1]
  refine qA (k:=.i64) (j:=k) (b:=g) (o:=0) (len:=n+1) (cap:=cap) hsl zA zE zH ?_
  have hck:=ym (i:=k) hX (shift_get es k X hkn)
  refine qf (b:=g) (o:=0+k*2) (cs:=[.int .u32 (es[k].1.1:Int),es[k].2]) zE H.aUnk (by rw[Nat.zero_add];exact hck) ?_
  refine qA (k:=.i64) (j:=k+1) (b:=g) (o:=0) (len:=n+1) (cap:=cap) hsl zA zA zH ?_
  have hset:=own_set2 (i:=k+1) (x:=es[k]) hX (by rw[hxl];omega)
  rw[shift_set es k X hkn] at hset
  refine qu (b:=g) (o:=0+(k+1)*2) (cs:=[.int .u32 (es[k].1.1:Int),es[k].2]) zE zE (by intro u hu;simp only[List.mem_cons,List.not_mem_nil,or_false] at hu;rcases hu with rfl | rfl;rfl;exact hok _ (List.getElem_mem hkn)) H.aUnk ?_ ?_
  ·intro i hi
   simp only[List.length_cons,List.length_nil] at hi
   exact own_free2 hX zH
  rw[show 0+(k+1)*2=(k+1)*2 by omega]
  have hc'':qb (setCells V' g ((k+1)*2) [.int .u32 (es[k].1.1:Int),es[k].2]) bb 0 [.int .u32 (t.1.1:Int),t.2]:=hc'.eff (qe g _ V' _) (by rintro i hi ⟨h,_⟩;exact hgb h.symm)
  refine dn (vX (rM ?_))
  refine yw (k:=.i64) (m:=((k+1:Nat):Int)) (n:=1) zA rfl ?_
  rw[hw1]
  refine rA (dn (vN ?_))
  exact ⟨by omega,by simp only[zP];exact hs',by simp only[dF];exact hd',fun k' h1 h2 h3=>(by simp (disch:=(try simp only[sP]);omega) only[eV,hk' k' h1 h2 h3]),zA,zE,hbV'.trans hset.2,hc'',es[k],hset.1⟩
 ·rintro A' V' ⟨hm,hs',hd',hk',g6,g10,hbV',hc',X,hX⟩
  simp only[Nat.add_zero] at g10 hX
  have g9:A'.eval (.tmp 9)=.int .i64 (j:Int):=by rw[hk' 9 zH zH zH,h9]
  have g8:A'.eval (.tmp 8)=.pointer (some ⟨bb,0,none⟩):=by rw[hk' 8 zH zH zH,h8]
  have hxl:(es.take j++X::es.drop j).length=n+1:=by
   simp only[List.length_append,List.length_cons,List.length_take,List.length_drop]
   omega
  refine vS (vX (rM (rM ?_)))
  refine ji (k:=.i64) (m:=(j:Int)) (n:=(j:Int)) zA zA ?_
  refine dn ?_
  refine vS (vC (t:=false) ?_ (fun h=>by cases h) ?_)
  ·simp (disch:=(try simp only[sP]);omega) only[eV]
   simp only[Value.bool.injEq,decide_eq_false_iff_not]
   omega
  intro _
  refine xb ?_
  simp only[Exit.then,Exit.inBlock,if_true]
  refine vN (vX (rM (rM ?_)))
  refine qf (b:=bb) (o:=0) (cs:=[.int .u32 (t.1.1:Int),t.2]) zA H.aUnk hc' ?_
  refine qA (k:=.i64) (j:=j) (b:=g) (o:=0) (len:=n+1) (cap:=cap) hsl zA zA zH ?_
  have hset:=own_set2 (i:=j) (x:=t) hX (by rw[hxl];omega)
  rw[put_set es j X t zH] at hset
  refine qu (b:=g) (o:=0+j*2) (cs:=[.int .u32 (t.1.1:Int),t.2]) zE zE (by intro u hu;simp only[List.mem_cons,List.not_mem_nil,or_false] at hu;rcases hu with rfl | rfl;rfl;exact hto) H.aUnk ?_ ?_
  ·intro i hi
   simp only[List.length_cons,List.length_nil] at hi
   exact own_free2 hX zH
  rw[show 0+j*2=j*2 by omega]
  refine dn (vN ?_)
  exact hQ _ _ _ (by simp only[zP];exact hs') (by simp only[dF];exact hd') (fun k' h1 h2 h3=>(by simp (disch:=(try simp only[sP]);omega) only[eV,hk' k' h1 h2 h3])) zA (hbV'.trans hset.2) hset.1
end
end Go.Km
namespace Go.Km
open Go Go.RowKit
attribute [local irreducible] vc rO_ qz qJ qF
theorem kD.items {w:World} {U:Nat} {v:Value} {u:List (Nat × List UInt8)} (h:kD w U v u):∃ ad cap,v=.slice ad u.length cap/\u.length<=cap ∧
  ∀ (i:Nat) (x:Nat × List UInt8),u[i]? = some x->∃ q o s,ad=some ⟨q,o,none⟩/\q<U/\x.1<4294967296/\qb w q (o+i*2) [.int .u32 (x.1:Int),s]/\xM w U s x.2:=by
 rcases h with ⟨⟨ad,cap,rfl⟩,rfl⟩ | ⟨q,o,cap,rfl,hc,hq,h⟩
 ·exact ⟨ad,cap,rfl,Nat.zero_le _,fun i x hx=>by simp at hx⟩
 ·refine ⟨_,cap,rfl,hc,fun i x hx=>?_⟩
  obtain ⟨s,h1,h2,h3⟩:=h i x hx
  exact ⟨q,o,s,rfl,hq,h1,h2,h3⟩
theorem kD.of_own {w w':World} {U B:Nat} {e:TypeId} {v:Value} {es:List UE} (h:w'.ownsRow B e 2 v es.length (fl es)) (hok:∀ x ∈ es,x.1.1<4294967296/\xM w U x.2 x.1.2) (hU:U<=w.heap.size) (hw:Below U w w'):kD w' w'.heap.size v (es.map (·.1)):=by
 have hUw:U<=w'.heap.size:=Nat.le_trans hU hw.size
 rcases jY h with ⟨rfl,h0⟩ | ⟨g,cap,rfl,hc,_,hg⟩
 ·refine .inl ⟨nilS,?_⟩
  rw[List.eq_nil_of_length_eq_zero h0]
  rfl
 ·refine .inr ⟨g,0,cap,by rw[List.length_map],by rw[List.length_map];exact hc,hg,fun i x hx=>?_⟩
  rw[List.getElem?_map] at hx
  cases hi:es[i]? with
  | none=>rw[hi] at hx;cases hx
  | some e =>
   rw[hi,Option.map_some,Option.some.injEq] at hx
   subst hx
   obtain ⟨h1,h2⟩:=hok e (List.mem_of_getElem? hi)
   exact ⟨e.2,h1,by rw[Nat.zero_add];exact ym h hi,(h2.below hw).mono hUw⟩
section
variable {P : Program} {E : Env} {w : World} {U : Nat}
set_option maxHeartbeats 2000000 in
theorem s_unknownN (H:SEnv P E) (HL:SLay P E) (HT:STexts P E) (U:Nat) (w:World) (sv uv:Value) (fs:SFs) (u:List (Nat × List UInt8)) (hU:U<=w.heap.size) (hsf:SlF w U sv fs) (htg:∀ t ∈ fs.tags,t<65536) (hfl:fs.len<=big) (hu:kD w U uv u) :
  qa P E.sUnknown #[sv,uv] w fun v w'=>(∃ es:List UE,w'.ownsRow w.heap.size E.tUnk 2 v es.length (fl es)/\(∀ e ∈ es,e.1.1<4294967296/\xM w U e.2 e.1.2)/\es.map (·.1)=unk (known fs.tags) u)/\Below w.heap.size w w':=by
 refine qa.enter HT.unknown zS ?_
 intro a hsz hdf harg
 have e0:=harg 0 sv zS
 have e1:=harg 1 uv zS
 have hsl:=rB H.rUnks
 obtain ⟨z,hz,hzc⟩:=vk H.rUnks
 obtain ⟨ad,cap,huv,hcap,hit⟩:=hu.items
 unfold c_sUnknown
 refine vX (rA (dn (vX (rM ?_))))
 refine q8 (args:=#[sv]) ?_ (s_known (U:=w.heap.size) H HL HT (hsf.mono hU) (Nat.le_refl _) htg hfl) ?_
 ·simp only[lM]
  simp (disch:=(try simp only[sP]);omega) only[eV,e0]
 rintro v W1 ⟨rfl,hb1⟩
 generalize hle:known fs.tags=le at *
 refine rA (dn (vX (rA (dn ?_))))
 have hU1:U<=W1.heap.size:=Nat.le_trans hU hb1.size
 have hbU1:Below U w W1:=hb1.mono hU
 have hmin:(if (32767:Int)<(u.length:Int) then 32767 else (u.length:Int))=((u.take 32767).length:Int):=by
  rw[List.length_take];split<;>omega
 have hun:unk le u=(u.take 32767).foldl (fun l x=>if x.1<le then l else zm x l) []:=rfl
 have htl:(u.take 32767).length<=u.length:=by rw[List.length_take];omega
 have htm:(u.take 32767).length<=32767:=by rw[List.length_take];omega
 have hit':∀ (i:Nat) (x:Nat × List UInt8),(u.take 32767)[i]? = some x->∃ q o s,ad=some ⟨q,o,none⟩/\q<U/\x.1<4294967296/\qb w q (o+i*2) [.int .u32 (x.1:Int),s]/\xM w U s x.2:=by
  intro i x hx
  rw[List.getElem?_take] at hx
  split at hx
  ·exact hit i x hx
  ·cases hx
 refine vS (vX (rM (rM ?_)))
 refine x7 (ad:=ad) (n:=u.length) (c:=cap) hsl (by simp (disch:=(try simp only[sP]);omega) only[eV,e1,huv]) ?_
 refine r_min (k:=.i64) (m:=(u.length:Int)) (n:=32767) zE rfl ?_
 rw[hmin]
 rw[hun]
 generalize u.take 32767=u' at *
 refine kT (k:=.i64) (ad:=ad) (len:=u.length) (cap:=cap) (h:=u'.length) hsl (by simp (disch:=(try simp only[sP]);omega) only[eV,e1,huv]) zE zH ?_
 refine x7 (ad:=ad) (n:=u'.length) (c:=cap) hsl zE ?_
 refine rM (dn ?_)
 refine vS (qh (xG (fun m A V=>m<=u'.length/\A.tmps.size=85/\A.defers=[]/\A.eval (.tmp 5)=.int .u32 (le:Int)/\A.eval (.tmp 17)=.slice ad u'.length cap/\A.eval (.tmp 18)=.int .i64 (u'.length:Int)/\A.eval (.tmp 19)=.int .i64 ((u'.length-m:Nat):Int)/\Below W1.heap.size W1 V ∧
  ∃ (es:List UE) (v6:Value),A.eval (.tmp 6)=v6/\V.ownsRow W1.heap.size E.tUnk 2 v6 es.length (fl es)/\(∀ e ∈ es,e.1.1<4294967296/\xM w U e.2 e.1.2)/\es.length<=u'.length-m/\es.map (·.1)=(u'.take (u'.length-m)).foldl (fun l x=>if x.1<le then l else zm x l) []) u'.length ?_ ?_ ?_))
 ·refine ⟨Nat.le_refl _,by simp only[zP];exact hsz,by simp only[dF];exact hdf,zE,zE,zE,?_,Below.refl _ _,[],.slice none 0 0,zE,World.ownsRow_nil _ _ _ _,by simp,Nat.zero_le _,by simp⟩
  simp (disch:=(try simp only[sP]);omega) only[eV]
  simp
 ·rintro m A V ⟨hm,hs,hd,g5,g17,g18,g19,hbV,es,v6,g6,hown,hok,hesl,hmap⟩
  have hi:u'.length-(m+1)<u'.length:=by omega
  have him:u'.length-m=(u'.length-(m+1))+1:=by omega
  rw[him]
  generalize hii:u'.length-(m+1)=i at *
  obtain ⟨q,o,s,rfl,hq,hkey,hcs,hoc⟩:=hit' i u'[i] (List.getElem?_eq_getElem hi)
  have hfold:(u'.take (i+1)).foldl (fun l x=>if x.1<le then l else zm x l) []=if u'[i].1<le then es.map (·.1) else zm u'[i] (es.map (·.1)):=by
   rw[List.take_succ_eq_append_getElem hi,List.foldl_append,← hmap]
   rfl
  rw[hfold]
  generalize hx:u'[i]=x at *
  obtain ⟨tk,oc⟩:=x
  simp only at hkey hcs hoc hfold ⊢
  have hbwV:Below U w V:=hbU1.trans (hbV.mono hU1)
  have hcsV:=hcs.below hbwV hq
  have hUV:U<=V.heap.size:=Nat.le_trans hU1 hbV.size
  refine vX ?_
  refine qV (k:=.i64) (m:=(i:Int)) (n:=(u'.length:Int)) g19 g18 ?_
  refine dn ?_
  refine vS (vC (t:=true) ?_ ?_ (fun h=>by cases h))
  ·simp (disch:=(try simp only[sP]);omega) only[eV]
   simp only[Value.bool.injEq,decide_eq_true_eq]
   omega
  intro _
  refine vK ?_
  refine vS (qh (vX ?_))
  refine qA (k:=.i64) (j:=i) (b:=q) (o:=o) (len:=u'.length) (cap:=cap) hsl zA zA hi ?_
  refine qf (b:=q) (o:=o+i*2) (cs:=[.int .u32 (tk:Int),s]) zE H.aUnk hcsV ?_
  refine qI hz ?_
  have hs1:s.oneCell'=true:=hoc.one
  refine qu (b:=V.heap.size) (o:=0) (cs:=[.int .u32 (tk:Int),s]) zE zE (by intro v hv;simp only[List.mem_cons,List.not_mem_nil,or_false] at hv;rcases hv with rfl | rfl;rfl;exact hs1) H.aUnk ?_ ?_
  ·intro j hj
   rw[Nat.zero_add]
   exact qm V _ _ (by rw[hzc];simpa using hj)
  refine dn ?_
  have hcell:qb (setCells (V.alloc (.cells z.cells E.tUnk)) V.heap.size 0 [.int .u32 (tk:Int),s]) V.heap.size 0 [.int .u32 (tk:Int),s]:=fun j v hv=>by
   refine qg V.heap.size [.int .u32 (tk:Int),s] _ 0 (fun j hj=>?_) j v hv
   rw[Nat.zero_add]
   exact (qm V z.cells E.tUnk (by rw[hzc];simpa using hj)).1
  have hb3:Below V.heap.size V (setCells (V.alloc (.cells z.cells E.tUnk)) V.heap.size 0 [.int .u32 (tk:Int),s]):=by
   refine ((Below.refl V.heap.size V).alloc (o:=.cells _ _) (Nat.le_refl _)).trans ((qe V.heap.size [.int .u32 (tk:Int),s] _ 0).below zS (by rintro k i hk ⟨rfl,_,_⟩;omega))
  have hz3:V.heap.size<(setCells (V.alloc (.cells z.cells E.tUnk)) V.heap.size 0 [.int .u32 (tk:Int),s]).heap.size:=by
   have:=(qe V.heap.size [.int .u32 (tk:Int),s] (V.alloc (.cells z.cells E.tUnk)) 0).size
   simp at this
   omega
  generalize setCells (V.alloc (.cells z.cells E.tUnk)) V.heap.size 0 [.int .u32 (tk:Int),s]=V1 at hcell hb3 hz3 ⊢
  have hown1:=qE hown hb3
  have hWV:W1.heap.size<=V.heap.size:=hbV.size
  have hbV1:Below W1.heap.size W1 V1:=hbV.trans (hb3.mono hWV)
  have hbbl:∀ g,v6.ownBlock=some g->g≠V.heap.size:=fun g hg=>by have:=xA hown hg;omega
  generalize hbb:V.heap.size=bb at *
  refine vX (rA (dn ?_))
  generalize hG:(((((A.put (some 20) _).put (some 21) _).put (some 22) _).put (some 8) _).put (some 9) _)=G
  have hsG:G.tmps.size=85:=by rw[← hG];simp only[zP];exact hs
  have hdG:G.defers=[]:=by rw[← hG];simp only[dF];exact hd
  have k5:G.eval (.tmp 5)=.int .u32 (le:Int):=by rw[← hG];exact zA
  have k6:G.eval (.tmp 6)=v6:=by rw[← hG];exact zA
  have k8:G.eval (.tmp 8)=.pointer (some ⟨bb,0,none⟩):=by rw[← hG];exact zE
  have k9:G.eval (.tmp 9)=.int .i64 0:=by rw[← hG];exact zE
  have k17:G.eval (.tmp 17)=.slice (some ⟨q,o,none⟩) u'.length cap:=by rw[← hG];exact zA
  have k18:G.eval (.tmp 18)=.int .i64 (u'.length:Int):=by rw[← hG];exact zA
  have k19:G.eval (.tmp 19)=.int .i64 (i:Int):=by rw[← hG];exact zA
  clear hG
  obtain ⟨ad6,cap6,hv6,hg6⟩:∃ ad6 cap6,v6=.slice ad6 es.length cap6/\∀ j,j<es.length->∃ g,ad6=some ⟨g,0,none⟩/\qb V1 g (0+j*2) [.int .u32 ((es[j]?.map (·.1.1)).getD 0:Nat),(es[j]?.map (·.2)).getD (.slice none 0 0)]:=by
   rcases jY hown1 with ⟨h1,h0⟩ | ⟨g,cap6,h1,_⟩
   ·exact ⟨none,0,by rw[h0];exact h1,fun j hj=>by omega⟩
   ·subst h1
    refine ⟨_,cap6,rfl,fun j hj=>⟨g,rfl,?_⟩⟩
    have:=ym (i:=j) hown1 (List.getElem?_eq_getElem hj)
    rw[List.getElem?_eq_getElem hj,Nat.zero_add]
    exact this
  have hpl:=pos_le tk (es.map (·.1))
  rw[List.length_map] at hpl
  have hplt:=pos_lt tk (es.map (·.1))
  have hpat:=pos_at tk (es.map (·.1))
  have hins:=insU_pos (tk,oc) (es.map (·.1))
  simp only at hins
  generalize hp:pos tk (es.map (·.1))=p at *
  have fin:∀ (B':Act) (V':World) (es':List UE) (v6':Value),B'.tmps.size=85->B'.defers=[]->B'.eval (.tmp 5)=.int .u32 (le:Int)->B'.eval (.tmp 17)=.slice (some ⟨q,o,none⟩) u'.length cap->B'.eval (.tmp 18)=.int .i64 (u'.length:Int)->B'.eval (.tmp 19)=.int .i64 (i:Int)->Below W1.heap.size W1 V' →
    B'.eval (.tmp 6)=v6'->V'.ownsRow W1.heap.size E.tUnk 2 v6' es'.length (fl es')->(∀ e ∈ es',e.1.1<4294967296/\xM w U e.2 e.1.2)->es'.length<=i+1->es'.map (·.1)=(if tk<le then es.map (·.1) else zm (tk,oc) (es.map (·.1)))->∀ Q:Exit->Act->World->Prop,
    (∀ A',(m<=u'.length/\A'.tmps.size=85/\A'.defers=[]/\A'.eval (.tmp 5)=.int .u32 (le:Int)/\A'.eval (.tmp 17)=.slice (some ⟨q,o,none⟩) u'.length cap/\A'.eval (.tmp 18)=.int .i64 (u'.length:Int)/\A'.eval (.tmp 19)=.int .i64 ((i+1:Nat):Int)/\Below W1.heap.size W1 V' ∧
     ∃ (es':List UE) (v6':Value),A'.eval (.tmp 6)=v6'/\V'.ownsRow W1.heap.size E.tUnk 2 v6' es'.length (fl es')/\(∀ e ∈ es',e.1.1<4294967296/\xM w U e.2 e.1.2)/\es'.length<=i+1/\es'.map (·.1)=(if tk<le then es.map (·.1) else zm (tk,oc) (es.map (·.1))))->Q .normal A' V') →
    vc P (sq [(rg [(oQ 83 (.binOp .add E.tI (.tmp 19) (.const (.int .i64 1)) E.tI) E.tI),(oQ 19 (.move (.tmp 83)) E.tI)])]) Q B' V':=by
   intro B' V' es' v6' b0 b1 b2 b3 b4 b5 b6 b7 b8 b9 b10 b11 Q hQ
   refine vX ?_
   refine xN (k:=.i64) (m:=(i:Int)) (n:=1) zA rfl ?_
   refine rM (dn (vN ?_))
   refine hQ _ ⟨by omega,by simp only[zP];exact b0,by simp only[dF];exact b1,zA,zA,zA,?_,b6,es',v6',zA,b8,b9,b10,b11⟩
   simp (disch:=(try simp only[sP]);omega) only[eV]
   rw[wrap_i64 zH zH]
   rfl
  refine vS (qh (xG (fun m' A' V'=>m'<=p/\A'.tmps.size=85/\A'.defers=[]/\(∀ k:Nat,k<23->k≠9->A'.eval (.tmp k)=G.eval (.tmp k))/\A'.eval (.tmp 9)=.int .i64 ((p-m':Nat):Int)/\∃ d,V'={ V1 with drawn:=d }) p ?_ ?_ ?_))
  ·refine ⟨Nat.le_refl _,hsG,hdG,fun _ _ _=>rfl,?_,V1.drawn,rfl⟩
   rw[k9]
   simp
  ·rintro m' A' V' ⟨hm',hs',hd',hk',g9,d,rfl⟩
   have hjp:p-(m'+1)<p:=by omega
   have hjm:p-m'=(p-(m'+1))+1:=by omega
   rw[hjm]
   generalize hjj:p-(m'+1)=j at *
   have hjl:j<es.length:=by omega
   obtain ⟨g,rfl,hcj⟩:=hg6 j hjl
   rw[List.getElem?_eq_getElem hjl] at hcj
   have hlt:=hplt j (by simpa using hjl) hjp
   simp only[List.getElem_map] at hlt
   refine vS (vS (s_unkT1 (j:=j) (n:=es.length) (cap:=cap6) (tk:=tk) (bb:=bb) (ad:=some ⟨g,0,none⟩) (res:=true) H HT hs' g9 (by rw[hk' 6 zH zH,k6,hv6]) (by rw[hk' 8 zH zH,k8]) (hcell 0 _ rfl) (fun _=>⟨g,es[j].1.1,rfl,hcj 0 _ rfl,?_⟩) (fun h=>absurd hjl h) (fun _ _ _ _ h=>False.elim h) ?_))
   ·simp
    omega
   intro B' b0 b1 b2 b3
   refine vS (vC (t:=true) b3 ?_ (fun h=>by cases h))
   intro _
   refine vK (vN ?_)
   refine vS (qh (vR zS ?_))
   refine rM ?_
   refine xN (k:=.i64) (m:=(j:Int)) (n:=1) ?_ rfl ?_
   ·simp (disch:=(try simp only[sP]);omega) only[eV]
    rw[b2 9 zH,g9]
   refine rA (dn (vN ?_))
   refine ⟨by omega,by simp only[zP];exact b0,by simp only[dF];rw[b1];exact hd',fun k h1 h2=>?_,?_,d+1,rfl⟩
   ·simp (disch:=(try simp only[sP]);omega) only[eV]
    rw[b2 k h1,hk' k h1 h2]
   ·simp (disch:=(try simp only[sP]);omega) only[eV]
    rw[wrap_i64 zH zH]
    rfl
  ·rintro A' V' ⟨hm',hs',hd',hk',g9,d,rfl⟩
   rw[Nat.sub_zero] at g9
   refine vS (vS (s_unkT1 (j:=p) (n:=es.length) (cap:=cap6) (tk:=tk) (bb:=bb) (ad:=ad6) (res:=false) H HT hs' g9 (by rw[hk' 6 zH zH,k6,hv6]) (by rw[hk' 8 zH zH,k8]) (hcell 0 _ rfl) (fun hpl'=>?_) (fun _=>rfl) (fun _ _ _ _ h=>False.elim h) ?_))
   ·obtain ⟨g,rfl,hcj⟩:=hg6 p hpl'
    rw[List.getElem?_eq_getElem hpl'] at hcj
    have hnl:=hpat (by simpa using hpl')
    simp only[List.getElem_map] at hnl
    refine ⟨g,es[p].1.1,rfl,hcj 0 _ rfl,?_⟩
    simp
    omega
   intro B' b0 b1 b2 b3
   refine vS (vC (t:=false) b3 (fun h=>by cases h) ?_)
   intro _
   refine xb ?_
   simp only[Exit.then,Exit.inBlock,if_true]
   have hB9:B'.eval (.tmp 9)=.int .i64 (p:Int):=by rw[b2 9 zH,g9]
   have hBk:∀ k:Nat,k<23->k≠9->B'.eval (.tmp k)=G.eval (.tmp k):=fun k h1 h2=>by rw[b2 k h1,hk' k h1 h2]
   have hB6:B'.eval (.tmp 6)=.slice ad6 es.length cap6:=by rw[hBk 6 zH zH,k6,hv6]
   have hB8:B'.eval (.tmp 8)=.pointer (some ⟨bb,0,none⟩):=by rw[hBk 8 zH zH,k8]
   have hB5:B'.eval (.tmp 5)=.int .u32 (le:Int):=by rw[hBk 5 zH zH,k5]
   generalize hdup:(decide (tk<le)||decide (((es.map (·.1))[p]?).map (·.1)=some tk))=dup
   refine vS (vS (s_unkT2 (j:=p) (n:=es.length) (cap:=cap6) (tk:=tk) (bb:=bb) (le:=le) (ad:=ad6) (res:=dup) H HT b0 hB5 hB9 hB6 hB8 (hcell 0 _ rfl) ?_ ?_ ?_ (fun _ _ _ _ h=>False.elim h) ?_))
   ·intro h
    rw[← hdup]
    simp[h]
   ·intro h hpl'
    obtain ⟨g,rfl,hcj⟩:=hg6 p hpl'
    rw[List.getElem?_eq_getElem hpl'] at hcj
    refine ⟨g,es[p].1.1,rfl,hcj 0 _ rfl,?_⟩
    rw[← hdup]
    have h2:¬ tk<le:=h
    simp only[h2,decide_false,Bool.false_or,List.getElem?_map,List.getElem?_eq_getElem hpl',Option.map_some,Option.some.injEq]
    exact decide_eq_decide.2 ⟨fun h=>by omega,fun h=>by omega⟩
   ·intro h hpl'
    rw[← hdup]
    have h2:¬ tk<le:=h
    simp only[h2,decide_false,Bool.false_or,List.getElem?_map,List.getElem?_eq_none (Nat.le_of_not_lt hpl'),Option.map_none,decide_eq_false_iff_not]
    intro h
    cases h
   intro C c0 c1 c2 c3
   have hCk:∀ k:Nat,k<23->k≠9->C.eval (.tmp k)=G.eval (.tmp k):=fun k h1 h2=>by rw[c2 k h1,hBk k h1 h2]
   have hCd:C.defers=[]:=by rw[c1,b1];exact hd'
   refine vS (vC (t:=dup) c3 ?_ ?_)
   ·intro ht
    refine xb ?_
    simp only[Exit.then,Exit.inBlock,if_true]
    refine fin C { V1 with drawn:=d+1+1 } es v6 c0 hCd (by rw[hCk 5 zH zH,k5]) (by rw[hCk 17 zH zH,k17]) (by rw[hCk 18 zH zH,k18]) (by rw[hCk 19 zH zH,k19]) ⟨hbV1.os,hbV1.tape,hbV1.output,hbV1.size,hbV1.block⟩ (by rw[hCk 6 zH zH,k6]) hown1 hok zH ?_ _ (fun A' h=>h)
    rw[ht] at hdup
    simp only[Bool.or_eq_true,decide_eq_true_eq] at hdup
    rcases hdup with h | h
    ·rw[if_pos h]
    ·rw[hins,if_pos h,ite_self]
   ·intro ht
    refine vK (vN ?_)
    rw[ht] at hdup
    simp only[Bool.or_eq_false_iff,decide_eq_false_iff_not] at hdup
    refine s_unkIns (B:=W1.heap.size) (bb:=bb) (j:=p) (v6:=v6) (es:=es) (t:=((tk,oc),s)) (V:={ V1 with drawn:=d+1+1 }) H HL c0 (by rw[hCk 6 zH zH,k6]) (by rw[hCk 8 zH zH,k8]) (by rw[c2 9 zH,hB9]) hpl zH (Nat.le_trans hWV (Nat.le_of_lt hz3)) hown1 (fun e he=>(hok e he).2.one) hs1 hz3 hbbl hcell ?_
    intro A2 V2 v2 d0 d1 d2 d3 d4 d5
    have hlen2:(es.take p++((tk,oc),s)::es.drop p).length=es.length+1:=by
     simp only[List.length_append,List.length_cons,List.length_take,List.length_drop]
     omega
    rw[← hlen2] at d5
    have hbV2:Below W1.heap.size V1 V2:=⟨d4.os,d4.tape,d4.output,d4.size,d4.block⟩
    refine fin A2 V2 _ v2 d0 (by rw[d1];exact hCd) (by rw[d2 5 zH zH zH,hCk 5 zH zH,k5]) (by rw[d2 17 zH zH zH,hCk 17 zH zH,k17]) (by rw[d2 18 zH zH zH,hCk 18 zH zH,k18]) (by rw[d2 19 zH zH zH,hCk 19 zH zH,k19]) (hbV1.trans hbV2) d3 d5 ?_ (by rw[hlen2];omega) ?_ _ (fun A' h=>h)
    ·intro e he
     rcases List.mem_append.1 he with h | h
     ·exact hok e (List.mem_of_mem_take h)
     ·rcases List.mem_cons.1 h with rfl | h
      ·exact ⟨hkey,hoc⟩
      ·exact hok e (List.mem_of_mem_drop h)
    ·rw[if_neg hdup.1,hins,if_neg hdup.2]
     simp only[List.map_append,List.map_cons,List.map_take,List.map_drop]
 ·rintro A V ⟨hm,hs,hd,g5,g17,g18,g19,hbV,es,v6,g6,hown,hok,hesl,hmap⟩
  rw[Nat.sub_zero] at g19 hmap
  rw[List.take_length] at hmap
  refine vX ?_
  refine qV (k:=.i64) (m:=(u'.length:Int)) (n:=(u'.length:Int)) g19 g18 ?_
  refine dn ?_
  refine vS (vC (t:=false) ?_ (fun h=>by cases h) ?_)
  ·simp (disch:=(try simp only[sP]);omega) only[eV]
   simp only[Value.bool.injEq,decide_eq_false_iff_not]
   omega
  intro _
  refine xb ?_
  simp only[Exit.then,Exit.inBlock,if_true]
  refine vN (vX (rM (rA (dn (vS (vT ?_))))))
  have hfin:Below U w V:=hbU1.trans (hbV.mono hU1)
  refine ⟨by simp only[dF];exact hd,v6,rO zA,?_,hb1.trans (hbV.mono hb1.size)⟩
  exact ⟨es,jM hown hb1.size,hok,by rw[← hmap]⟩
end
end Go.Km
namespace Go.Km
open Go Go.RowKit
attribute [local irreducible] vc rO_ qz qJ qF
def SF.num:SF->Bool
 | .mk kind _ _ _ _ _ _ _=>decide (1<=kind)&&decide (kind<=6)
section
variable {P : Program} {E : Env} {w : World} {U : Nat}
set_option maxHeartbeats 1000000 in
theorem s_usual (H:SEnv P E) (HT:STexts P E) {f:SF} {cs ts:List Value} {t:Tr} (hr:f.Rep w U cs) (hrt:t.Rep w U ts) (hU:U<=w.heap.size) (hk:f.num=true) :
  qa P E.sUsual #[.agg cs.toArray,.agg ts.toArray] w fun v w'=>v=.bool (f.usual t)/\Below U w w':=by
 cases f with
 | mk kind fr to nul tag df el sub =>
 cases t with
 | mk n s tnl l u =>
 obtain ⟨sv,rfl,hsub⟩:=hr
 obtain ⟨s1,lv,uv,rfl,ho,hu,hl⟩:=hrt
 simp only[SF.num,Bool.and_eq_true,decide_eq_true_eq] at hk
 obtain ⟨k,rfl⟩:∃ k:Nat,kind=(k:Int):=⟨kind.toNat,by omega⟩
 have husual:(SF.mk (k:Int) fr to nul tag df el sub).usual (.mk n s tnl l u)=decide (be (xr k) n=be (xr k) df):=by
  simp only[SF.usual,show ¬ (k:Int)=0 by omega,show ¬ (k:Int)=7 by omega,show ¬ (k:Int)=10 by omega,show ¬ (k:Int)=11 by omega,if_false,show ((k:Int)=8)=False from eq_false zH,show ((k:Int)=9)=False from eq_false zH,decide_false,Bool.or_self,Bool.false_eq_true,Int.toNat_natCast]
  by_cases h:be (xr k) n=be (xr k) df<;>simp[h]
 rw[husual]
 refine qa.enter HT.usual zS ?_
 intro a hsz hdf harg
 have e0:a.eval (.tmp 0)=.agg [Value.int .i64 k,.int .i64 fr,.int .i64 to,.int .i64 nul,.int .i64 tag,.int .i64 df,.int .i64 el,sv].toArray:=harg 0 _ rfl
 have e1:a.eval (.tmp 1)=.agg [Value.int .i64 n,s1,.bool tnl,lv,uv].toArray:=harg 1 _ rfl
 unfold c_sUsual
 refine vX ?_
 refine xI (v:=.agg [Value.int .i64 k,.int .i64 fr,.int .i64 to,.int .i64 nul,.int .i64 tag,.int .i64 df,.int .i64 el,sv].toArray) zA ?_
 refine xI (v:=.agg [Value.int .i64 n,s1,.bool tnl,lv,uv].toArray) zA ?_
 refine rA (dn ?_)
 generalize hw1:w.alloc (.cells (Value.agg [Value.int .i64 k,.int .i64 fr,.int .i64 to,.int .i64 nul,.int .i64 tag,.int .i64 df,.int .i64 el,sv].toArray).cells E.tFld)=W1
 have hb1:Below U w W1:=by rw[← hw1];exact (Below.refl U w).alloc (o:=.cells _ _) hU
 have hz1:W1.heap.size=w.heap.size+1:=by rw[← hw1];simp
 have f0:W1.cell? ⟨w.heap.size,0,none⟩=some (.int .i64 k):=by rw[← hw1];exact qs w _ E.tFld (i:=0) rfl
 have f5:W1.cell? ⟨w.heap.size,5,none⟩=some (.int .i64 df):=by rw[← hw1];exact qs w _ E.tFld (i:=5) rfl
 clear hw1
 generalize hw2:W1.alloc (.cells (Value.agg [Value.int .i64 n,s1,.bool tnl,lv,uv].toArray).cells E.tT)=W
 have hb2:Below W1.heap.size W1 W:=by rw[← hw2];exact (Below.refl W1.heap.size W1).alloc (o:=.cells _ _) (Nat.le_refl _)
 have hz2:W.heap.size=W1.heap.size+1:=by rw[← hw2];simp
 have t0:W.cell? ⟨W1.heap.size,0,none⟩=some (.int .i64 n):=by rw[← hw2];exact qs W1 _ E.tT (i:=0) rfl
 clear hw2
 have f0:W.cell? ⟨w.heap.size,0,none⟩=some (.int .i64 k):=by rw[hb2.cell (p:=⟨w.heap.size,0,none⟩) (show w.heap.size<W1.heap.size by omega)];exact f0
 have f5:W.cell? ⟨w.heap.size,5,none⟩=some (.int .i64 df):=by rw[hb2.cell (p:=⟨w.heap.size,5,none⟩) (show w.heap.size<W1.heap.size by omega)];exact f5
 have hUW1:U<=W1.heap.size:=by omega
 have hb:Below U w W:=hb1.trans (hb2.mono hUW1)
 have hUW:U<=W.heap.size:=by omega
 generalize hA:((a.put (some 2) _).put (some 3) _).put (some 4) _=A
 have g2:A.eval (.tmp 2)=.pointer (some ⟨w.heap.size,0,none⟩):=by rw[← hA];exact zE
 have g3:A.eval (.tmp 3)=.pointer (some ⟨W1.heap.size,0,none⟩):=by rw[← hA];exact zE
 have hs:A.tmps.size=91:=by rw[← hA];simp only[zP];exact hsz
 have hd:A.defers=[]:=by rw[← hA];simp only[dF];exact hdf
 clear hA
 refine vS (vX ?_)
 refine rF (b:=w.heap.size) (o:=0) zA (ql H.fFld (by decide)) ?_
 refine rL (b:=w.heap.size) (o:=0+0) zE H.oInt f0 ?_
 refine dn ?_
 generalize hA:(A.put (some 9) _).put (some 10) _=A1
 have g2:A1.eval (.tmp 2)=.pointer (some ⟨w.heap.size,0,none⟩):=by rw[← hA];exact zA
 have g3:A1.eval (.tmp 3)=.pointer (some ⟨W1.heap.size,0,none⟩):=by rw[← hA];exact zA
 have g10:A1.eval (.tmp 10)=.int .i64 k:=by rw[← hA];exact zE
 have hs:A1.tmps.size=91:=by rw[← hA];simp only[zP];exact hs
 have hd:A1.defers=[]:=by rw[← hA];simp only[dF];exact hd
 clear hA
 have ne:∀ m:Int,(m=0\/7<=m)->((k:Int)==m)=false:=fun m h=>by simp only[beq_eq_false_iff_ne];omega
 refine vS (qh ?_)
 refine vX ?_
 refine xy (k:=.i64) (m:=(k:Int)) (n:=0) zA rfl ?_
 rw[ne 0 zH]
 refine rA (dn ?_)
 refine vS (vC (t:=false) zM (fun h=>by cases h) (fun _=>?_))
 refine vX ?_
 refine xy (k:=.i64) (m:=(k:Int)) (n:=7) zA rfl ?_
 rw[ne 7 zH]
 refine rA (dn ?_)
 refine vS (vC (t:=false) zM (fun h=>by cases h) (fun _=>?_))
 refine vS (vX ?_)
 refine xy (k:=.i64) (m:=(k:Int)) (n:=8) zA rfl ?_
 rw[ne 8 zH]
 refine rA (dn ?_)
 refine vS (vC (t:=false) zM (fun h=>by cases h) (fun _=>?_))
 refine vR zS ?_
 refine xy (k:=.i64) (m:=(k:Int)) (n:=9) zA rfl ?_
 rw[ne 9 zH]
 refine rA (dn (vN ?_))
 refine vS (vC (t:=false) zM (fun h=>by cases h) (fun _=>?_))
 refine vX ?_
 refine xy (k:=.i64) (m:=(k:Int)) (n:=11) zA rfl ?_
 rw[ne 11 zH]
 refine rA (dn ?_)
 refine vS (vC (t:=false) zM (fun h=>by cases h) (fun _=>?_))
 refine vX ?_
 refine xy (k:=.i64) (m:=(k:Int)) (n:=10) zA rfl ?_
 rw[ne 10 zH]
 refine rA (dn ?_)
 refine vS (vC (t:=false) zM (fun h=>by cases h) (fun _=>?_))
 refine vK ?_
 generalize hA:Act.put _ (some 54) _=B
 have g2:B.eval (.tmp 2)=.pointer (some ⟨w.heap.size,0,none⟩):=by rw[← hA];exact zA
 have g3:B.eval (.tmp 3)=.pointer (some ⟨W1.heap.size,0,none⟩):=by rw[← hA];exact zA
 have hsB:B.tmps.size=91:=by rw[← hA];simp only[zP];exact hs
 have hdB:B.defers=[]:=by rw[← hA];simp only[dF];exact hd
 clear hA
 simp only[Exit.then,Exit.inBlock]
 repeat (refine vN ?_)
 have hw8:xr k<=8:=by unfold xr;repeat' (first | omega | split)
 have hbd:Below W.heap.size W { W with drawn:=W.drawn+1 }:=⟨rfl,rfl,rfl,Nat.le_refl _,fun _ _=>rfl⟩
 have mkS:∀ w',Below W.heap.size W w'->w'.cell? ⟨W1.heap.size,0,none⟩=some (.int .i64 n)/\w'.cell? ⟨w.heap.size,0,none⟩=some (.int .i64 k)/\w'.cell? ⟨w.heap.size,5,none⟩=some (.int .i64 df):=fun w' h =>
  ⟨by rw[h.cell (p:=⟨W1.heap.size,0,none⟩) (show W1.heap.size<W.heap.size by omega)];exact t0,by rw[h.cell (p:=⟨w.heap.size,0,none⟩) (show w.heap.size<W.heap.size by omega)];exact f0,by rw[h.cell (p:=⟨w.heap.size,5,none⟩) (show w.heap.size<W.heap.size by omega)];exact f5⟩
 have hS:=mkS _ hbd
 refine vS (xd [(0,true),(1,true),(2,true),(3,true),(6,true),(7,true),(8,true),(9,true),(4,false),(5,false),(10,false),(11,false),(12,false),(13,true)] (fun w'=>w'.cell? ⟨W1.heap.size,0,none⟩=some (.int .i64 n)/\w'.cell? ⟨w.heap.size,0,none⟩=some (.int .i64 k)/\w'.cell? ⟨w.heap.size,5,none⟩=some (.int .i64 df)) HT.mixed (by kernel_rfl) rfl (by kernel_rfl) (fun _ _ _ _ h=>False.elim h) ?_)
 refine dP rfl rfl rfl (wN rfl) (by first | (simp only[zP,hsB];decide) | (rw[hsB];decide)) hS (fun w' hS'=>rF (b:=W1.heap.size) (o:=0) zA (ql H.fTree (by decide)) (dn ⟨rfl,rfl,rfl⟩)) ?_
 refine dP rfl rfl rfl (wN rfl) (by simp only[zP,hsB];decide) hS (fun w' hS'=>rL (b:=W1.heap.size) (o:=0+0) (v:=.int .i64 n) zM H.oI64 hS'.1 (dn ⟨rfl,rfl,rfl⟩)) ?_
 refine dP rfl rfl rfl (wN rfl) (by simp only[zP,hsB];decide) hS (fun w' hS'=>rF (b:=w.heap.size) (o:=0) zA (ql H.fFld (by decide)) (dn ⟨rfl,rfl,rfl⟩)) ?_
 refine dP rfl rfl rfl (wN rfl) (by simp only[zP,hsB];decide) hS (fun w' hS'=>rL (b:=w.heap.size) (o:=0+0) (v:=.int .i64 k) zM H.oInt hS'.2.1 (dn ⟨rfl,rfl,rfl⟩)) ?_
 refine dP rfl rfl rfl (wN rfl) (by simp only[zP,hsB];decide) hS (fun w' hS'=>rF (b:=w.heap.size) (o:=0) zA (ql H.fFld (by decide)) (dn ⟨rfl,rfl,rfl⟩)) ?_
 refine dP rfl rfl rfl (wN rfl) (by simp only[zP,hsB];decide) hS (fun w' hS'=>rL (b:=w.heap.size) (o:=0+5) (v:=.int .i64 df) zM H.oI64 hS'.2.2 (dn ⟨rfl,rfl,rfl⟩)) ?_
 refine dP rfl rfl rfl (wN rfl) (by simp only[zP,hsB];decide) hS (fun w' hS'=>rF (b:=w.heap.size) (o:=0) zA (ql H.fFld (by decide)) (dn ⟨rfl,rfl,rfl⟩)) ?_
 refine dP rfl rfl rfl (wN rfl) (by simp only[zP,hsB];decide) hS (fun w' hS'=>rL (b:=w.heap.size) (o:=0+0) (v:=.int .i64 k) zM H.oInt hS'.2.1 (dn ⟨rfl,rfl,rfl⟩)) ?_
 refine qx rfl (wN rfl) ?_
 refine q8 (args:=#[.int .i64 k]) ?_ (s_width HT.width zH) ?_
 ·simp only[lM]
  exact zE
 rintro v w2 ⟨rfl,rfl⟩
 refine dn (qw hS ?_)
 refine qx rfl (wN rfl) ?_
 refine q8 (args:=#[.int .i64 n,.int .i64 (xr k:Nat)]) ?_ (zJ (U:=W.heap.size) HT.fixed H.row H.u8 H.i64 H.int hw8 (Nat.le_refl _)) ?_
 ·simp only[lM]
  exact zE
 rintro v3 w3 ⟨h3,hb3⟩
 have hW3:Below W.heap.size W w3:=hbd.trans hb3
 refine dn (qw (mkS _ hW3) ?_)
 refine qx rfl (wN rfl) ?_
 refine q8 (args:=#[.int .i64 k]) ?_ (s_width HT.width zH) ?_
 ·simp only[lM]
  exact zE
 rintro v w4 ⟨rfl,rfl⟩
 refine dn (qw (mkS _ hW3) ?_)
 refine qx rfl (wN rfl) ?_
 refine q8 (args:=#[.int .i64 df,.int .i64 (xr k:Nat)]) ?_ (zJ (U:=w4.heap.size) HT.fixed H.row H.u8 H.i64 H.int hw8 (Nat.le_refl _)) ?_
 ·simp only[lM]
  exact zE
 rintro v5 w5 ⟨h5,hb5⟩
 have hW5:Below W.heap.size W w5:=hW3.trans (hb5.mono hW3.size)
 have h35:=qE h3 hb5
 refine dn (qw (mkS _ hW5) ?_)
 refine qx rfl (wN rfl) ?_
 have hl1:(be (xr k) n).length<=big:=by rw[qG];unfold big;omega
 have hl2:(be (xr k) df).length<=big:=by rw[qG];unfold big;omega
 refine q8 (args:=#[v3,v5]) ?_ (vU (U:=w5.heap.size) H.row H.oU8 HT.mixed HT.same (xl.of_own h35) (xl.of_own h5) hl1 hl2) ?_
 ·simp only[lM]
  exact zE
 rintro v6 w6 ⟨rfl,hb6⟩
 have hW6:Below W.heap.size W w6:=hW5.trans (hb6.mono hW5.size)
 refine dn (qw (mkS _ hW6) ?_)
 refine dP rfl rfl rfl (wN rfl) (by simp only[zP,hsB];decide) (mkS _ hW6) (fun w' hS'=>rA (dn ⟨rfl,rfl,rfl⟩)) ?_
 refine xC ?_
 refine vS (vT ?_)
 exact ⟨by simp only[dF];exact hdB,_,rO zE,rfl,hb.trans (hW6.mono hUW)⟩
end
end Go.Km
namespace Go.Km
open Go Go.RowKit
attribute [local irreducible] vc rO_ qz qJ qF
theorem ko {w w':World} {B:Nat} {e:TypeId} {s:Nat} {v v2:Value} {n:Nat} {xs:List Value} (h:w.ownsRow B e s v n xs) (hg:w.grownBy w' v2.ownBlock) (hne:∀ g,v.ownBlock=some g->v2.ownBlock≠some g):w'.ownsRow B e s v n xs:=by
 refine ⟨h.1,?_⟩
 rcases h.2 with h | ⟨g,cap,cur,h1,h2,h3,h4⟩
 ·exact .inl h
 ·have hl:g<w.heap.size:=(Array.getElem?_eq_some_iff.1 h3).1
  exact .inr ⟨g,cap,cur,h1,h2,by rw[hg.block g hl (fun he=>hne g (by rw[h1];rfl) he.symm)];exact h3,h4⟩
theorem own_low {w w':World} {B C:Nat} {e:TypeId} {s:Nat} {v:Value} {n:Nat} {xs:List Value} (h:w.ownsRow B e s v n xs) (hb:Below C w w') (hlt:∀ g,v.ownBlock=some g->g<C):w'.ownsRow B e s v n xs:=by
 refine ⟨h.1,?_⟩
 rcases h.2 with h | ⟨g,cap,cur,h1,h2,h3,h4⟩
 ·exact .inl h
 ·exact .inr ⟨g,cap,cur,h1,h2,by rw[hb.block g (hlt g (by rw[h1];rfl))];exact h3,h4⟩
section
variable {P : Program} {E : Env} {w : World} {U : Nat}
set_option maxHeartbeats 1000000 in
theorem s_partU2 (H:SEnv P E) (HL:SLay P E) (HT:STexts P E) {fs:SFs} {sv uv v9 v10:Value} {u:List (Nat × List UInt8)} {b C c0:Nat} {A:Act} {W0:World} {Q:Exit->Act->World->Prop} {xs ys0:List UInt8}
  (hs:A.tmps.size=132) (hd:A.defers=[]) (f0:A.eval (.tmp 0)=sv) (f7:A.eval (.tmp 7)=.pointer (some ⟨b,0,none⟩)) (f9:A.eval (.tmp 9)=v9) (f10:A.eval (.tmp 10)=v10) (f11:A.eval (.tmp 11)=.int .i64 (c0:Int)) (hc0:c0<=big) (hUC:U<=C) (hCW:C<=W0.heap.size) (h9:∀ g,v9.ownBlock=some g->g<C)
  (hsf:SlF w U sv fs) (htg:∀ t ∈ fs.tags,t<65536) (hfl:fs.len<=big) (hc:W0.cell? ⟨b,4,none⟩=some uv) (hu:kD w U uv u) (hU:U<=w.heap.size) (hw:Below U w W0) (hown:W0.ownsRow U E.tU8 1 v9 xs.length (xs.map bv)) (hown10:W0.ownsRow C E.tU8 1 v10 ys0.length (ys0.map bv))
  {T:List UInt8} (hT:T=ys0++((unk (known fs.tags) u).map fun x=>j8 x.1 (x.2.take 32767)).flatten) (hbig:(xs++Go.Km.uvar (c0+(unk (known fs.tags) u).length)++T).length<=big)
  (hQ:∀ a' w',Out P #[.tmp 8] (fun v w'=>w'.ownsRow U E.tU8 1 v (xs++Go.Km.uvar (c0+(unk (known fs.tags) u).length)++T).length ((xs++Go.Km.uvar (c0+(unk (known fs.tags) u).length)++T).map bv)/\Below U w w') .ret a' w'->Q .ret a' w') :
  vc P (sq [
  (sq [(rg [(oQ 97 (.move (.tmp 0)) E.tFlds),
    (oQ 98 (.fieldAddr E.tT (.tmp 7) 4) 0),
    (oQ 99 (.load E.tK (.tmp 98)) E.tK),
    (oQ 100 (.call { callee:=.value (.func E.sUnknown),args:=#[(.tmp 97),(.tmp 99)],argTypes:=#[E.tFlds,E.tK] }) E.tK),
    (oQ 101 (.call { callee:=.builtin .len,args:=#[(.tmp 100)],argTypes:=#[E.tK] }) E.tI),
    (oQ 102 (.move (.const (.int .i64 0))) E.tI)]),
   (.block 6 (.loop (sq [(rg [(oQ 103 (.binOp .lss E.tI (.tmp 102) (.tmp 101) E.tI) 0)]),
      (.cond (.tmp 103)
       .skip
       (.exit 6)),
      (.block 7 (sq [(rg [(oQ 104 (.indexAddr E.tK (.tmp 100) (.tmp 102)) 0),
         (oQ 105 (.load E.tUnk (.tmp 104)) E.tUnk),
         (oQ 19 (.alloc E.tUnk) 0),
         ⟨none,.store E.tUnk (.tmp 19) (.tmp 105),0,"",#[],none⟩]),
        (rg [(oQ 106 (.fieldAddr E.tUnk (.tmp 19) 1) 0),
         (oQ 107 (.load E.tB (.tmp 106)) E.tB),
         (oQ 108 (.call { callee:=.value (.func E.sWhole),args:=#[(.tmp 107)],argTypes:=#[E.tB] }) E.tB),
         (oQ 20 (.assign (.tmp 108)) E.tB)]),
        (rg [(oQ 109 (.move (.tmp 10)) E.tB),
         (oQ 110 (.fieldAddr E.tUnk (.tmp 19) 0) 0),
         (oQ 111 (.load E.tW (.tmp 110)) E.tW),
         (oQ 112 (.convert E.tW E.tU64 (.tmp 111)) E.tU64),
         (oQ 113 (.call { callee:=.value (.func E.sUvar),args:=#[(.tmp 112)],argTypes:=#[E.tU64] }) E.tB),
         (oQ 114 (.call { callee:=.builtin .append,args:=#[(.tmp 109),(.tmp 113)],argTypes:=#[E.tB,E.tB] }) E.tB),
         (oQ 115 (.move (.tmp 20)) E.tB),
         (oQ 116 (.call { callee:=.builtin .len,args:=#[(.tmp 115)],argTypes:=#[E.tB] }) E.tI),
         (oQ 117 (.convert E.tI E.tU64 (.tmp 116)) E.tU64),
         (oQ 118 (.call { callee:=.value (.func E.sUvar),args:=#[(.tmp 117)],argTypes:=#[E.tU64] }) E.tB),
         (oQ 119 (.call { callee:=.builtin .append,args:=#[(.tmp 114),(.tmp 118)],argTypes:=#[E.tB,E.tB] }) E.tB),
         (oQ 120 (.move (.tmp 20)) E.tB),
         (oQ 121 (.call { callee:=.builtin .append,args:=#[(.tmp 119),(.tmp 120)],argTypes:=#[E.tB,E.tB] }) E.tB),
         (oQ 10 (.assign (.tmp 121)) E.tB)]),
        (rg [(oQ 122 (.move (.tmp 11)) E.tI),
         (oQ 123 (.binOp .add E.tI (.tmp 122) (.const (.int .i64 1)) E.tI) E.tI),
         (oQ 11 (.assign (.tmp 123)) E.tI)])])),
      (rg [(oQ 124 (.binOp .add E.tI (.tmp 102) (.const (.int .i64 1)) E.tI) E.tI),
       (oQ 102 (.move (.tmp 124)) E.tI)])])))]),
  (rg [(oQ 125 (.move (.tmp 9)) E.tB),
   (oQ 126 (.move (.tmp 11)) E.tI),
   (oQ 127 (.convert E.tI E.tU64 (.tmp 126)) E.tU64),
   (oQ 128 (.call { callee:=.value (.func E.sUvar),args:=#[(.tmp 127)],argTypes:=#[E.tU64] }) E.tB),
   (oQ 129 (.call { callee:=.builtin .append,args:=#[(.tmp 125),(.tmp 128)],argTypes:=#[E.tB,E.tB] }) E.tB),
   (oQ 130 (.move (.tmp 10)) E.tB),
   (oQ 131 (.call { callee:=.builtin .append,args:=#[(.tmp 129),(.tmp 130)],argTypes:=#[E.tB,E.tB] }) E.tB),
   (oQ 8 (.assign (.tmp 131)) E.tB)]),
  .ret]) Q A W0:=by
 have hUW0:U<=W0.heap.size:=Nat.le_trans hU hw.size
 have hslU:=rB H.rUnks
 have hslB:=rB H.row
 obtain ⟨z,hz,hzc⟩:=vk H.rUnks
 have hun32:=unk_len (known fs.tags) u
 unfold big at hc0
 refine vS (vX (rM ?_))
 refine rF (b:=b) (o:=0) zA (ql H.fTree (by decide)) ?_
 refine rL (b:=b) (o:=0+4) zE H.oUnks (by simpa using hc) ?_
 refine q8 (args:=#[sv,uv]) ?_ (s_unknownN H HL HT U W0 sv uv fs u hUW0 (hsf.below hw) htg hfl (hu.below hw)) ?_
 ·simp only[lM]
  simp (disch:=(try simp only[sP]);omega) only[eV,f0]
 rintro rv W2 ⟨⟨es,hrow,hes,hmap⟩,hb2⟩
 generalize hun:unk (known fs.tags) u=un at *
 have hel:es.length=un.length:=by rw[← hmap,List.length_map]
 have hW02:W0.heap.size<=W2.heap.size:=hb2.size
 obtain ⟨ad,cap,hrvf⟩:∃ ad cap,rv=.slice ad un.length cap:=by
  rcases jY hrow with ⟨h,h0⟩ | ⟨g,cap,h,_⟩
  ·exact ⟨none,0,by rw[h,← hel,h0]⟩
  ·exact ⟨_,cap,by rw[h,hel]⟩
 refine x7 (ad:=ad) (n:=un.length) (c:=cap) hslU zA ?_
 refine rM (dn ?_)
 have hUW2:U<=W2.heap.size:=Nat.le_trans hUW0 hb2.size
 have hown2:=qE hown hb2
 have hown102:=qE hown10 hb2
 have hrvlt:∀ g,rv.ownBlock=some g->W0.heap.size<=g/\g<W2.heap.size:=fun g hg=>by
  rcases jY hrow with ⟨h,h0⟩ | ⟨g',cap,h,_,h2,h3⟩
  ·rw[h] at hg;cases hg
  ·rw[h] at hg
   simp only[Value.ownBlock,Option.some.injEq] at hg
   omega
 refine vS (qh (xG (fun m B V=>m<=un.length/\B.tmps.size=132/\B.defers=[]/\B.eval (.tmp 9)=v9/\B.eval (.tmp 100)=rv/\B.eval (.tmp 101)=.int .i64 (un.length:Int)/\B.eval (.tmp 102)=.int .i64 ((un.length-m:Nat):Int)/\B.eval (.tmp 11)=.int .i64 ((c0+(un.length-m):Nat):Int) ∧
  W2.heap.size<=V.heap.size/\Below C W2 V/\V.ownsRow W0.heap.size E.tUnk 2 rv es.length (fl es)/\(∀ g,(B.eval (.tmp 10)).ownBlock=some g->g<W0.heap.size\/W2.heap.size<=g) ∧
  ∃ ys:List UInt8,V.ownsRow C E.tU8 1 (B.eval (.tmp 10)) ys.length (ys.map bv)/\ys=ys0++((un.take (un.length-m)).map fun x=>j8 x.1 (x.2.take 32767)).flatten) un.length ?_ ?_ ?_))
 ·refine ⟨Nat.le_refl _,by simp only[zP];exact hs,by simp only[dF];exact hd,zA,zE,zE,?_,?_,Nat.le_refl _,Below.refl _ _,hrow,?_,ys0,?_,by simp⟩
  ·simp (disch:=(try simp only[sP]);omega) only[eV]
   simp
  ·simp (disch:=(try simp only[sP]);omega) only[eV,f11]
   simp
  ·rw[show Act.eval _ (.tmp 10)=v10 by exact zA]
   exact fun g hg=>.inl (xA hown10 hg)
  ·rw[show Act.eval _ (.tmp 10)=v10 by exact zA]
   exact hown102
 ·rintro m B V ⟨hm,hsB,hdB,g9,g100,g101,g102,g11,hWV,hbV,hrowV,hblk,ys,hownY,hys⟩
  have hi:un.length-(m+1)<un.length:=by omega
  have him:un.length-m=(un.length-(m+1))+1:=by omega
  rw[him]
  generalize hii:un.length-(m+1)=i at *
  have hCV:C<=V.heap.size:=by omega
  obtain ⟨q,cap',hrv',hq⟩:∃ q cap,rv=.slice (some ⟨q,0,none⟩) un.length cap/\q<V.heap.size:=by
   rcases jY hrowV with ⟨_,h0⟩ | ⟨q,cap,h1,_,_,h2⟩
   ·omega
   ·exact ⟨q,cap,by rw[h1,hel],h2⟩
  have hie:i<es.length:=by omega
  have hcs:qb V q (0+i*2) [.int .u32 (es[i].1.1:Int),es[i].2]:=by
   rw[Nat.zero_add]
   rw[hrv',← hel] at hrowV
   exact ym hrowV (List.getElem?_eq_getElem hie)
  obtain ⟨hkey,hoc0⟩:=hes es[i] (List.getElem_mem hie)
  have hxi:es[i].1=un[i]:=by
   have:=congrArg (·[i]?) hmap
   simp[hie,hi] at this
   exact this
  have hbU2:Below U W0 V:=(hb2.mono hUW0).trans (hbV.mono hUC)
  have hoc:xM V U es[i].2 es[i].1.2:=hoc0.below hbU2
  generalize es[i].2=s at *
  rw[hxi] at hkey hcs hoc
  have hsucc:=y2 un (fun x=>j8 x.1 (x.2.take 32767)) i hi
  have hle:=gc un (fun x=>j8 x.1 (x.2.take 32767)) (i+1)
  rw[hsucc] at hle
  have hTl:T.length=ys0.length+((un.map fun x=>j8 x.1 (x.2.take 32767)).flatten).length:=by rw[hT,List.length_append]
  have hyl:ys.length=ys0.length+((un.take i).map fun x=>j8 x.1 (x.2.take 32767)).flatten.length:=by rw[hys,List.length_append]
  rw[hsucc,← List.append_assoc,← hys]
  generalize hx:un[i]=x at *
  obtain ⟨key,oc⟩:=x
  simp only at hkey hcs hoc hle ⊢
  refine vX ?_
  refine qV (k:=.i64) (m:=(i:Int)) (n:=(un.length:Int)) g102 g101 ?_
  refine dn ?_
  refine vS (vC (t:=true) ?_ ?_ (fun h=>by cases h))
  ·simp (disch:=(try simp only[sP]);omega) only[eV]
   simp only[Value.bool.injEq,decide_eq_true_eq]
   omega
  intro _
  refine vK ?_
  refine vS (qh (vX ?_))
  refine qA (k:=.i64) (j:=i) (b:=q) (o:=0) (len:=un.length) (cap:=cap') hslU (by simp (disch:=(try simp only[sP]);omega) only[eV,g100,hrv']) zA hi ?_
  refine qf (b:=q) (o:=0+i*2) (cs:=[.int .u32 key,s]) zE H.aUnk hcs ?_
  refine qI hz ?_
  have hs1:s.oneCell'=true:=hoc.one
  refine qu (b:=V.heap.size) (o:=0) (cs:=[.int .u32 key,s]) zE zE (by intro v hv;simp only[List.mem_cons,List.not_mem_nil,or_false] at hv;rcases hv with rfl | rfl;rfl;exact hs1) H.aUnk ?_ ?_
  ·intro j hj
   rw[Nat.zero_add]
   exact qm V _ _ (by rw[hzc];simpa using hj)
  refine dn ?_
  have hcell:∀ (j:Nat) (v:Value),[Value.int .u32 key,s][j]? = some v->(setCells (V.alloc (.cells z.cells E.tUnk)) V.heap.size 0 [.int .u32 key,s]).cell? ⟨V.heap.size,0+j,none⟩=some v:=fun j v hv=>by
   refine qg V.heap.size [.int .u32 key,s] _ 0 (fun j hj=>?_) j v hv
   rw[Nat.zero_add]
   exact (qm V z.cells E.tUnk (by rw[hzc];simpa using hj)).1
  have k0:=hcell 0 _ rfl
  have k1:=hcell 1 _ rfl
  have hb3:Below V.heap.size V (setCells (V.alloc (.cells z.cells E.tUnk)) V.heap.size 0 [.int .u32 key,s]):=by
   refine ((Below.refl V.heap.size V).alloc (o:=.cells _ _) (Nat.le_refl _)).trans ((qe V.heap.size [.int .u32 key,s] _ 0).below zS (by rintro k i hk ⟨rfl,_,_⟩;omega))
  generalize setCells (V.alloc (.cells z.cells E.tUnk)) V.heap.size 0 [.int .u32 key,s]=V1 at k0 k1 hb3 ⊢
  clear hcell
  obtain ⟨ad2,cap2,rfl,hcap2,htake⟩:=hoc.form
  have hlt:oc.take (min oc.length 32767)=oc.take 32767:=by
   rcases Nat.le_total oc.length 32767 with h | h
   ·rw[Nat.min_eq_left h,List.take_length,List.take_of_length_le h]
   ·rw[Nat.min_eq_right h]
  have hln:min oc.length 32767=(oc.take 32767).length:=by rw[List.length_take,Nat.min_comm]
  have ho2:∀ w2,Below U V w2->xM w2 U (.slice ad2 (oc.take 32767).length cap2) (oc.take 32767):=by
   intro w2 hw2
   have:=htake (min oc.length 32767) w2 (Nat.min_le_left _ _) hw2
   rwa [hlt,hln] at this
  have hol:(oc.take 32767).length<=32767:=by rw[← hln];exact Nat.min_le_right _ _
  refine vX ?_
  refine rF (b:=V.heap.size) (o:=0) zE (ql H.fUnk (by decide)) ?_
  refine rL (b:=V.heap.size) (o:=0+1) zE H.oBytes k1 ?_
  refine q8 (args:=#[.slice ad2 oc.length cap2]) ?_ (s_first (T:=E.tB) (e:=E.tU8) (c:=.skip) (.inl hslB) H.int hcap2 HT.whole) ?_
  ·simp only[lM]
   exact zE
  rintro v w' ⟨rfl,rfl⟩
  rw[hln]
  generalize oc.take 32767=s8 at *
  clear hlt hln htake
  refine rA (dn (vX (rM ?_)))
  refine rF (b:=V.heap.size) (o:=0) zE (ql H.fUnk (by decide)) ?_
  refine rL (b:=V.heap.size) (o:=0+0) zE H.oU32 k0 ?_
  refine qL (k:=.u32) (k':=.u64) (m:=(key:Int)) H.u32 H.u64 zE ?_
  have hwk:IntKind.u64.wrap (key:Int)=(key:Int):=by rw[zj];omega
  rw[hwk]
  refine q8 (args:=#[.int .u64 (key:Int)]) ?_ (yc (U:=V.heap.size) HT.uvar H.row H.u8 H.u64 zH hb3.size) ?_
  ·simp only[lM]
   exact zE
  rintro v3 w3 ⟨h3,hb4⟩
  have hV3:=hb3.trans hb4
  have hownY3:=qE hownY hV3
  have hrow3:=qE hrowV hV3
  have htot:ys.length+(Go.Km.uvar key).length+(Go.Km.uvar s8.length).length+s8.length<=big:=by
   have hwl:(j8 key s8).length=(Go.Km.uvar key).length+(Go.Km.uvar s8.length).length+s8.length:=by simp only[j8,List.length_append]
   rw[List.length_append,hwl] at hle
   simp only[List.length_append] at hbig
   omega
  generalize hv10:B.eval (.tmp 10)=vt at *
  have hne10:∀ (x:Value),(∀ g,x.ownBlock=some g->g<W0.heap.size\/W2.heap.size<=g)->∀ g,rv.ownBlock=some g->x.ownBlock≠some g:=fun x hx g hg he=>by
   have:=hrvlt g hg
   have:=hx g he
   omega
  refine zl (sz:=1) (U:=C) (v:=vt) (m:=(Go.Km.uvar key).length) (news:=(Go.Km.uvar key).map bv) H.row zA zE hownY3 (Nat.le_trans hCV hV3.size) (xJ hslB h3 (xm _)) zH ?_
  intro v5 w5 h5 hb5 hg5 hn5
  rw[← List.length_append,← List.map_append] at h5
  have hrow5:=ko hrow3 hg5 (hne10 vt hblk)
  have hblk5:∀ g,v5.ownBlock=some g->g<W0.heap.size\/W2.heap.size<=g:=fun g hg=>by
   rcases hn5 g hg with h | h
   ·exact hblk g h
   ·have:=hV3.size
    omega
  have hV5:Below C V w5:=(hV3.mono hCV).trans hb5
  refine rM ?_
  refine x7 (ad:=ad2) (n:=s8.length) (c:=cap2) hslB zE ?_
  refine qL (k:=.i64) (k':=.u64) (m:=(s8.length:Int)) H.int H.u64 zE ?_
  have hwk2:IntKind.u64.wrap (s8.length:Int)=(s8.length:Int):=by rw[zj];omega
  rw[hwk2]
  refine q8 (args:=#[.int .u64 (s8.length:Int)]) ?_ (yc (U:=w5.heap.size) HT.uvar H.row H.u8 H.u64 zH (Nat.le_refl _)) ?_
  ·simp only[lM]
   exact zE
  rintro v6 w6 ⟨h6,hb6⟩
  have hW5:C<=w5.heap.size:=Nat.le_trans hCV hV5.size
  have h56:=qE h5 hb6
  have hrow6:=qE hrow5 hb6
  refine zl (sz:=1) (U:=C) (v:=v5) (m:=(Go.Km.uvar s8.length).length) (news:=(Go.Km.uvar s8.length).map bv) H.row zE zE h56 (Nat.le_trans hW5 hb6.size) (xJ hslB h6 (xm _)) (by rw[List.length_append];omega) ?_
  intro v7 w7 h7 hb7 hg7 hn7
  rw[← List.length_append,← List.map_append] at h7
  have hrow7:=ko hrow6 hg7 (hne10 v5 hblk5)
  have hV56:=hV5.size
  have hV66:=hb6.size
  have hblk7:∀ g,v7.ownBlock=some g->g<W0.heap.size\/W2.heap.size<=g:=fun g hg=>by
   rcases hn7 g hg with h | h
   ·exact hblk5 g h
   ·omega
  have hV7:Below C V w7:=(hV5.trans (hb6.mono hW5)).trans hb7
  refine rM ?_
  refine zl (sz:=1) (U:=C) (v:=v7) (m:=s8.length) (news:=s8.map bv) H.row zE zE h7 (Nat.le_trans hCV hV7.size) ((ho2 w7 (hV7.mono hUC)).src hslB) (by rw[List.length_append,List.length_append];omega) ?_
  intro v8 w8 h8 hb8 hg8 hn8
  rw[← List.length_append,← List.map_append] at h8
  have hrow8:=ko hrow7 hg8 (hne10 v7 hblk7)
  have hV77:=hV7.size
  have hblk8:∀ g,v8.ownBlock=some g->g<W0.heap.size\/W2.heap.size<=g:=fun g hg=>by
   rcases hn8 g hg with h | h
   ·exact hblk7 g h
   ·omega
  have hV8:Below C V w8:=hV7.trans hb8
  refine rA (dn (vX (rM ?_)))
  refine xN (k:=.i64) (m:=((c0+i:Nat):Int)) (n:=1) zA rfl ?_
  refine rA (dn (vN (vX ?_)))
  refine xN (k:=.i64) (m:=(i:Int)) (n:=1) zA rfl ?_
  refine rM (dn (vN ?_))
  have hwi:IntKind.i64.wrap ((i:Int)+1)=((i+1:Nat):Int):=by rw[wrap_i64 zH zH];rfl
  have hwi2:IntKind.i64.wrap (((c0+i:Nat):Int)+1)=((c0+(i+1):Nat):Int):=by rw[wrap_i64 zH zH];omega
  refine ⟨by omega,by simp only[zP];exact hsB,by simp only[dF];exact hdB,zA,zA,zA,?_,?_,Nat.le_trans hWV hV8.size,hbV.trans hV8,hrow8,?_,ys++j8 key s8,?_,rfl⟩
  ·simp (disch:=(try simp only[sP]);omega) only[eV]
   rw[hwi]
  ·simp (disch:=(try simp only[sP]);omega) only[eV]
   rw[hwi2]
  ·rw[show Act.eval _ (.tmp 10)=v8 by exact zE]
   exact hblk8
  ·rw[show Act.eval _ (.tmp 10)=v8 by exact zE]
   unfold j8
   rw[← List.append_assoc,← List.append_assoc]
   exact h8
 ·rintro B V ⟨hm,hsB,hdB,g9,g100,g101,g102,g11,hWV,hbV,hrowV,hblk,ys,hownY,hys⟩
  rw[Nat.sub_zero,List.take_length,← hT] at hys
  subst hys
  rw[Nat.sub_zero] at g102 g11
  refine vX ?_
  refine qV (k:=.i64) (m:=(un.length:Int)) (n:=(un.length:Int)) g102 g101 ?_
  refine dn ?_
  refine vS (vC (t:=false) ?_ (fun h=>by cases h) ?_)
  ·simp (disch:=(try simp only[sP]);omega) only[eV]
   simp only[Value.bool.injEq,decide_eq_false_iff_not]
   omega
  intro _
  refine xb ?_
  simp only[Exit.then,Exit.inBlock,if_true]
  refine vN (vX (rM (rM ?_)))
  refine qL (k:=.i64) (k':=.u64) (m:=((c0+un.length:Nat):Int)) H.int H.u64 zA ?_
  have hwk2:IntKind.u64.wrap ((c0+un.length:Nat):Int)=((c0+un.length:Nat):Int):=by rw[zj];omega
  rw[hwk2]
  refine q8 (args:=#[.int .u64 ((c0+un.length:Nat):Int)]) ?_ (yc (U:=V.heap.size) HT.uvar H.row H.u8 H.u64 zH (Nat.le_refl _)) ?_
  ·simp only[lM]
   exact zE
  rintro v3 w3 ⟨h3,hb3⟩
  have hown3:=qE (own_low hown2 hbV h9) hb3
  have hownY3:=qE hownY hb3
  have hUV:U<=V.heap.size:=Nat.le_trans hUW2 hWV
  refine zl (sz:=1) (U:=U) (v:=v9) (m:=(Go.Km.uvar (c0+un.length)).length) (news:=(Go.Km.uvar (c0+un.length)).map bv) H.row zA zE hown3 (Nat.le_trans hUV hb3.size) (xJ hslB h3 (xm _)) (by simp only[List.length_append] at hbig;omega) ?_
  intro v5 w5 h5 hb5 hg5 _
  rw[← List.length_append,← List.map_append] at h5
  have hownY5:=own_grown hownY3 hg5 h9
  refine rM ?_
  refine xc (sz:=1) (U:=U) (m:=ys.length) (news:=ys.map bv) H.row zE zE h5 (Nat.le_trans (Nat.le_trans hUV hb3.size) hb5.size) (xJ hslB hownY5 (xm _)) (by rw[← List.length_append];exact hbig) ?_
  intro v7 w7 h7 hb7
  rw[← List.length_append,← List.map_append] at h7
  refine rA (dn (vS (vT ?_)))
  exact hQ _ _ ⟨by simp only[dF];exact hdB,v7,rO zE,h7,((((hw.trans (hb2.mono hUW0)).trans (hbV.mono hUC)).trans (hb3.mono hUV)).trans hb5).trans hb7⟩
end
end Go.Km
