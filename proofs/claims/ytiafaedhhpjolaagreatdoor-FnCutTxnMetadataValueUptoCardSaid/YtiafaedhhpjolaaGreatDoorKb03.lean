/- The reader's methods for numbers. Bodies that jump forward to a label. kbin.Uvarint, and the reader's Uvarint. The reader's Uvarint, Span, Int8, Bool, Int64, Ok. The reader's other methods. The reader's methods for texts, octets, counts. The reader's methods for octets and counts. What the spec's functions compute, in plain Lean. The reader: a list is made; what is read, as a plain function. kmsg's Default: what it does to the cells of a struct. kmsg's small functions: Default, NewPtr, MaxVersion, SetVersion. The reader's walk: what is asked of the shapes, the state, the leaves. All of kbin's reading together. The reader's walk: the leaves. The reader's walk: a leaf into memory; a struct. The reader's Uuid. The reader's walk: a list's head. The reader's walk: a list. The reader's walk: a list's head and loop. -/
import Derived.Test.YtiafaedhhpjolaaGreatDoorKb00
import Derived.Test.YtiafaedhhpjolaaGreatDoorKb02
import Derived.Lib.BufferRead
import Derived.Laws.IdiomStrings
import Derived.Laws.IdiomCopy
set_option maxHeartbeats 4000000
set_option linter.unusedSimpArgs false
set_option linter.unusedVariables false
namespace Go.Km
open Go Go.RowKit
attribute [local irreducible] vc rO_ qz qJ qF
def sgn (k n:Nat):Int:=if n<2 ^ (8*k-1) then (n:Int) else (n:Int)-2 ^ (8*k)
theorem sgn1 {n:Nat} (h:n<256):IntKind.i8.wrap (n:Int)=sgn 1 n:=by
 have h2:(2:Int) ^ 8=256:=by decide
 have h3:(2:Int) ^ (8-1)=128:=by decide
 have h4:(2:Nat) ^ (8*1-1)=128:=by decide
 have h5:(2:Int) ^ (8*1)=256:=by decide
 simp only[IntKind.wrap,IntKind.bits,IntKind.signed,Bool.true_and,decide_eq_true_eq,h2,h3,sgn,h4,h5]
 split<;>split<;>omega
theorem sgn2 {n:Nat} (h:n<65536):IntKind.i16.wrap (n:Int)=sgn 2 n:=by
 have h2:(2:Int) ^ 16=65536:=by decide
 have h3:(2:Int) ^ (16-1)=32768:=by decide
 have h4:(2:Nat) ^ (8*2-1)=32768:=by decide
 have h5:(2:Int) ^ (8*2)=65536:=by decide
 simp only[IntKind.wrap,IntKind.bits,IntKind.signed,Bool.true_and,decide_eq_true_eq,h2,h3,sgn,h4,h5]
 split<;>split<;>omega
theorem sgn4 {n:Nat} (h:n<4294967296):IntKind.i32.wrap (n:Int)=sgn 4 n:=by
 have h2:(2:Int) ^ 32=4294967296:=by decide
 have h3:(2:Int) ^ (32-1)=2147483648:=by decide
 have h4:(2:Nat) ^ (8*4-1)=2147483648:=by decide
 have h5:(2:Int) ^ (8*4)=4294967296:=by decide
 simp only[IntKind.wrap,IntKind.bits,IntKind.signed,Bool.true_and,decide_eq_true_eq,h2,h3,sgn,h4,h5]
 split<;>split<;>omega
theorem sgn8 {n:Nat} (h:n<18446744073709551616):IntKind.i64.wrap (n:Int)=sgn 8 n:=by
 have h2:(2:Int) ^ 64=18446744073709551616:=by decide
 have h3:(2:Int) ^ (64-1)=9223372036854775808:=by decide
 have h4:(2:Nat) ^ (8*8-1)=9223372036854775808:=by decide
 have h5:(2:Int) ^ (8*8)=18446744073709551616:=by decide
 simp only[IntKind.wrap,IntKind.bits,IntKind.signed,Bool.true_and,decide_eq_true_eq,h2,h3,sgn,h4,h5]
 split<;>split<;>omega
theorem beN_lt:∀ (l:List UInt8) (n:Nat),l.foldl (fun n b=>n*256+b.toNat) n<(n+1)*256 ^ l.length
 | [],n=>by simp
 | b::r,n=>by
  have hb:=b.toNat_lt
  have:=beN_lt r (n*256+b.toNat)
  simp only[List.foldl_cons,List.length_cons,Nat.pow_succ]
  refine Nat.lt_of_lt_of_le this ?_
  rw[show (n+1)*(256 ^ r.length*256)=((n+1)*256)*256 ^ r.length by rw[Nat.mul_comm (256 ^ r.length),Nat.mul_assoc]]
  exact Nat.mul_le_mul_right _ zH
theorem zF (k:Nat) (st:RSt):(rdN k st).1<256 ^ k:=by
 unfold rdN
 split
 ·exact Nat.pow_pos (by decide)
 ·rename_i h
  have:=beN_lt (st.1.take k) 0
  rw[List.length_take,Nat.min_eq_left zH] at this
  simpa [beN] using this
def RdC (P:Program) (F:FuncId) (rb sb:Nat) (st':RSt) (v:Value) (W:World):Prop :=
 qa P F #[.pointer (some ⟨rb,0,none⟩)] W fun x w'=>x=v/\RdS w' rb sb st'/\Eff (RM rb) W w'/\(st'.2=false->NN w' rb)
section
variable {P : Program} {E : Env}
theorem jU (H:REnv P E) {k:Nat} {z:Operand} {zv:Value} {T:TypeId} {A:Act} {W:World} {rb sb:Nat} {st:RSt} {rest:List Code} {Q:Exit->Act->World->Prop} (hs:16<=A.tmps.size) (hz:z=.const zv)
  (e0:A.eval (.tmp 0)=.pointer (some ⟨rb,0,none⟩)) (hr:RdS W rb sb st)
  (hf:st.1.length<k->∀ A' W',A'.defers=A.defers->A'.eval (.tmp 2)=zv->RdS W' rb sb ([],true)->Eff (RM rb) W W'->Q .ret A' W')
  (ho:k<=st.1.length->∀ A',A'.tmps.size=A.tmps.size->A'.defers=A.defers->A'.eval (.tmp 0)=.pointer (some ⟨rb,0,none⟩)->vc P (sq rest) Q A' W) :
  vc P (sq ((rg [(oQ 2 (.assign z) T)]) ::
   (sq [(rg [(oQ 4 (.move (.tmp 0)) E.tPRd),(oQ 5 (.nilCheck (.tmp 4)) 0),(oQ 6 (.fieldAddr E.tRd (.tmp 5) 0) 0),(oQ 7 (.load E.tB (.tmp 6)) E.tB),
    (oQ 8 (.call { callee:=.builtin .len,args:=#[(.tmp 7)],argTypes:=#[E.tB] }) E.tI),(oQ 9 (.binOp .lss E.tI (.tmp 8) (.const (.int .i64 (k:Int))) E.tI) E.tO)]),
   (.cond (.tmp 9)
    (sq [(rg [(oQ 10 (.move (.tmp 0)) E.tPRd),(oQ 11 (.nilCheck (.tmp 10)) 0),(oQ 12 (.fieldAddr E.tRd (.tmp 11) 1) 0),⟨none,.store E.tO (.tmp 12) (.const (.bool true)),0,"",#[],none⟩]),
     (rg [(oQ 13 (.move (.tmp 0)) E.tPRd),(oQ 14 (.nilCheck (.tmp 13)) 0),(oQ 15 (.fieldAddr E.tRd (.tmp 14) 0) 0),⟨none,.store E.tB (.tmp 15) (.const (.slice none 0 0)),0,"",#[],none⟩]),
     (rg [(oQ 2 (.assign z) T)]),.ret])
    .skip)])::rest)) Q A W:=by
 refine vX (rA (dn (vS (vX ?_))))
 refine r_srcLen (t:=4) H (by simp only[zP];omega) (by decide) zA hr ?_
 intro A1 a1 a2 a3 a4
 simp only[zP,dF] at a1 a2
 have a0:A1.eval (.tmp 0)=.pointer (some ⟨rb,0,none⟩):=by
  rw[a3 0 zH]
  exact zA
 refine qV (k:=.i64) (m:=(st.1.length:Int)) (n:=(k:Int)) a4 rfl ?_
 refine dn ?_
 refine vS (vC (t:=decide ((st.1.length:Int)<(k:Int))) zE ?_ ?_)
 ·intro hlt
  have hlt':st.1.length<k:=by simpa using hlt
  refine wL (t:=10) (X:=2) H (by simp only[zP];omega) (by simp only[zP];omega) (by decide) (by decide) hz zA hr ?_
  intro A2 W2 b1 b2 b3 b4
  exact hf hlt' A2 W2 (by rw[b1];simp only[dF];exact a2) b2 b3 b4
 ·intro hlt
  have hlt':k<=st.1.length:=by simpa using hlt
  refine vK (vN ?_)
  exact ho hlt' _ (by simp only[zP];exact a1) (by simp only[dF];exact a2) zA
theorem kY (H:REnv P E) {rb sb:Nat} {st:RSt} {W:World} {k:Nat} (hk:0<k) (hr:RdS W rb sb st) (hle:k<=st.1.length):∃ v o cap,qb W rb 0 [v,.bool st.2]/\v=.slice (some ⟨sb,o,none⟩) st.1.length cap/\st.1.length<=cap/\qb W sb o (st.1.map bv):=by
 obtain ⟨v,hc,hsv⟩:=hr.cells
 rcases hsv with ⟨_,h0⟩ | ⟨o,cap,h1,h2,h3⟩
 ·rw[h0] at hle;simp at hle;omega
 ·exact ⟨v,o,cap,hc,h1,h2,h3⟩
theorem k_rI16 (H:REnv P E) (hm:P.follows .mixedOrders=true) (hBE:z7 P E.tBE=some 0) (hu:qr P E.tU16=some .u16) (hs:qr P E.tI16=some .i16) (hb:Text P E.bU16 2 18 #[.tmp 4] (c_bU16 E)) (ht:Text P E.rI16 1 32 #[.tmp 2] (c_rI16 E)) {rb sb:Nat} {st:RSt} {W:World} (hr:RdS W rb sb st) :
  RdC P E.rI16 rb sb (rdN 2 st).2 (.int .i16 (sgn 2 (rdN 2 st).1)) W:=by
 refine qa.enter ht zS ?_
 intro a hsz hdf harg
 have e0:=harg 0 (.pointer (some ⟨rb,0,none⟩)) zS
 unfold c_rI16
 refine jU (k:=2) (zv:=.int .i16 0) H zH rfl e0 hr ?_ ?_
 ·intro hlt A' W' h1 h2 h3 h4
  have:rdN 2 st=(0,[],true):=by simp[rdN,hlt]
  rw[this]
  exact ⟨by rw[h1];exact hdf,_,rO h2,rfl,h3,h4,fun h=>by cases h⟩
 ·intro hle A h1 h2 h3
  obtain ⟨v,o,cap,hc,hv,hcap,hcs⟩:=kY (k:=2) H (by decide) hr hle
  obtain ⟨l0,bad⟩:=st
  simp only at hle hv hcap hcs
  obtain ⟨b0,b1,l,rfl⟩:∃ (b0 b1:UInt8) (l:List UInt8),l0=b0::b1::l:=by
   cases l0 with
   | nil=>simp at hle
   | cons b0 r0 =>
    cases r0 with
    | nil=>simp at hle
    | cons b1 r1 =>
     exact ⟨b0,b1,r1,rfl⟩
  have hN:rdN 2 (b0::b1::l,bad)=(beN [b0,b1],l,bad):=by
   simp only[rdN]
   rw[if_neg (by simp only[List.length_cons];omega)]
   rfl
  have hlt:=zF 2 (b0::b1::l,bad)
  rw[hN] at hlt
  simp only at hlt
  rw[hN]
  have hS:(fun W'=>qb W' rb 0 [v,.bool bad]) { W with drawn:=W.drawn+1 }:=hc
  have hs':A.tmps.size=32:=by omega
  refine vS (xd [(0,true),(1,true),(2,false),(3,true),(4,true),(5,false),(6,true),(7,true)] (fun W'=>qb W' rb 0 [v,.bool bad]) hm (by kernel_rfl) rfl (by kernel_rfl) (fun _ _ _ _ h=>False.elim h) ?_)
  refine dP rfl rfl rfl (wN rfl) (by simp only[zP,hs'];decide) hS (fun w' hS'=>qf (b:=E.vBE) (o:=0) (cs:=[]) rfl hBE (qb.nil _ _ _) (dn ⟨rfl,rfl,rfl⟩)) ?_
  refine dP rfl rfl rfl (wN rfl) (by simp only[zP,hs'];decide) hS (fun w' hS'=>rM (dn ⟨rfl,rfl,rfl⟩)) ?_
  refine qx rfl (wN rfl) ?_
  refine qY (ad:=⟨rb,0,none⟩) zA ?_
  refine dn (qw hS ?_)
  refine dP rfl rfl rfl (wN rfl) (by simp only[zP,hs'];decide) hS (fun w' hS'=>rF (b:=rb) (o:=0) zE H.f0 (dn ⟨rfl,rfl,rfl⟩)) ?_
  refine dP rfl rfl rfl (wN rfl) (by simp only[zP,hs'];decide) hS (fun w' hS'=>rL (b:=rb) (o:=0+0) (v:=v) zE H.oBytes (hS' 0 v rfl) (dn ⟨rfl,rfl,rfl⟩)) ?_
  refine qx rfl (wN rfl) ?_
  have hcs':qb { W with drawn:=W.drawn+1 } sb o ((b0::b1::l).map bv):=hcs
  refine q8 (args:=#[.agg #[],.slice (some ⟨sb,o,none⟩) (b0::b1::l).length cap]) ?_ (be_u16 H hu hm hb hcap hcs' hr.lt) ?_
  ·simp only[lM]
   simp (disch:=(try simp only[sP]);omega) only[eV,hv]
  rintro v1 W1 ⟨rfl,hb1⟩
  have hb1':Below W.heap.size W W1:=⟨hb1.os,hb1.tape,hb1.output,hb1.size,hb1.block⟩
  have hr1:=hr.below hb1' hr.rb_lt hr.lt
  have hS1:(fun W'=>qb W' rb 0 [v,.bool bad]) W1:=hc.below hb1' hr.rb_lt
  refine dn (qw hS1 ?_)
  refine dP rfl rfl rfl (wN rfl) (by simp only[zP,hs'];decide) hS1 (fun w' hS'=>qL (k:=.u16) (k':=.i16) (m:=((beN [b0,b1]:Nat):Int)) hu hs zE (dn ⟨rfl,rfl,rfl⟩)) ?_
  refine dP rfl rfl rfl (wN rfl) (by simp only[zP,hs'];decide) hS1 (fun w' hS'=>rA (dn ⟨rfl,rfl,rfl⟩)) ?_
  refine xC ?_
  refine vX ?_
  refine vm (t:=23) (n:=2) H (by simp only[zP];omega) (by decide) zS zA hr1 ?_
  intro A2 W2 p1 p2 p3 p4 p5 p6
  simp only[zP,dF] at p1 p2
  refine dn ?_
  have hv3:A2.eval (.tmp 3)=.int .i16 (IntKind.i16.wrap ((beN [b0,b1]:Nat):Int)):=by
   rw[p3 3 zH]
   exact zE
  refine vX (rM (rA (dn (vS (vT ?_)))))
  refine ⟨by simp only[dF];rw[p2,h2];exact hdf,.int .i16 (IntKind.i16.wrap ((beN [b0,b1]:Nat):Int)),rO zA,by rw[sgn2 (by simpa using hlt)],by simpa using p4,?_,fun _=>p6 (.inl (by decide))⟩
  exact (Eff.of_below hb1').trans' p5 (fun k i _ h=>h) |>.mono (fun k i _ h=>h)
theorem k_rI32 (H:REnv P E) (hm:P.follows .mixedOrders=true) (hBE:z7 P E.tBE=some 0) (hu:qr P E.tW=some .u32) (hs:qr P E.tI32=some .i32) (hb:Text P E.bU32 2 30 #[.tmp 4] (c_bU32 E)) (ht:Text P E.rI32 1 32 #[.tmp 2] (c_rI32 E)) {rb sb:Nat} {st:RSt} {W:World} (hr:RdS W rb sb st) :
  RdC P E.rI32 rb sb (rdN 4 st).2 (.int .i32 (sgn 4 (rdN 4 st).1)) W:=by
 refine qa.enter ht zS ?_
 intro a hsz hdf harg
 have e0:=harg 0 (.pointer (some ⟨rb,0,none⟩)) zS
 unfold c_rI32
 refine jU (k:=4) (zv:=.int .i32 0) H zH rfl e0 hr ?_ ?_
 ·intro hlt A' W' h1 h2 h3 h4
  have:rdN 4 st=(0,[],true):=by simp[rdN,hlt]
  rw[this]
  exact ⟨by rw[h1];exact hdf,_,rO h2,rfl,h3,h4,fun h=>by cases h⟩
 ·intro hle A h1 h2 h3
  obtain ⟨v,o,cap,hc,hv,hcap,hcs⟩:=kY (k:=4) H (by decide) hr hle
  obtain ⟨l0,bad⟩:=st
  simp only at hle hv hcap hcs
  obtain ⟨b0,b1,b2,b3,l,rfl⟩:∃ (b0 b1 b2 b3:UInt8) (l:List UInt8),l0=b0::b1::b2::b3::l:=by
   cases l0 with
   | nil=>simp at hle
   | cons b0 r0 =>
    cases r0 with
    | nil=>simp at hle
    | cons b1 r1 =>
     cases r1 with
     | nil=>simp at hle
     | cons b2 r2 =>
      cases r2 with
      | nil=>simp at hle
      | cons b3 r3 =>
       exact ⟨b0,b1,b2,b3,r3,rfl⟩
  have hN:rdN 4 (b0::b1::b2::b3::l,bad)=(beN [b0,b1,b2,b3],l,bad):=by
   simp only[rdN]
   rw[if_neg (by simp only[List.length_cons];omega)]
   rfl
  have hlt:=zF 4 (b0::b1::b2::b3::l,bad)
  rw[hN] at hlt
  simp only at hlt
  rw[hN]
  have hS:(fun W'=>qb W' rb 0 [v,.bool bad]) { W with drawn:=W.drawn+1 }:=hc
  have hs':A.tmps.size=32:=by omega
  refine vS (xd [(0,true),(1,true),(2,false),(3,true),(4,true),(5,false),(6,true),(7,true)] (fun W'=>qb W' rb 0 [v,.bool bad]) hm (by kernel_rfl) rfl (by kernel_rfl) (fun _ _ _ _ h=>False.elim h) ?_)
  refine dP rfl rfl rfl (wN rfl) (by simp only[zP,hs'];decide) hS (fun w' hS'=>qf (b:=E.vBE) (o:=0) (cs:=[]) rfl hBE (qb.nil _ _ _) (dn ⟨rfl,rfl,rfl⟩)) ?_
  refine dP rfl rfl rfl (wN rfl) (by simp only[zP,hs'];decide) hS (fun w' hS'=>rM (dn ⟨rfl,rfl,rfl⟩)) ?_
  refine qx rfl (wN rfl) ?_
  refine qY (ad:=⟨rb,0,none⟩) zA ?_
  refine dn (qw hS ?_)
  refine dP rfl rfl rfl (wN rfl) (by simp only[zP,hs'];decide) hS (fun w' hS'=>rF (b:=rb) (o:=0) zE H.f0 (dn ⟨rfl,rfl,rfl⟩)) ?_
  refine dP rfl rfl rfl (wN rfl) (by simp only[zP,hs'];decide) hS (fun w' hS'=>rL (b:=rb) (o:=0+0) (v:=v) zE H.oBytes (hS' 0 v rfl) (dn ⟨rfl,rfl,rfl⟩)) ?_
  refine qx rfl (wN rfl) ?_
  have hcs':qb { W with drawn:=W.drawn+1 } sb o ((b0::b1::b2::b3::l).map bv):=hcs
  refine q8 (args:=#[.agg #[],.slice (some ⟨sb,o,none⟩) (b0::b1::b2::b3::l).length cap]) ?_ (be_u32 H hu hm hb hcap hcs' hr.lt) ?_
  ·simp only[lM]
   simp (disch:=(try simp only[sP]);omega) only[eV,hv]
  rintro v1 W1 ⟨rfl,hb1⟩
  have hb1':Below W.heap.size W W1:=⟨hb1.os,hb1.tape,hb1.output,hb1.size,hb1.block⟩
  have hr1:=hr.below hb1' hr.rb_lt hr.lt
  have hS1:(fun W'=>qb W' rb 0 [v,.bool bad]) W1:=hc.below hb1' hr.rb_lt
  refine dn (qw hS1 ?_)
  refine dP rfl rfl rfl (wN rfl) (by simp only[zP,hs'];decide) hS1 (fun w' hS'=>qL (k:=.u32) (k':=.i32) (m:=((beN [b0,b1,b2,b3]:Nat):Int)) hu hs zE (dn ⟨rfl,rfl,rfl⟩)) ?_
  refine dP rfl rfl rfl (wN rfl) (by simp only[zP,hs'];decide) hS1 (fun w' hS'=>rA (dn ⟨rfl,rfl,rfl⟩)) ?_
  refine xC ?_
  refine vX ?_
  refine vm (t:=23) (n:=4) H (by simp only[zP];omega) (by decide) zS zA hr1 ?_
  intro A2 W2 p1 p2 p3 p4 p5 p6
  simp only[zP,dF] at p1 p2
  refine dn ?_
  have hv3:A2.eval (.tmp 3)=.int .i32 (IntKind.i32.wrap ((beN [b0,b1,b2,b3]:Nat):Int)):=by
   rw[p3 3 zH]
   exact zE
  refine vX (rM (rA (dn (vS (vT ?_)))))
  refine ⟨by simp only[dF];rw[p2,h2];exact hdf,.int .i32 (IntKind.i32.wrap ((beN [b0,b1,b2,b3]:Nat):Int)),rO zA,by rw[sgn4 (by simpa using hlt)],by simpa using p4,?_,fun _=>p6 (.inl (by decide))⟩
  exact (Eff.of_below hb1').trans' p5 (fun k i _ h=>h) |>.mono (fun k i _ h=>h)
theorem k_rU16 (H:REnv P E) (hm:P.follows .mixedOrders=true) (hBE:z7 P E.tBE=some 0) (hu:qr P E.tU16=some .u16) (hb:Text P E.bU16 2 18 #[.tmp 4] (c_bU16 E)) (ht:Text P E.rU16 1 31 #[.tmp 2] (c_rU16 E)) {rb sb:Nat} {st:RSt} {W:World} (hr:RdS W rb sb st) :
  RdC P E.rU16 rb sb (rdN 2 st).2 (.int .u16 (((rdN 2 st).1:Int))) W:=by
 refine qa.enter ht zS ?_
 intro a hsz hdf harg
 have e0:=harg 0 (.pointer (some ⟨rb,0,none⟩)) zS
 unfold c_rU16
 refine jU (k:=2) (zv:=.int .u16 0) H zH rfl e0 hr ?_ ?_
 ·intro hlt A' W' h1 h2 h3 h4
  have:rdN 2 st=(0,[],true):=by simp[rdN,hlt]
  rw[this]
  exact ⟨by rw[h1];exact hdf,_,rO h2,rfl,h3,h4,fun h=>by cases h⟩
 ·intro hle A h1 h2 h3
  obtain ⟨v,o,cap,hc,hv,hcap,hcs⟩:=kY (k:=2) H (by decide) hr hle
  obtain ⟨l0,bad⟩:=st
  simp only at hle hv hcap hcs
  obtain ⟨b0,b1,l,rfl⟩:∃ (b0 b1:UInt8) (l:List UInt8),l0=b0::b1::l:=by
   cases l0 with
   | nil=>simp at hle
   | cons b0 r0 =>
    cases r0 with
    | nil=>simp at hle
    | cons b1 r1 =>
     exact ⟨b0,b1,r1,rfl⟩
  have hN:rdN 2 (b0::b1::l,bad)=(beN [b0,b1],l,bad):=by
   simp only[rdN]
   rw[if_neg (by simp only[List.length_cons];omega)]
   rfl
  have hlt:=zF 2 (b0::b1::l,bad)
  rw[hN] at hlt
  simp only at hlt
  rw[hN]
  have hS:(fun W'=>qb W' rb 0 [v,.bool bad]) { W with drawn:=W.drawn+1 }:=hc
  have hs':A.tmps.size=31:=by omega
  refine vS (xd [(0,true),(1,true),(2,false),(3,true),(4,true),(5,false),(6,true)] (fun W'=>qb W' rb 0 [v,.bool bad]) hm (by kernel_rfl) rfl (by kernel_rfl) (fun _ _ _ _ h=>False.elim h) ?_)
  refine dP rfl rfl rfl (wN rfl) (by simp only[zP,hs'];decide) hS (fun w' hS'=>qf (b:=E.vBE) (o:=0) (cs:=[]) rfl hBE (qb.nil _ _ _) (dn ⟨rfl,rfl,rfl⟩)) ?_
  refine dP rfl rfl rfl (wN rfl) (by simp only[zP,hs'];decide) hS (fun w' hS'=>rM (dn ⟨rfl,rfl,rfl⟩)) ?_
  refine qx rfl (wN rfl) ?_
  refine qY (ad:=⟨rb,0,none⟩) zA ?_
  refine dn (qw hS ?_)
  refine dP rfl rfl rfl (wN rfl) (by simp only[zP,hs'];decide) hS (fun w' hS'=>rF (b:=rb) (o:=0) zE H.f0 (dn ⟨rfl,rfl,rfl⟩)) ?_
  refine dP rfl rfl rfl (wN rfl) (by simp only[zP,hs'];decide) hS (fun w' hS'=>rL (b:=rb) (o:=0+0) (v:=v) zE H.oBytes (hS' 0 v rfl) (dn ⟨rfl,rfl,rfl⟩)) ?_
  refine qx rfl (wN rfl) ?_
  have hcs':qb { W with drawn:=W.drawn+1 } sb o ((b0::b1::l).map bv):=hcs
  refine q8 (args:=#[.agg #[],.slice (some ⟨sb,o,none⟩) (b0::b1::l).length cap]) ?_ (be_u16 H hu hm hb hcap hcs' hr.lt) ?_
  ·simp only[lM]
   simp (disch:=(try simp only[sP]);omega) only[eV,hv]
  rintro v1 W1 ⟨rfl,hb1⟩
  have hb1':Below W.heap.size W W1:=⟨hb1.os,hb1.tape,hb1.output,hb1.size,hb1.block⟩
  have hr1:=hr.below hb1' hr.rb_lt hr.lt
  have hS1:(fun W'=>qb W' rb 0 [v,.bool bad]) W1:=hc.below hb1' hr.rb_lt
  refine dn (qw hS1 ?_)
  refine dP rfl rfl rfl (wN rfl) (by simp only[zP,hs'];decide) hS1 (fun w' hS'=>rA (dn ⟨rfl,rfl,rfl⟩)) ?_
  refine xC ?_
  refine vX ?_
  refine vm (t:=22) (n:=2) H (by simp only[zP];omega) (by decide) zS zA hr1 ?_
  intro A2 W2 p1 p2 p3 p4 p5 p6
  simp only[zP,dF] at p1 p2
  refine dn ?_
  have hv3:A2.eval (.tmp 3)=.int .u16 ((beN [b0,b1]:Nat):Int):=by
   rw[p3 3 zH]
   exact zE
  refine vX (rM (rA (dn (vS (vT ?_)))))
  refine ⟨by simp only[dF];rw[p2,h2];exact hdf,.int .u16 ((beN [b0,b1]:Nat):Int),rO zA,rfl,by simpa using p4,?_,fun _=>p6 (.inl (by decide))⟩
  exact (Eff.of_below hb1').trans' p5 (fun k i _ h=>h) |>.mono (fun k i _ h=>h)
theorem k_rU64 (H:REnv P E) (hm:P.follows .mixedOrders=true) (hBE:z7 P E.tBE=some 0) (hu:qr P E.tU64=some .u64) (hb:Text P E.bU64 2 54 #[.tmp 4] (c_bU64 E)) (ht:Text P E.rU64 1 31 #[.tmp 2] (c_rU64 E)) {rb sb:Nat} {st:RSt} {W:World} (hr:RdS W rb sb st) :
  RdC P E.rU64 rb sb (rdN 8 st).2 (.int .u64 (((rdN 8 st).1:Int))) W:=by
 refine qa.enter ht zS ?_
 intro a hsz hdf harg
 have e0:=harg 0 (.pointer (some ⟨rb,0,none⟩)) zS
 unfold c_rU64
 refine jU (k:=8) (zv:=.int .u64 0) H zH rfl e0 hr ?_ ?_
 ·intro hlt A' W' h1 h2 h3 h4
  have:rdN 8 st=(0,[],true):=by simp[rdN,hlt]
  rw[this]
  exact ⟨by rw[h1];exact hdf,_,rO h2,rfl,h3,h4,fun h=>by cases h⟩
 ·intro hle A h1 h2 h3
  obtain ⟨v,o,cap,hc,hv,hcap,hcs⟩:=kY (k:=8) H (by decide) hr hle
  obtain ⟨l0,bad⟩:=st
  simp only at hle hv hcap hcs
  obtain ⟨b0,b1,b2,b3,b4,b5,b6,b7,l,rfl⟩:∃ (b0 b1 b2 b3 b4 b5 b6 b7:UInt8) (l:List UInt8),l0=b0::b1::b2::b3::b4::b5::b6::b7::l:=by
   cases l0 with
   | nil=>simp at hle
   | cons b0 r0 =>
    cases r0 with
    | nil=>simp at hle
    | cons b1 r1 =>
     cases r1 with
     | nil=>simp at hle
     | cons b2 r2 =>
      cases r2 with
      | nil=>simp at hle
      | cons b3 r3 =>
       cases r3 with
       | nil=>simp at hle
       | cons b4 r4 =>
        cases r4 with
        | nil=>simp at hle
        | cons b5 r5 =>
         cases r5 with
         | nil=>simp at hle
         | cons b6 r6 =>
          cases r6 with
          | nil=>simp at hle
          | cons b7 r7 =>
           exact ⟨b0,b1,b2,b3,b4,b5,b6,b7,r7,rfl⟩
  have hN:rdN 8 (b0::b1::b2::b3::b4::b5::b6::b7::l,bad)=(beN [b0,b1,b2,b3,b4,b5,b6,b7],l,bad):=by
   simp only[rdN]
   rw[if_neg (by simp only[List.length_cons];omega)]
   rfl
  have hlt:=zF 8 (b0::b1::b2::b3::b4::b5::b6::b7::l,bad)
  rw[hN] at hlt
  simp only at hlt
  rw[hN]
  have hS:(fun W'=>qb W' rb 0 [v,.bool bad]) { W with drawn:=W.drawn+1 }:=hc
  have hs':A.tmps.size=31:=by omega
  refine vS (xd [(0,true),(1,true),(2,false),(3,true),(4,true),(5,false),(6,true)] (fun W'=>qb W' rb 0 [v,.bool bad]) hm (by kernel_rfl) rfl (by kernel_rfl) (fun _ _ _ _ h=>False.elim h) ?_)
  refine dP rfl rfl rfl (wN rfl) (by simp only[zP,hs'];decide) hS (fun w' hS'=>qf (b:=E.vBE) (o:=0) (cs:=[]) rfl hBE (qb.nil _ _ _) (dn ⟨rfl,rfl,rfl⟩)) ?_
  refine dP rfl rfl rfl (wN rfl) (by simp only[zP,hs'];decide) hS (fun w' hS'=>rM (dn ⟨rfl,rfl,rfl⟩)) ?_
  refine qx rfl (wN rfl) ?_
  refine qY (ad:=⟨rb,0,none⟩) zA ?_
  refine dn (qw hS ?_)
  refine dP rfl rfl rfl (wN rfl) (by simp only[zP,hs'];decide) hS (fun w' hS'=>rF (b:=rb) (o:=0) zE H.f0 (dn ⟨rfl,rfl,rfl⟩)) ?_
  refine dP rfl rfl rfl (wN rfl) (by simp only[zP,hs'];decide) hS (fun w' hS'=>rL (b:=rb) (o:=0+0) (v:=v) zE H.oBytes (hS' 0 v rfl) (dn ⟨rfl,rfl,rfl⟩)) ?_
  refine qx rfl (wN rfl) ?_
  have hcs':qb { W with drawn:=W.drawn+1 } sb o ((b0::b1::b2::b3::b4::b5::b6::b7::l).map bv):=hcs
  refine q8 (args:=#[.agg #[],.slice (some ⟨sb,o,none⟩) (b0::b1::b2::b3::b4::b5::b6::b7::l).length cap]) ?_ (be_u64 H hu hm hb hcap hcs' hr.lt) ?_
  ·simp only[lM]
   simp (disch:=(try simp only[sP]);omega) only[eV,hv]
  rintro v1 W1 ⟨rfl,hb1⟩
  have hb1':Below W.heap.size W W1:=⟨hb1.os,hb1.tape,hb1.output,hb1.size,hb1.block⟩
  have hr1:=hr.below hb1' hr.rb_lt hr.lt
  have hS1:(fun W'=>qb W' rb 0 [v,.bool bad]) W1:=hc.below hb1' hr.rb_lt
  refine dn (qw hS1 ?_)
  refine dP rfl rfl rfl (wN rfl) (by simp only[zP,hs'];decide) hS1 (fun w' hS'=>rA (dn ⟨rfl,rfl,rfl⟩)) ?_
  refine xC ?_
  refine vX ?_
  refine vm (t:=22) (n:=8) H (by simp only[zP];omega) (by decide) zS zA hr1 ?_
  intro A2 W2 p1 p2 p3 p4 p5 p6
  simp only[zP,dF] at p1 p2
  refine dn ?_
  have hv3:A2.eval (.tmp 3)=.int .u64 ((beN [b0,b1,b2,b3,b4,b5,b6,b7]:Nat):Int):=by
   rw[p3 3 zH]
   exact zE
  refine vX (rM (rA (dn (vS (vT ?_)))))
  refine ⟨by simp only[dF];rw[p2,h2];exact hdf,.int .u64 ((beN [b0,b1,b2,b3,b4,b5,b6,b7]:Nat):Int),rO zA,rfl,by simpa using p4,?_,fun _=>p6 (.inl (by decide))⟩
  exact (Eff.of_below hb1').trans' p5 (fun k i _ h=>h) |>.mono (fun k i _ h=>h)
end
end Go.Km
namespace Go.Km
open Go
theorem vc_goto {P:Program} {l:Nat} {Q:Exit->Act->World->Prop} {a:Act} {w:World} (h:Q (.goto l) a w):vc P (.goto l) Q a w:=h
theorem vc_label {P:Program} {l:Nat} {Q:Exit->Act->World->Prop} {a:Act} {w:World} (h:Q .normal a w):vc P (.label l) Q a w:=h
theorem bare_seq_inv {c a b:Code} (h:bare c=.seq a b):∃ x y,c=.seq x y/\bare x=a/\bare y=b:=by
 cases c with
 | seq x y =>
  simp only[bare,Code.seq.injEq] at h
  exact ⟨x,y,rfl,h.1,h.2⟩
 | region id ops d=>cases d<;>simp[bare] at h
 | _=>simp[bare] at h
theorem bare_scope_inv {c b:Code} (h:bare c=.scope b):∃ y,c=.scope y/\bare y=b:=by
 cases c with
 | scope y =>
  simp only[bare,Code.scope.injEq] at h
  exact ⟨y,rfl,h⟩
 | region id ops d=>cases d<;>simp[bare] at h
 | _=>simp[bare] at h
theorem qa.of_scope {P:Program} {f:FuncId} {np nt:Nat} {res:Array ResultVar} {r0 c1 rest:Code} (ht:Text P f np nt res (.seq r0 (.scope c1))) {l:Nat} {J:Act->World->Prop} (hl:findLabel c1 l=some rest) {args:Array Value} {w:World} {S:Value->World->Prop}
  (h:∀ a,a.tmps.size=max nt args.size->a.defers=[]->(∀ i v,args[i]? = some v->a.eval (.tmp i)=v)->vc P r0 (Exit.then (vc P c1 (Exit.jump l J (Out P res S))) (Out P res S)) a w)
  (pass:∀ a w,J a w->vc P rest (Exit.jump l (fun _ _=>False) (Out P res S)) a w):qa P f args w S:=by
 refine ⟨ht.enters,?_⟩
 obtain ⟨fn,h1,h2,h3,h4,_⟩:=ht.text
 cases hb:fn.body with
 | none=>simp[hb] at h2
 | some c0 =>
  simp only[hb,Option.map_some,Option.some.injEq] at h2
  obtain ⟨x,y,rfl,hx,hy⟩:=bare_seq_inv h2
  obtain ⟨z,rfl,hz⟩:=bare_scope_inv hy
  subst h3;subst h4
  have ha:=h { tmps:=args++Array.replicate (fn.ntmps-args.size) undef,defers:=[] } (by simp;omega) rfl (by
   intro i v hv
   have hi:i<args.size:=by
    rcases Nat.lt_or_ge i args.size with h | h
    ·exact h
    ·rw[Array.getElem?_eq_none h] at hv;cases hv
   simp only[Act.eval]
   rw[Array.getD_eq_getD_getElem?,Array.getElem?_append_left hi,hv]
   rfl)
  have hf:∃ r,findLabel z l=some r/\bare r=rest:=by
   have:=yT z l
   rw[hz,hl] at this
   cases hr:findLabel z l with
   | none=>rw[hr] at this;cases this
   | some r =>
    rw[hr,Option.map_some,Option.some.injEq] at this
    exact ⟨r,rfl,this.symm⟩
  obtain ⟨r,hr,hbr⟩:=hf
  have hres:∀ t,results { (default:Func) with results:=fn.results } t=results fn t:=fun t=>rfl
  refine calls_of_wp h1 hb (wp_mono (Q:=Out P fn.results S) (wp_seq (wp_mono (ww x (vc_bare x (hx ▸ ha))) ?_)) ?_)
  ·intro e a w h
   cases e with
   | normal =>
    refine wp_scope_jumps l J (fun _ _=>0) hr (ww z (vc_bare z (hz ▸ h))) ?_
    intro a w hJ
    refine wp_mono (ww r (vc_bare r (hbr ▸ pass a w hJ))) ?_
    intro e a w h
    cases e with
    | goto k=>exact h.2.elim
    | _=>exact h
   | _=>exact h
  ·intro e a w h
   cases e with
   | normal=>exact ⟨h.1,let ⟨v,hv,hs⟩:=h.2;⟨v,(hres _) ▸ hv,v,rfl,hs⟩⟩
   | ret=>exact ⟨h.1,let ⟨v,hv,hs⟩:=h.2;⟨v,(hres _) ▸ hv,v,rfl,hs⟩⟩
   | _=>exact h.elim
end Go.Km
namespace Go.Km
open Go Go.RowKit
attribute [local irreducible] vc rO_ qz qJ qF
def xU:Nat->Nat->List UInt8->Option (Nat × Nat)
 | _,_,[]=>none
 | i,acc,b::r=>if i=4 then (if b.toNat<=15 then some (acc+b.toNat*2 ^ 28,5) else none) else if b.toNat<128 then some (acc+b.toNat*2 ^ (7*i),i+1) else xU (i+1) (acc+b.toNat % 128*2 ^ (7*i)) r
def qn (st:RSt):Nat × RSt:=match xU 0 0 st.1 with | none=>(0,[],true) | some (v,n)=>(v,st.1.drop n,st.2)
theorem uvDec_lt:∀ (l:List UInt8) (i acc v n:Nat),acc<2 ^ (7*i)->i<=4->xU i acc l=some (v,n)->v<4294967296/\n<=i+l.length/\i<n
 | [],i,acc,v,n,_,_,h=>by cases h
 | b::r,i,acc,v,n,ha,hi,h=>by
  have hb:=b.toNat_lt
  unfold xU at h
  split at h
  ·rename_i h4
   subst h4
   split at h
   ·simp only[Option.some.injEq,Prod.mk.injEq] at h
    obtain ⟨rfl,rfl⟩:=h
    simp only[List.length_cons]
    have:(2:Nat) ^ (7*4)=268435456:=by decide
    have h28:(2:Nat) ^ 28=268435456:=by decide
    rw[this] at ha
    rw[h28]
    omega
   ·cases h
  ·rename_i h4
   have hp:2 ^ (7*(i+1))=2 ^ (7*i)*128:=by rw[show 7*(i+1)=7*i+7 by omega,Nat.pow_add]
   have hbig:2 ^ (7*(i+1))<=2 ^ 28:=Nat.pow_le_pow_right (by decide) zH
   have h28:(2:Nat) ^ 28=268435456:=by decide
   rw[h28] at hbig
   have hmul:∀ x:Nat,x<128->acc+x*2 ^ (7*i)<2 ^ (7*(i+1)):=fun x hx=>by
    have:x*2 ^ (7*i)<=127*2 ^ (7*i):=Nat.mul_le_mul_right _ zH
    rw[hp]
    omega
   split at h
   ·rename_i h1
    simp only[Option.some.injEq,Prod.mk.injEq] at h
    obtain ⟨rfl,rfl⟩:=h
    have:=hmul b.toNat h1
    simp only[List.length_cons]
    omega
   ·have:=uvDec_lt r (i+1) _ v n (hmul (b.toNat % 128) (Nat.mod_lt _ (by decide))) zH h
    simp only[List.length_cons]
    omega
theorem qH {P:Program} {w:World} {a:Act} {t u:Nat} {v x:Value} (h:a.eval (.tmp t)=v) (h2:a.eval (.tmp u)=x):(results { (default:Func) with results:=#[.tmp t,.tmp u] } a.tmps).run P w=.ok (.tuple #[v,x]) w:=by
 subst h;subst h2
 simp[results,Act.eval]
section
variable {P : Program} {E : Env} {a : Act} {w : World} {r : List Oper} {Q : Exit → Act → World → Prop}
theorem r_and127 {d xt x c yt ty p af g} {n:Nat} (hx:a.eval x=.int .u8 (n:Int)) (hc:c=.const (.int .u8 127)) (hn:n<256) (h:rO_ P Q r (a.put (some d) (.int .u8 ((n % 128:Nat):Int))) w):rO_ P Q (⟨some d,.binOp .and xt x c yt,ty,p,af,g⟩::r) a w:=by
 subst hc
 refine yO (v:=.int .u8 ((n % 128:Nat):Int)) hx rfl zS ?_ h
 have:=u8_and_nat n 127 hn (by decide)
 rw[show n &&& 127=n % 128 from Nat.and_two_pow_sub_one_eq_mod n 7] at this
 show (pure (Value.int .u8 (bits .and .u8 (n:Int) 127)):Sem Value)=_
 rw[show (127:Int)=((127:Nat):Int) from rfl,this]
theorem r_and128 {d xt x c yt ty p af g} {n:Nat} (hx:a.eval x=.int .u8 (n:Int)) (hc:c=.const (.int .u8 128)) (hn:n<256) (h:rO_ P Q r (a.put (some d) (.int .u8 ((if n<128 then 0 else 128:Nat):Int))) w):rO_ P Q (⟨some d,.binOp .and xt x c yt,ty,p,af,g⟩::r) a w:=by
 subst hc
 refine yO (v:=.int .u8 ((if n<128 then 0 else 128:Nat):Int)) hx rfl zS ?_ h
 have:=u8_and_nat n 128 hn (by decide)
 have hd:∀ n,n<256->n &&& 128=if n<128 then 0 else 128:=by decide +kernel
 rw[hd n hn] at this
 show (pure (Value.int .u8 (bits .and .u8 (n:Int) 128)):Sem Value)=_
 rw[show (128:Int)=((128:Nat):Int) from rfl,this]
theorem qj {d x i t p af g} {vs:Array Value} {v:Value} (hx:a.eval x=.tuple vs) (hv:vs[i]? = some v) (h:rO_ P Q r (a.put (some d) v) w):rO_ P Q (⟨some d,.extract x i,t,p,af,g⟩::r) a w:=by
 refine st ?_
 have hr:(Instr.extract (a.eval x) i).run P w=.ok v w:=by rw[hx];simp[Instr.extract,hv]
 simp only[Oper.wp,execOp,Sem.run_bind,hr,Sem.run_pure,Result.andThen_ok,Oper.upon_value]
 exact h
end
section
variable {P : Program} {E : Env}
theorem uv_test (H:REnv P E) {t i:Nat} {A:Act} {W:World} {Q:Exit->Act->World->Prop} {rest:List Code} {l:List UInt8} {q o cap acc:Nat} {b:UInt8} (hs:t+9<=A.tmps.size) (ht:6<=t)
  (e0:A.eval (.tmp 0)=.slice (some ⟨q,o,none⟩) l.length cap) (hc:qb W q o (l.map bv)) (hi:l[i]? = some b) (e4:A.eval (.tmp 4)=.int .u32 (acc:Int)) (e5:A.eval (.tmp 5)=.int .i64 0)
  (h1:b.toNat<128->∀ A',A'.defers=A.defers->A'.eval (.tmp 2)=.int .u32 (acc:Int)->A'.eval (.tmp 3)=.int .i64 ((i+1:Nat):Int)->Q .ret A' W)
  (h2:¬ b.toNat<128->l.length<i+2->∀ A',A'.tmps.size=A.tmps.size->A'.defers=A.defers->A'.eval (.tmp 5)=.int .i64 0->Q (.goto 0) A' W)
  (h3:¬ b.toNat<128->i+2<=l.length->∀ A',A'.tmps.size=A.tmps.size->A'.defers=A.defers->A'.eval (.tmp 0)=.slice (some ⟨q,o,none⟩) l.length cap->A'.eval (.tmp 4)=.int .u32 (acc:Int)->A'.eval (.tmp 5)=.int .i64 0->vc P (sq rest) Q A' W) :
  vc P (sq ((sq [(rg [(oQ t (.move (.tmp 0)) E.tB),(oQ (t+1) (.indexAddr E.tB (.tmp t) (.const (.int .i64 (i:Int)))) 0),(oQ (t+2) (.load E.tU8 (.tmp (t+1))) E.tU8),
      (oQ (t+3) (.binOp .and E.tU8 (.tmp (t+2)) (.const (.int .u8 128)) E.tU8) E.tU8),(oQ (t+4) (.binOp .eql E.tU8 (.tmp (t+3)) (.const (.int .u8 0)) E.tU8) E.tO)]),
     (.cond (.tmp (t+4))
      (sq [(rg [(oQ (t+5) (.move (.tmp 4)) E.tW),(oQ 2 (.assign (.tmp (t+5))) E.tW),(oQ 3 (.assign (.const (.int .i64 ((i+1:Nat):Int)))) E.tI)]),.ret])
      (sq [(rg [(oQ (t+6) (.move (.tmp 0)) E.tB),(oQ (t+7) (.call { callee:=.builtin .len,args:=#[(.tmp (t+6))],argTypes:=#[E.tB] }) E.tI),(oQ (t+8) (.binOp .lss E.tI (.tmp (t+7)) (.const (.int .i64 ((i+2:Nat):Int))) E.tI) E.tO)]),
       (.cond (.tmp (t+8)) (.goto 0) .skip)]))])::rest)) Q A W:=by
 have hsl:=rB H.row
 have hil:i<l.length:=by
  rcases Nat.lt_or_ge i l.length with h | h
  ·exact h
  ·rw[List.getElem?_eq_none h] at hi;cases hi
 have hcell:W.cell? ⟨q,o+i*1,none⟩=some (bv b):=by
  rw[Nat.mul_one]
  exact hc i _ (by rw[List.getElem?_map,hi];rfl)
 refine vS (vX (rM ?_))
 refine qA (k:=.i64) (j:=i) (b:=q) (o:=o) (len:=l.length) (cap:=cap) hsl zA rfl hil ?_
 refine rL (b:=q) (o:=o+i*1) (v:=bv b) zE H.oU8 hcell ?_
 refine r_and128 (n:=b.toNat) zM rfl b.toNat_lt ?_
 refine xy (k:=.u8) (m:=((if b.toNat<128 then 0 else 128:Nat):Int)) (n:=0) zE rfl ?_
 refine dn ?_
 refine vS (vC (t:=decide (b.toNat<128)) ?_ ?_ ?_)
 ·simp (disch:=(try simp only[sP]);omega) only[eV]
  by_cases h:b.toNat<128<;>simp[h]
 ·intro h
  have h':b.toNat<128:=by simpa using h
  refine vX (rM (rA (rA (dn (vS (vT ?_))))))
  exact h1 h' _ (by simp only[dF]) zA zE
 ·intro h
  have h':¬ b.toNat<128:=by simpa using h
  refine vX (rM ?_)
  refine x7 (ad:=some ⟨q,o,none⟩) (n:=l.length) (c:=cap) hsl zA ?_
  refine qV (k:=.i64) (m:=(l.length:Int)) (n:=((i+2:Nat):Int)) zE rfl ?_
  refine dn ?_
  refine vS (vC (t:=decide ((l.length:Int)<((i+2:Nat):Int))) zE ?_ ?_)
  ·intro h4
   have h4':l.length<i+2:=by simp at h4;omega
   refine vc_goto ?_
   exact h2 h' h4' _ (by simp only[zP]) (by simp only[dF]) zA
  ·intro h4
   have h4':i+2<=l.length:=by simp at h4;omega
   refine vK (vN (vN ?_))
   exact h3 h' h4' _ (by simp only[zP]) (by simp only[dF]) zA zA zA
theorem uv_acc (H:REnv P E) (hu:qr P E.tW=some .u32) {t i mm sh:Nat} {A:Act} {W:World} {Q:Exit->Act->World->Prop} {rest:List Code} {l:List UInt8} {q o cap acc:Nat} {b:UInt8} (hs:t+8<=A.tmps.size) (ht:6<=t) (hmm:2 ^ sh=mm) (hsh:2 ^ (min sh IntKind.u32.bits)=mm) (hacc:acc<mm) (hm128:mm*128<=268435456)
  (e0:A.eval (.tmp 0)=.slice (some ⟨q,o,none⟩) l.length cap) (hc:qb W q o (l.map bv)) (hi:l[i]? = some b) (e4:A.eval (.tmp 4)=.int .u32 (acc:Int)) (e5:A.eval (.tmp 5)=.int .i64 0)
  (h:∀ A',A'.tmps.size=A.tmps.size->A'.defers=A.defers->A'.eval (.tmp 0)=.slice (some ⟨q,o,none⟩) l.length cap->A'.eval (.tmp 4)=.int .u32 ((acc+b.toNat % 128*mm:Nat):Int)->A'.eval (.tmp 5)=.int .i64 0->vc P (sq rest) Q A' W) :
  vc P (sq ((rg [(oQ t (.move (.tmp 4)) E.tW),(oQ (t+1) (.move (.tmp 0)) E.tB),(oQ (t+2) (.indexAddr E.tB (.tmp (t+1)) (.const (.int .i64 (i:Int)))) 0),(oQ (t+3) (.load E.tU8 (.tmp (t+2))) E.tU8),
     (oQ (t+4) (.binOp .and E.tU8 (.tmp (t+3)) (.const (.int .u8 127)) E.tU8) E.tU8),(oQ (t+5) (.convert E.tU8 E.tW (.tmp (t+4))) E.tW),(oQ (t+6) (.binOp .shl E.tW (.tmp (t+5)) (.const (.int .u64 (sh:Int))) E.tUint) E.tW),
     (oQ (t+7) (.binOp .or E.tW (.tmp t) (.tmp (t+6)) E.tW) E.tW),(oQ 4 (.assign (.tmp (t+7))) E.tW)])::rest)) Q A W:=by
 have hsl:=rB H.row
 have hil:i<l.length:=by
  rcases Nat.lt_or_ge i l.length with h | h
  ·exact h
  ·rw[List.getElem?_eq_none h] at hi;cases hi
 have hcell:W.cell? ⟨q,o+i*1,none⟩=some (bv b):=by
  rw[Nat.mul_one]
  exact hc i _ (by rw[List.getElem?_map,hi];rfl)
 have hb7:b.toNat % 128<128:=Nat.mod_lt _ (by decide)
 have hmul:b.toNat % 128*mm<4294967296:=by
  have:b.toNat % 128*mm<=128*mm:=Nat.mul_le_mul_right _ zH
  omega
 refine vX (rM (rM ?_))
 refine qA (k:=.i64) (j:=i) (b:=q) (o:=o) (len:=l.length) (cap:=cap) hsl zA rfl hil ?_
 refine rL (b:=q) (o:=o+i*1) (v:=bv b) zE H.oU8 hcell ?_
 refine r_and127 (n:=b.toNat) zM rfl b.toNat_lt ?_
 refine za (K:=4294967296) (n:=b.toNat % 128) H.u8 hu (by decide) zE zH ?_
 refine jO (k:=.u32) (n:=b.toNat % 128) (c:=sh) (mm:=mm) (K:=4294967296) (by decide) zE rfl hsh hmul ?_
 refine kU (k:=.u32) (m:=acc) (n:=b.toNat % 128*mm) (v:=acc+b.toNat % 128*mm) (K:=4294967296) (by decide) zA zE (j5 sh hmm hacc) zH hmul ?_
 refine rA (dn ?_)
 exact h _ (by simp only[zP]) (by simp only[dF]) zA zE zA
theorem xO {i acc:Nat} {b:UInt8} {r:List UInt8} (hi:i<4):xU i acc (b::r)=if b.toNat<128 then some (acc+b.toNat*2 ^ (7*i),i+1) else xU (i+1) (acc+b.toNat % 128*2 ^ (7*i)) r:=by
 rw[xU,if_neg zH]
theorem uvDec_four {acc:Nat} {b:UInt8} {r:List UInt8}:xU 4 acc (b::r)=if b.toNat<=15 then some (acc+b.toNat*2 ^ 28,5) else none:=by
 rw[xU,if_pos rfl]
theorem k_uv (H:REnv P E) (hu:qr P E.tW=some .u32) (ht:Text P E.kUv 1 87 #[.tmp 2,.tmp 3] (c_kUv E)) {W:World} {sb:Nat} {v:Value} {l:List UInt8} (hv:j0 W sb v l) :
  qa P E.kUv #[v] W fun x w'=>w'=W/\∃ a n:Int,x=.tuple #[.int .u32 a,.int .i64 n]/\(match xU 0 0 l with | some (val,k)=>a=val/\n=k | none=>a=0/\n<=0):=by
 have hsl:=rB H.row
 obtain ⟨ad,cap,hvf,hcap⟩:=hv.form
 unfold c_kUv at ht
 refine qa.of_scope (l:=0) (J:=fun A w'=>w'=W/\A.tmps.size=87/\A.defers=[]/\xU 0 0 l=none/\∃ m:Int,A.eval (.tmp 5)=.int .i64 m/\m<=0) ht rfl ?_ ?_
 ·intro a hsz hdf harg
  have hsz':a.tmps.size=87:=by rw[hsz];rfl
  have e0:=harg 0 v zS
  refine vR zS ?_
  refine rA (rA (dn (vX (rA (dn (vX (rA (dn ?_))))))))
  refine vS (vX (rM ?_))
  refine x7 (ad:=ad) (n:=l.length) (c:=cap) hsl (by simp (disch:=(try simp only[sP]);omega) only[eV,e0,hvf]) ?_
  refine qV (k:=.i64) (m:=(l.length:Int)) (n:=1) zE rfl ?_
  refine dn ?_
  refine vS (vC (t:=decide ((l.length:Int)<1)) zE ?_ ?_)
  ·intro h
   have h':l=[]:=List.eq_nil_of_length_eq_zero (by simp at h;omega)
   refine vc_goto ?_
   exact ⟨rfl,rfl,by simp only[zP];exact hsz',by simp only[dF];exact hdf,by rw[h'];rfl,0,zE,by omega⟩
  intro h
  refine vK (vN ?_)
  have hlen:0<l.length:=by simp at h;omega
  obtain ⟨q,o,rfl,hc⟩:∃ q o,ad=some ⟨q,o,none⟩/\qb W q o (l.map bv):=by
   rcases hv with ⟨_,h0⟩ | ⟨o,c,h1,h2,h3⟩
   ·rw[h0] at hlen;simp at hlen
   ·rw[h1] at hvf
    simp only[Value.slice.injEq] at hvf
    exact ⟨sb,o,hvf.1.symm,h3⟩
  obtain ⟨b0,l1,rfl⟩:∃ b r,l=b::r:=by
   cases l with
   | nil=>simp at hlen
   | cons b r=>exact ⟨b,r,rfl⟩
  have hb0:=b0.toNat_lt
  refine vX (rM ?_)
  refine qA (k:=.i64) (j:=0) (b:=q) (o:=o) (len:=(b0::l1).length) (cap:=cap) hsl (by simp (disch:=(try simp only[sP]);omega) only[eV,e0,hvf]) rfl hlen ?_
  refine rL (b:=q) (o:=o+0*1) (v:=bv b0) zE H.oU8 (hc 0 _ rfl) ?_
  refine r_and127 (n:=b0.toNat) zM rfl hb0 ?_
  refine za (K:=4294967296) (n:=b0.toNat % 128) H.u8 hu (by decide) zE zH ?_
  refine rA (dn ?_)
  refine uv_test (t:=14) (i:=0) (q:=q) (o:=o) (cap:=cap) (l:=b0::l1) (b:=b0) (acc:=b0.toNat % 128) H (by simp only[zP];omega) (by decide) (by simp (disch:=(try simp only[sP]);omega) only[eV,e0,hvf]) hc rfl zE zE ?_ ?_ ?_
  ·intro hlt A' p1 p2 p3
   refine ⟨by rw[p1];simp only[dF];exact hdf,_,qH p2 p3,rfl,_,_,rfl,?_⟩
   rw[xO (by decide),if_pos hlt]
   simp[Nat.mod_eq_of_lt hlt]
  ·intro hge hsh A' p1 p2 p3
   refine ⟨rfl,rfl,by rw[p1];simp only[zP];exact hsz',by rw[p2];simp only[dF];exact hdf,?_,0,p3,by omega⟩
   have:l1=[]:=List.eq_nil_of_length_eq_zero (by simp at hsh;omega)
   subst this
   rw[xO (by decide),if_neg hge]
   rfl
  intro hge0 hlen1 A1 p1 p2 p3 p4 p5
  simp only[zP,dF] at p1 p2
  obtain ⟨b1,l2,rfl⟩:∃ b r,l1=b::r:=by
   cases l1 with
   | nil=>simp at hlen1
   | cons b r=>exact ⟨b,r,rfl⟩
  have e1:xU 0 0 (b0::b1::l2)=xU 1 (b0.toNat % 128) (b1::l2):=by
   rw[xO (by decide),if_neg hge0]
   simp
  have hm0:b0.toNat % 128<128:=Nat.mod_lt _ (by decide)
  refine uv_acc (t:=23) (i:=1) (mm:=128) (sh:=7) (l:=b0::b1::l2) (b:=b1) (acc:=b0.toNat % 128) H hu zH (by decide) rfl rfl hm0 (by decide) p3 hc rfl p4 p5 ?_
  intro A2 q1 q2 q3 q4 q5
  refine uv_test (t:=31) (i:=1) (l:=b0::b1::l2) (b:=b1) H zH (by decide) q3 hc rfl q4 q5 ?_ ?_ ?_
  ·intro hlt A' r1 r2 r3
   refine ⟨by rw[r1,q2,p2];exact hdf,_,qH r2 r3,rfl,_,_,rfl,?_⟩
   rw[e1,xO (by decide),if_pos hlt]
   simp[Nat.mod_eq_of_lt hlt]
  ·intro hge hsh A' r1 r2 r3
   refine ⟨rfl,rfl,by omega,by rw[r2,q2,p2];exact hdf,?_,0,r3,by omega⟩
   have:l2=[]:=List.eq_nil_of_length_eq_zero (by simp at hsh;omega)
   subst this
   rw[e1,xO (by decide),if_neg hge]
   rfl
  intro hge1 hlen2 A3 r1 r2 r3 r4 r5
  obtain ⟨b2,l3,rfl⟩:∃ b r,l2=b::r:=by
   cases l2 with
   | nil=>simp at hlen2
   | cons b r=>exact ⟨b,r,rfl⟩
  have hm1:b1.toNat % 128<128:=Nat.mod_lt _ (by decide)
  have e2:xU 0 0 (b0::b1::b2::l3)=xU 2 (b0.toNat % 128+b1.toNat % 128*128) (b2::l3):=by
   rw[e1,xO (by decide),if_neg hge1]
  generalize hA2:b0.toNat % 128+b1.toNat % 128*128=acc2 at *
  have ha2:acc2<16384:=by omega
  refine uv_acc (t:=40) (i:=2) (mm:=16384) (sh:=14) (l:=b0::b1::b2::l3) (b:=b2) (acc:=acc2) H hu zH (by decide) rfl rfl ha2 (by decide) r3 hc rfl r4 r5 ?_
  intro A4 s1 s2 s3 s4 s5
  refine uv_test (t:=48) (i:=2) (l:=b0::b1::b2::l3) (b:=b2) H zH (by decide) s3 hc rfl s4 s5 ?_ ?_ ?_
  ·intro hlt A' t1 t2 t3
   refine ⟨by rw[t1,s2,r2,q2,p2];exact hdf,_,qH t2 t3,rfl,_,_,rfl,?_⟩
   rw[e2,xO (by decide),if_pos hlt,Nat.mod_eq_of_lt hlt]
   exact ⟨rfl,rfl⟩
  ·intro hge hsh A' t1 t2 t3
   refine ⟨rfl,rfl,by omega,by rw[t2,s2,r2,q2,p2];exact hdf,?_,0,t3,by omega⟩
   have:l3=[]:=List.eq_nil_of_length_eq_zero (by simp at hsh;omega)
   subst this
   rw[e2,xO (by decide),if_neg hge]
   rfl
  intro hge2 hlen3 A5 t1 t2 t3 t4 t5
  obtain ⟨b3,l4,rfl⟩:∃ b r,l3=b::r:=by
   cases l3 with
   | nil=>simp at hlen3
   | cons b r=>exact ⟨b,r,rfl⟩
  have hm2:b2.toNat % 128<128:=Nat.mod_lt _ (by decide)
  have e3:xU 0 0 (b0::b1::b2::b3::l4)=xU 3 (acc2+b2.toNat % 128*16384) (b3::l4):=by
   rw[e2,xO (by decide),if_neg hge2]
  generalize hA3:acc2+b2.toNat % 128*16384=acc3 at *
  have ha3:acc3<2097152:=by omega
  refine uv_acc (t:=57) (i:=3) (mm:=2097152) (sh:=21) (l:=b0::b1::b2::b3::l4) (b:=b3) (acc:=acc3) H hu zH (by decide) rfl rfl ha3 (by decide) t3 hc rfl t4 t5 ?_
  intro A6 u1 u2 u3 u4 u5
  refine uv_test (t:=65) (i:=3) (l:=b0::b1::b2::b3::l4) (b:=b3) H zH (by decide) u3 hc rfl u4 u5 ?_ ?_ ?_
  ·intro hlt A' x1 x2 x3
   refine ⟨by rw[x1,u2,t2,s2,r2,q2,p2];exact hdf,_,qH x2 x3,rfl,_,_,rfl,?_⟩
   rw[e3,xO (by decide),if_pos hlt,Nat.mod_eq_of_lt hlt]
   exact ⟨rfl,rfl⟩
  ·intro hge hsh A' x1 x2 x3
   refine ⟨rfl,rfl,by omega,by rw[x2,u2,t2,s2,r2,q2,p2];exact hdf,?_,0,x3,by omega⟩
   have:l4=[]:=List.eq_nil_of_length_eq_zero (by simp at hsh;omega)
   subst this
   rw[e3,xO (by decide),if_neg hge]
   rfl
  intro hge3 hlen4 A7 x1 x2 x3 x4 x5
  obtain ⟨b4,l5,rfl⟩:∃ b r,l4=b::r:=by
   cases l4 with
   | nil=>simp at hlen4
   | cons b r=>exact ⟨b,r,rfl⟩
  have hm3:b3.toNat % 128<128:=Nat.mod_lt _ (by decide)
  have hb4:=b4.toNat_lt
  have e4:xU 0 0 (b0::b1::b2::b3::b4::l5)=xU 4 (acc3+b3.toNat % 128*2097152) (b4::l5):=by
   rw[e3,xO (by decide),if_neg hge3]
  generalize hA4:acc3+b3.toNat % 128*2097152=acc4 at *
  have ha4:acc4<268435456:=by omega
  have hd2:A7.defers=[]:=by rw[x2,u2,t2,s2,r2,q2,p2];exact hdf
  have hz2:A7.tmps.size=87:=by omega
  have hle:(b0::b1::b2::b3::b4::l5).length<=cap:=hcap
  refine vX (rM (rM ?_))
  refine qA (k:=.i64) (j:=4) (b:=q) (o:=o) (len:=(b0::b1::b2::b3::b4::l5).length) (cap:=cap) hsl zA rfl hlen4 ?_
  refine rL (b:=q) (o:=o+4*1) (v:=bv b4) zE H.oU8 (hc 4 _ rfl) ?_
  refine za (K:=4294967296) (n:=b4.toNat) H.u8 hu (by decide) zM hb4 ?_
  refine r_shl (k:=.u32) (m:=(b4.toNat:Int)) (k':=.u64) (n:=28) zE rfl (by decide) ?_
  have hw:IntKind.u32.wrap ((b4.toNat:Int)*2 ^ (min (28:Int).toNat IntKind.u32.bits))=((b4.toNat % 16*268435456:Nat):Int):=by
   rw[show (2:Int) ^ (min (28:Int).toNat IntKind.u32.bits)=268435456 by decide,jI]
   omega
  rw[hw]
  refine kU (k:=.u32) (m:=acc4) (n:=b4.toNat % 16*268435456) (v:=acc4+b4.toNat % 16*268435456) (K:=4294967296) (by decide) zA zE (j5 28 (by decide) ha4) zH zH ?_
  refine rA (dn (vS (vX (rM ?_))))
  refine qA (k:=.i64) (j:=4) (b:=q) (o:=o) (len:=(b0::b1::b2::b3::b4::l5).length) (cap:=cap) hsl zA rfl hlen4 ?_
  refine rL (b:=q) (o:=o+4*1) (v:=bv b4) zE H.oU8 (hc 4 _ rfl) ?_
  refine vD (k:=.u8) (m:=(b4.toNat:Int)) (n:=15) zM rfl ?_
  refine dn ?_
  refine vS (vC (t:=decide ((b4.toNat:Int)<=15)) zE ?_ ?_)
  ·intro h15
   have h15':b4.toNat<=15:=by simp at h15;omega
   refine vX (rM (rA (rA (dn (vS (vT ?_))))))
   refine ⟨by simp only[dF];exact hd2,.tuple #[.int .u32 ((acc4+b4.toNat % 16*268435456:Nat):Int),.int .i64 5],qH zE zE,rfl,_,_,rfl,?_⟩
   rw[e4,uvDec_four,if_pos h15',Nat.mod_eq_of_lt zH]
   exact ⟨rfl,rfl⟩
  ·intro h15
   have h15':¬ b4.toNat<=15:=by simp at h15;omega
   refine vK (vN (vX (rA (dn ?_))))
   refine vS (vc_label ?_)
   refine vX (rM (rA (rA (dn (vS (vT ?_))))))
   refine ⟨by simp only[dF];exact hd2,.tuple #[.int .u32 0,.int .i64 (-5)],qH zE zE,rfl,_,_,rfl,?_⟩
   rw[e4,uvDec_four,if_neg h15']
   exact ⟨rfl,by omega⟩
 ·rintro a w ⟨rfl,hz2,hd2,hnone,m,h5,hm⟩
  refine vS (c:=.skip) (r:=[(rg [(oQ 86 (.move (.tmp 5)) E.tI),
     (oQ 2 (.assign (.const (.int .u32 0))) E.tW),
     (oQ 3 (.assign (.tmp 86)) E.tI)]),.ret]) ?_
  refine vK (vX (rM (rA (rA (dn (vS (vT ?_)))))))
  refine ⟨by simp only[dF];exact hd2,.tuple #[.int .u32 0,.int .i64 m],qH zE zA,rfl,_,_,rfl,?_⟩
  rw[hnone]
  exact ⟨rfl,hm⟩
end
end Go.Km
namespace Go.Km
open Go Go.RowKit
attribute [local irreducible] vc rO_ qz qJ qF
def qq (l:Int) (st:RSt):List UInt8 × RSt:=if (st.1.length:Int)<l\/l<0 then ([],[],true) else (st.1.take l.toNat,st.1.drop l.toNat,st.2)
section
variable {P : Program} {E : Env}
theorem k_rUvar (H:REnv P E) (hu:qr P E.tW=some .u32) (hk:Text P E.kUv 1 87 #[.tmp 2,.tmp 3] (c_kUv E)) (ht:Text P E.rUvar 1 31 #[.tmp 2] (c_rUvar E)) {rb sb:Nat} {st:RSt} {W:World} (hr:RdS W rb sb st) :
  RdC P E.rUvar rb sb (qn st).2 (.int .u32 ((qn st).1:Int)) W:=by
 refine qa.enter ht zS ?_
 intro a hsz hdf harg
 have e0:=harg 0 (.pointer (some ⟨rb,0,none⟩)) zS
 obtain ⟨v,hc,hsv⟩:=hr.cells
 unfold c_rUvar
 refine vX (rA (dn (vX (rM ?_))))
 refine qY (ad:=⟨rb,0,none⟩) zA ?_
 refine rF (b:=rb) (o:=0) zE H.f0 ?_
 refine rL (b:=rb) (o:=0+0) (v:=v) zE H.oBytes (hc 0 v rfl) ?_
 refine q8 (args:=#[v]) ?_ (k_uv H hu hk hsv) ?_
 ·simp only[lM]
  exact zE
 rintro x w' ⟨rfl,va,n,rfl,hres⟩
 refine rM ?_
 refine qj (vs:=#[.int .u32 va,.int .i64 n]) (v:=.int .u32 va) zE rfl ?_
 refine qj (vs:=#[.int .u32 va,.int .i64 n]) (v:=.int .i64 n) zE rfl ?_
 refine rA (rA (dn (vS (vX (rM ?_)))))
 refine vD (k:=.i64) (m:=n) (n:=0) zE rfl ?_
 refine dn ?_
 cases hd:xU 0 0 st.1 with
 | none =>
  rw[hd] at hres
  simp only at hres
  obtain ⟨rfl,hn⟩:=hres
  have e:qn st=(0,[],true):=by simp[qn,hd]
  rw[e]
  refine vS (vC (t:=true) ?_ ?_ (fun h=>by cases h))
  ·simp (disch:=(try simp only[sP]);omega) only[eV]
   simp only[Value.bool.injEq,decide_eq_true_eq]
   omega
  intro _
  refine wL (t:=15) (X:=2) (zv:=.int .u32 0) H (by simp only[zP];omega) (by simp only[zP];omega) (by decide) (by decide) rfl zA hr ?_
  intro A' W' h1 h2 h3 h4
  exact ⟨by rw[h1];simp only[dF];exact hdf,_,rO h2,rfl,h3,h4,fun h=>by cases h⟩
 | some p =>
  obtain ⟨val,k⟩:=p
  rw[hd] at hres
  simp only at hres
  obtain ⟨rfl,rfl⟩:=hres
  have hlt:=uvDec_lt st.1 0 0 val k (by decide) (by decide) hd
  have e:qn st=(val,st.1.drop k,st.2):=by simp[qn,hd]
  rw[e]
  refine vS (vC (t:=false) ?_ (fun h=>by cases h) ?_)
  ·simp (disch:=(try simp only[sP]);omega) only[eV]
   simp only[Value.bool.injEq,decide_eq_false_iff_not]
   omega
  intro _
  refine vK (vN (vX ?_))
  refine r_skipT (t:=21) (x:=4) (n:=k) (kk:=.i64) H (by simp only[zP];omega) (by decide) (by decide) zH zE zA hr ?_
  intro A2 W2 p1 p2 p3 p4 p5 p6
  simp only[zP,dF] at p1 p2
  refine dn ?_
  have h3:A2.eval (.tmp 3)=.int .u32 (val:Int):=by
   rw[p3 3 zH]
   exact zE
  refine vX (rM (rA (dn (vS (vT ?_)))))
  exact ⟨by simp only[dF];rw[p2];exact hdf,.int .u32 (val:Int),rO zA,rfl,p4,p5,fun _=>p6 (.inl zH)⟩
theorem k_rSpan (H:REnv P E) (ht:Text P E.rSpan 2 40 #[.tmp 4] (c_rSpan E)) {rb sb:Nat} {st:RSt} {l:Int} {W:World} (hr:RdS W rb sb st) :
  qa P E.rSpan #[.pointer (some ⟨rb,0,none⟩),.int .i64 l] W fun x w'=>j0 w' sb x (qq l st).1/\RdS w' rb sb (qq l st).2/\Eff (RM rb) W w'/\(NN W rb->(qq l st).2.2=false->NN w' rb/\∃ a n c,x=.slice (some a) n c):=by
 refine qa.enter ht zS ?_
 intro a hsz hdf harg
 have e0:=harg 0 (.pointer (some ⟨rb,0,none⟩)) zS
 have e1:=harg 1 (.int .i64 l) zS
 obtain ⟨v,hc,hsv⟩:=hr.cells
 obtain ⟨ad,cap,hv,hcap⟩:=hsv.form
 have hsl:=rB H.row
 unfold c_rSpan
 refine vX (rA (dn ?_))
 refine vS (vS (yE [0,1,2,3,4,5,6,7,8,9,10] rfl ?_))
 (refine rD rfl (wN rfl) ?_;refine rM ?_;refine dn (rT ?_))
 refine rD rfl (wN rfl) (qY (ad:=⟨rb,0,none⟩) zA (dn (rT ?_)))
 refine rD rfl (wN rfl) (rF (b:=rb) (o:=0) zE H.f0 (dn (rT ?_)))
 refine rD rfl (wN rfl) (rL (b:=rb) (o:=0+0) (v:=v) zE H.oBytes (hc 0 v rfl) (dn (rT ?_)))
 refine rD rfl (wN rfl) (x7 (ad:=ad) (n:=st.1.length) (c:=cap) hsl zA (dn (rT ?_)))
 (refine rD rfl (wN rfl) ?_;refine rM ?_;refine dn (rT ?_))
 refine rD rfl (wN rfl) (qV (k:=.i64) (m:=(st.1.length:Int)) (n:=l) zE zA (dn (rT ?_)))
 have short:∀ A:Act,A.tmps.size=40->A.defers=[]->A.eval (.tmp 0)=.pointer (some ⟨rb,0,none⟩)->((st.1.length:Int)<l\/l<0)->∀ Q:Exit->Act->World->Prop,(∀ A' W',Out P #[.tmp 4] (fun x w'=>j0 w' sb x (qq l st).1/\RdS w' rb sb (qq l st).2/\Eff (RM rb) W w'/\(NN W rb->(qq l st).2.2=false->NN w' rb/\∃ a n c,x=.slice (some a) n c)) .ret A' W'->Q .ret A' W') →
   vc P (sq [(rg [(oQ 17 (.move (.tmp 0)) E.tPRd),
      (oQ 18 (.nilCheck (.tmp 17)) 0),
      (oQ 19 (.fieldAddr E.tRd (.tmp 18) 1) 0),
      ⟨none,.store E.tO (.tmp 19) (.const (.bool true)),0,"",#[],none⟩]),
     (rg [(oQ 20 (.move (.tmp 0)) E.tPRd),
      (oQ 21 (.nilCheck (.tmp 20)) 0),
      (oQ 22 (.fieldAddr E.tRd (.tmp 21) 0) 0),
      ⟨none,.store E.tB (.tmp 22) (.const (.slice none 0 0)),0,"",#[],none⟩]),
     (rg [(oQ 4 (.assign (.const (.slice none 0 0))) E.tB)]),
     .ret]) Q A W:=by
  intro A hs hd h0 hcond Q hQ
  refine wL (t:=17) (X:=4) (zv:=.slice none 0 0) H zH zH (by decide) (by decide) rfl h0 hr ?_
  intro A' W' h1 h2 h3 h4
  have e:qq l st=([],[],true):=by unfold qq;rw[if_pos hcond]
  rw[e] at hQ
  exact hQ _ _ ⟨by rw[h1];exact hd,_,rO h2,.inl ⟨rfl,rfl⟩,h3,h4,fun _ h=>by cases h⟩
 by_cases h1:(st.1.length:Int)<l
 ·rw[show decide ((st.1.length:Int)<l)=true by simpa using h1]
  (refine rD rfl (wN rfl) ?_;refine rM ?_;refine dn (rT ?_))
  (refine qX rfl (by rw[wS (b:=true) rfl rfl zM];rfl) ?_)
  (refine qX rfl (by rw[wS (b:=true) rfl rfl zM];rfl) ?_)
  refine rD rfl (wN rfl) (qZ zE (dn (rT ?_)))
  refine qy ?_
  refine vS (vC (t:=true) zE ?_ (fun h=>by cases h))
  intro _
  exact short _ (by simp only[zP];exact hsz) (by simp only[dF];exact hdf) zA (.inl h1) _ (fun _ _ h=>h)
 ·rw[show decide ((st.1.length:Int)<l)=false by simpa using h1]
  (refine rD rfl (wN rfl) ?_;refine rM ?_;refine dn (rT ?_))
  refine rD rfl (by rw[wS (b:=false) rfl rfl zM];rfl) (rM (dn (rT ?_)))
  refine rD rfl (by rw[wS (b:=false) rfl rfl zM];rfl) (qV (k:=.i64) (m:=l) (n:=0) zA rfl (dn (rT ?_)))
  refine rD rfl (wN rfl) (xx zE (dn (rT ?_)))
  refine qy ?_
  refine vS (vC (t:=decide (l<0)) zE ?_ ?_)
  ·intro h2
   exact short _ (by simp only[zP];exact hsz) (by simp only[dF];exact hdf) zA (.inr (by simpa using h2)) _ (fun _ _ h=>h)
  ·intro h2
   have h2':¬ l<0:=by simpa using h2
   obtain ⟨n,rfl⟩:∃ n:Nat,l=(n:Int):=⟨l.toNat,by omega⟩
   have hn:n<=st.1.length:=by omega
   have e:qq (n:Int) st=(st.1.take n,st.1.drop n,st.2):=by
    unfold qq
    rw[if_neg zH]
    simp
   rw[e]
   refine vK (vN (vX (rM ?_)))
   refine qY (ad:=⟨rb,0,none⟩) zA ?_
   refine rF (b:=rb) (o:=0) zE H.f0 ?_
   refine rL (b:=rb) (o:=0+0) (v:=v) zE H.oBytes (hc 0 v rfl) ?_
   refine rM (rM ?_)
   refine yh (ad:=ad) (len:=st.1.length) (cap:=cap) 0 n n hsl zA rfl ⟨.i64,zA⟩ ⟨.i64,zA⟩ (Nat.zero_le _) (Nat.le_refl _) zH ?_
   refine rA (dn ?_)
   generalize hsp:Value.slice (if n=0 then ad else ad.map (·.add (0*1))) (n-0) (n-0)=sp
   have hspV:∀ W',W'.heap[sb]? = W.heap[sb]?->j0 W' sb sp (st.1.take n):=by
    intro W' hk
    have hsv':=hsv.heap hk
    rcases hsv' with ⟨h3,h4⟩ | ⟨o,c,h3,h4,h5⟩
    ·have:n=0:=by rw[h4] at hn;simpa using hn
     subst this
     rw[h3] at hv
     simp only[Value.slice.injEq] at hv
     obtain ⟨rfl,_⟩:=hv
     exact .inl ⟨by rw[← hsp];rfl,by simp⟩
    ·rw[h3] at hv
     simp only[Value.slice.injEq,true_and] at hv
     obtain ⟨rfl,rfl⟩:=hv
     refine .inr ⟨o,n,?_,by rw[List.length_take];omega,?_⟩
     ·rw[← hsp,List.length_take,Nat.min_eq_left hn]
      simp[Addr.add_lit]
     ·rw[List.map_take]
      exact h5.take n
   refine vX ?_
   refine r_skipT (t:=30) (x:=1) (n:=n) (kk:=.i64) H (by simp only[zP];omega) (by decide) (by decide) hn zA zA hr ?_
   intro A2 W2 p1 p2 p3 p4 p5 p6
   simp only[zP,dF] at p1 p2
   refine dn ?_
   have h3:A2.eval (.tmp 5)=sp:=by
    rw[p3 5 zH]
    exact zE
   refine vX (rM (rA (dn (vS (vT ?_)))))
   refine ⟨by simp only[dF];rw[p2];exact hdf,sp,rO zA,hspV W2 ?_,p4,p5,fun hN _=>⟨p6 (.inr hN),?_⟩⟩
   ·exact p5.blockEq hr.lt (fun i h=>hr.ne h.1.symm)
   ·obtain ⟨a1,n1,c1,y1,hcn⟩:=hN
    have e1:=hc 0 v rfl
    have e2:=hcn 0 _ rfl
    rw[e1] at e2
    simp only[Option.some.injEq] at e2
    rw[hv] at e2
    simp only[Value.slice.injEq] at e2
    obtain ⟨rfl,_⟩:=e2
    rw[← hsp]
    split
    ·exact ⟨_,_,_,rfl⟩
    ·exact ⟨_,_,_,rfl⟩
end
end Go.Km
namespace Go.Km
open Go Go.RowKit
attribute [local irreducible] vc rO_ qz qJ qF
theorem wJ {k:Nat} {st:RSt} (h:(rdN k st).2.2=false):st.2=false:=by
 unfold rdN at h
 split at h
 ·cases h
 ·exact h
theorem zk {st:RSt} (h:(qn st).2.2=false):st.2=false:=by
 unfold qn at h
 split at h
 ·cases h
 ·exact h
theorem qO {l:Int} {st:RSt} (h:(qq l st).2.2=false):st.2=false:=by
 unfold qq at h
 split at h
 ·cases h
 ·exact h
def vW (st:RSt):Int × RSt:=(sgn 2 (rdN 2 st).1,(rdN 2 st).2)
def jy (st:RSt):Int × RSt:=(sgn 4 (rdN 4 st).1,(rdN 4 st).2)
def zG (st:RSt):Int × RSt:=(((qn st).1:Int)-1,(qn st).2)
def zp (p:Int × RSt):List UInt8 × RSt:=qq p.1 p.2
def qP (p:Int × RSt):Option (List UInt8) × RSt:=if p.1<0 then (none,p.2) else (some (qq p.1 p.2).1,(qq p.1 p.2).2)
def xL (p:Int × RSt):Option (List UInt8) × RSt:=if p.1 = -1 then (some [],p.2) else (some (qq p.1 p.2).1,(qq p.1 p.2).2)
def z5 (p:Int × RSt):Int × RSt:=if (p.2.1.length:Int)<p.1 then (0,[],true) else p
def rdC4 (st:RSt):Int × RSt:=z5 (jy st)
def rdCc (st:RSt):Int × RSt:=z5 (IntKind.i32.wrap (IntKind.i32.wrap ((qn st).1:Int)-1),(qn st).2)
abbrev CI16 (P:Program) (E:Env):Prop:=∀ (rb sb:Nat) (st:RSt) (W:World),RdS W rb sb st->RdC P E.rI16 rb sb (rdN 2 st).2 (.int .i16 (sgn 2 (rdN 2 st).1)) W
abbrev CI32 (P:Program) (E:Env):Prop:=∀ (rb sb:Nat) (st:RSt) (W:World),RdS W rb sb st->RdC P E.rI32 rb sb (rdN 4 st).2 (.int .i32 (sgn 4 (rdN 4 st).1)) W
abbrev CUv (P:Program) (E:Env):Prop:=∀ (rb sb:Nat) (st:RSt) (W:World),RdS W rb sb st->RdC P E.rUvar rb sb (qn st).2 (.int .u32 ((qn st).1:Int)) W
abbrev yz (P:Program) (E:Env):Prop:=∀ (rb sb:Nat) (st:RSt) (l:Int) (W:World),RdS W rb sb st->qa P E.rSpan #[.pointer (some ⟨rb,0,none⟩),.int .i64 l] W fun x w'=>j0 w' sb x (qq l st).1/\RdS w' rb sb (qq l st).2/\Eff (RM rb) W w'/\(NN W rb->(qq l st).2.2=false->NN w' rb/\∃ a n c,x=.slice (some a) n c)
def OctV (W:World) (sb B:Nat) (v:Value):Option (List UInt8)->Prop
 | none=>v=.slice none 0 0
 | some l=>∃ q o cap,v=.slice (some ⟨q,o,none⟩) l.length cap/\(q=sb\/B<=q)/\qb W q o (l.map bv)/\q<W.heap.size
theorem j0.octV {W:World} {sb B:Nat} {v:Value} {l:List UInt8} (h:j0 W sb v l) (hs:sb<W.heap.size):∃ o,OctV W sb B v o/\((∃ a n c,v=.slice (some a) n c)->o=some l):=by
 rcases h with ⟨rfl,rfl⟩ | ⟨o,c,rfl,_,h⟩
 ·exact ⟨none,rfl,fun ⟨_,_,_,h⟩=>by cases h⟩
 ·exact ⟨some l,⟨sb,o,c,rfl,.inl rfl,h,hs⟩,fun _=>rfl⟩
section
variable {P : Program} {E : Env} {a : Act} {w : World} {r : List Oper} {Q : Exit → Act → World → Prop}
theorem jV {d s t x ty p af g e v sb} {l:List UInt8} (hB:xe P s e 1=true) (he:qr P e=some .u8) (ht:strB P t=true) (hx:a.eval x=v) (hv:j0 w sb v l) (h:rO_ P Q r (a.put (some d) (.string ⟨l.toArray⟩)) w) :
  rO_ P Q (⟨some d,.convert s t x,ty,p,af,g⟩::r) a w:=by
 refine st ?_
 obtain ⟨hu,_⟩:=xQ hB
 have he':P.underlying e=some (.int .u8):=by
  unfold qr at he
  split at he
  ·simp_all
  ·cases he
 have hr:(convert s t (a.eval x)).run P w=.ok (.string ⟨l.toArray⟩) w:=by
  rw[hx]
  rcases hv with ⟨rfl,rfl⟩ | ⟨o,cap,rfl,_,hc⟩
  ·exact Go.Lib.run_convert_nil_bytes w s t e 0 hu he' (kb ht)
  ·refine run_convert_bytes_back w s t e ⟨sb,o,none⟩ cap l hu he' (kb ht) (fun j hj=>?_)
   rw[Addr.add_lit]
   exact hc j _ (by rw[List.getElem?_map,List.getElem?_eq_getElem hj];rfl)
 simp only[Oper.wp,execOp,Sem.run_bind,hr,Sem.run_pure,Result.andThen_ok,Oper.upon_value]
 exact h
end
section
variable {P : Program} {E : Env} {rb sb : Nat} {st : RSt} {W : World}
theorem k_rI8 (H:REnv P E) (hi:qr P E.tI8=some .i8) (ht:Text P E.rI8 1 32 #[.tmp 2] (c_rI8 E)) (hr:RdS W rb sb st):RdC P E.rI8 rb sb (rdN 1 st).2 (.int .i8 (sgn 1 (rdN 1 st).1)) W:=by
 refine qa.enter ht zS ?_
 intro a hsz hdf harg
 have e0:=harg 0 (.pointer (some ⟨rb,0,none⟩)) zS
 unfold c_rI8
 refine jU (k:=1) (zv:=.int .i8 0) H zH rfl e0 hr ?_ ?_
 ·intro hlt A' W' h1 h2 h3 h4
  have:rdN 1 st=(0,[],true):=by simp[rdN,hlt]
  rw[this]
  exact ⟨by rw[h1];exact hdf,_,rO h2,rfl,h3,h4,fun h=>by cases h⟩
 ·intro hle A h1 h2 h3
  obtain ⟨v,o,cap,hc,hv,hcap,hcs⟩:=kY (k:=1) H (by decide) hr hle
  obtain ⟨l0,bad⟩:=st
  simp only at hle hv hcap hcs
  obtain ⟨b0,l,rfl⟩:∃ (b0:UInt8) (l:List UInt8),l0=b0::l:=by
   cases l0 with
   | nil=>simp at hle
   | cons b r=>exact ⟨b,r,rfl⟩
  have hN:rdN 1 (b0::l,bad)=(b0.toNat,l,bad):=by
   simp only[rdN]
   rw[if_neg (by simp only[List.length_cons];omega)]
   simp[beN]
  rw[hN]
  refine vX (rM ?_)
  refine qY (ad:=⟨rb,0,none⟩) zA ?_
  refine rF (b:=rb) (o:=0) zE H.f0 ?_
  refine rL (b:=rb) (o:=0+0) (v:=v) zE H.oBytes (hc 0 v rfl) ?_
  refine qA (k:=.i64) (j:=0) (b:=sb) (o:=o) (len:=(b0::l).length) (cap:=cap) (rB H.row) zA rfl hle ?_
  refine rL (b:=sb) (o:=o+0*1) (v:=bv b0) zE H.oU8 (hcs 0 _ rfl) ?_
  refine rA (dn (vX ?_))
  refine vm (t:=22) (n:=1) H (by simp only[zP];omega) (by decide) zS zA hr ?_
  intro A2 W2 p1 p2 p3 p4 p5 p6
  simp only[zP,dF] at p1 p2
  refine dn ?_
  have hv3:A2.eval (.tmp 3)=.int .u8 (b0.toNat:Int):=by
   rw[p3 3 zH]
   simp (disch:=(try simp only[sP]);omega) only[eV]
   rfl
  refine vX (rM ?_)
  refine qL (k:=.u8) (k':=.i8) (m:=(b0.toNat:Int)) H.u8 hi zA ?_
  refine rA (dn (vS (vT ?_)))
  exact ⟨by simp only[dF];rw[p2,h2];exact hdf,.int .i8 (IntKind.i8.wrap (b0.toNat:Int)),rO zE,by rw[sgn1 b0.toNat_lt],by simpa using p4,p5,fun _=>p6 (.inl (by decide))⟩
theorem k_rBool (H:REnv P E) (ht:Text P E.rBool 1 32 #[.tmp 2] (c_rBool E)) (hr:RdS W rb sb st):RdC P E.rBool rb sb (rdN 1 st).2 (.bool ((rdN 1 st).1 != 0)) W:=by
 refine qa.enter ht zS ?_
 intro a hsz hdf harg
 have e0:=harg 0 (.pointer (some ⟨rb,0,none⟩)) zS
 unfold c_rBool
 refine jU (k:=1) (zv:=.bool false) H zH rfl e0 hr ?_ ?_
 ·intro hlt A' W' h1 h2 h3 h4
  have:rdN 1 st=(0,[],true):=by simp[rdN,hlt]
  rw[this]
  exact ⟨by rw[h1];exact hdf,_,rO h2,rfl,h3,h4,fun h=>by cases h⟩
 ·intro hle A h1 h2 h3
  obtain ⟨v,o,cap,hc,hv,hcap,hcs⟩:=kY (k:=1) H (by decide) hr hle
  obtain ⟨l0,bad⟩:=st
  simp only at hle hv hcap hcs
  obtain ⟨b0,l,rfl⟩:∃ (b0:UInt8) (l:List UInt8),l0=b0::l:=by
   cases l0 with
   | nil=>simp at hle
   | cons b r=>exact ⟨b,r,rfl⟩
  have hN:rdN 1 (b0::l,bad)=(b0.toNat,l,bad):=by
   simp only[rdN]
   rw[if_neg (by simp only[List.length_cons];omega)]
   simp[beN]
  rw[hN]
  refine vX (rM ?_)
  refine qY (ad:=⟨rb,0,none⟩) zA ?_
  refine rF (b:=rb) (o:=0) zE H.f0 ?_
  refine rL (b:=rb) (o:=0+0) (v:=v) zE H.oBytes (hc 0 v rfl) ?_
  refine qA (k:=.i64) (j:=0) (b:=sb) (o:=o) (len:=(b0::l).length) (cap:=cap) (rB H.row) zA rfl hle ?_
  refine rL (b:=sb) (o:=o+0*1) (v:=bv b0) zE H.oU8 (hcs 0 _ rfl) ?_
  refine r_neq (k:=.u8) (m:=(b0.toNat:Int)) (n:=0) zM rfl ?_
  refine rA (dn (vX ?_))
  refine vm (t:=23) (n:=1) H (by simp only[zP];omega) (by decide) zS zA hr ?_
  intro A2 W2 p1 p2 p3 p4 p5 p6
  simp only[zP,dF] at p1 p2
  refine dn ?_
  have hv3:A2.eval (.tmp 3)=.bool (b0.toNat != 0):=by
   rw[p3 3 zH]
   simp (disch:=(try simp only[sP]);omega) only[eV]
   simp only[Value.bool.injEq]
   by_cases h:b0.toNat=0
   ·rw[h];rfl
   ·have:((b0.toNat:Int) != 0)=true:=by simp[bne_iff_ne];omega
    rw[this]
    simp[bne_iff_ne,h]
  refine vX (rM (rA (dn (vS (vT ?_)))))
  exact ⟨by simp only[dF];rw[p2,h2];exact hdf,.bool (b0.toNat != 0),rO zA,rfl,by simpa using p4,p5,fun _=>p6 (.inl (by decide))⟩
theorem k_rI64 (hu:qr P E.tU64=some .u64) (hi:qr P E.tI64=some .i64) (h8:∀ (rb sb:Nat) (st:RSt) (W:World),RdS W rb sb st->RdC P E.rU64 rb sb (rdN 8 st).2 (.int .u64 ((rdN 8 st).1:Int)) W) (ht:Text P E.rI64 1 6 #[.tmp 2] (c_rI64 E)) (hr:RdS W rb sb st) :
  RdC P E.rI64 rb sb (rdN 8 st).2 (.int .i64 (sgn 8 (rdN 8 st).1)) W:=by
 refine qa.enter ht zS ?_
 intro a hsz hdf harg
 have e0:=harg 0 (.pointer (some ⟨rb,0,none⟩)) zS
 unfold c_rI64
 refine vX (rA (dn (vX (rM ?_))))
 refine q8 (args:=#[.pointer (some ⟨rb,0,none⟩)]) ?_ (h8 rb sb st W hr) ?_
 ·simp only[lM]
  simp (disch:=(try simp only[sP]);omega) only[eV,e0]
 rintro v w' ⟨rfl,h1,h2,h3⟩
 refine qL (k:=.u64) (k':=.i64) (m:=((rdN 8 st).1:Int)) hu hi zE ?_
 refine rA (dn (vS (vT ?_)))
 exact ⟨by simp only[dF];exact hdf,.int .i64 (IntKind.i64.wrap ((rdN 8 st).1:Int)),rO zE,by rw[sgn8 (zF 8 st)],h1,h2,h3⟩
theorem k_rOk (H:REnv P E) (ht:Text P E.rOk 1 8 #[.tmp 2] (c_rOk E)) (hr:RdS W rb sb st):qa P E.rOk #[.pointer (some ⟨rb,0,none⟩)] W fun x w'=>x=.bool (!st.2)/\w'=W:=by
 refine qa.enter ht zS ?_
 intro a hsz hdf harg
 have e0:=harg 0 (.pointer (some ⟨rb,0,none⟩)) zS
 obtain ⟨v,hc,_⟩:=hr.cells
 unfold c_rOk
 refine vX (rA (dn (vX (rM ?_))))
 refine qY (ad:=⟨rb,0,none⟩) zA ?_
 refine rF (b:=rb) (o:=0) zE H.f1 ?_
 refine rL (b:=rb) (o:=0+1) (v:=.bool st.2) zE H.oBool (hc 1 _ rfl) ?_
 refine zq (b:=st.2) zE ?_
 refine rA (dn (vS (vT ?_)))
 exact ⟨by simp only[dF];exact hdf,.bool (!st.2),rO zE,rfl,rfl⟩
theorem k_rComplete (H:REnv P E) (oE:qQ P E.tErr=true) (ht:Text P E.rComplete 1 8 #[.tmp 2] (yV E)) {ev:Value} (hg:W.cell? ⟨E.vErr,0,none⟩=some ev) (hr:RdS W rb sb st) :
  qa P E.rComplete #[.pointer (some ⟨rb,0,none⟩)] W fun x w'=>x=(if st.2 then ev else .nilIface)/\w'=W:=by
 refine qa.enter ht zS ?_
 intro a hsz hdf harg
 have e0:=harg 0 (.pointer (some ⟨rb,0,none⟩)) zS
 obtain ⟨v,hc,_⟩:=hr.cells
 unfold yV
 refine vX (rA (dn (vS (vX (rM ?_)))))
 refine qY (ad:=⟨rb,0,none⟩) zA ?_
 refine rF (b:=rb) (o:=0) zE H.f1 ?_
 refine rL (b:=rb) (o:=0+1) (v:=.bool st.2) zE H.oBool (hc 1 _ rfl) ?_
 refine dn ?_
 refine vS (vC (t:=st.2) zE ?_ ?_)
 ·intro h
  rw[h]
  refine vX ?_
  refine rL (b:=E.vErr) (o:=0) (v:=ev) rfl oE hg ?_
  refine rA (dn (vS (vT ?_)))
  exact ⟨by simp only[dF];exact hdf,ev,rO zE,rfl,rfl⟩
 ·intro h
  rw[h]
  refine vK (vN (vX (rA (dn (vS (vT ?_))))))
  exact ⟨by simp only[dF];exact hdf,.nilIface,rO zE,rfl,rfl⟩
end
end Go.Km
namespace Go.Km
open Go Go.RowKit
attribute [local irreducible] vc rO_ qz qJ qF
section
variable {P : Program} {E : Env} {rb sb : Nat} {st : RSt} {W : World}
theorem k_rStr (H:REnv P E) (i16:qr P E.tI16=some .i16) (hS:strB P E.tStr=true) (c16:CI16 P E) (cS:yz P E) (ht:Text P E.rStr 1 11 #[.tmp 2] (c_rStr E)) (hr:RdS W rb sb st) :
  RdC P E.rStr rb sb (zp (vW st)).2 (.string ⟨(zp (vW st)).1.toArray⟩) W:=by
 refine qa.enter ht zS ?_
 intro a hsz hdf harg
 have e0:=harg 0 (.pointer (some ⟨rb,0,none⟩)) zS
 unfold c_rStr
 refine vX (rA (dn (vX (rM ?_))))
 refine q8 (args:=#[.pointer (some ⟨rb,0,none⟩)]) ?_ (c16 rb sb st W hr) ?_
 ·simp only[lM]
  simp (disch:=(try simp only[sP]);omega) only[eV,e0]
 rintro v w1 ⟨rfl,h1,h2,h3⟩
 refine rA (dn (vX (rM (rM ?_))))
 have hlt:-32768<=sgn 2 (rdN 2 st).1/\sgn 2 (rdN 2 st).1<=32767:=by
  have:=zF 2 st
  unfold sgn
  simp only[show (256:Nat) ^ 2=65536 by decide] at this
  have h4:(2:Nat) ^ (8*2-1)=32768:=by decide
  have h5:(2:Int) ^ (8*2)=65536:=by decide
  rw[h4,h5]
  split<;>omega
 refine qL (k:=.i16) (k':=.i64) (m:=sgn 2 (rdN 2 st).1) i16 H.int zE ?_
 rw[wrap_i64 zH zH]
 refine q8 (args:=#[.pointer (some ⟨rb,0,none⟩),.int .i64 (sgn 2 (rdN 2 st).1)]) ?_ (cS rb sb (rdN 2 st).2 (sgn 2 (rdN 2 st).1) w1 h1) ?_
 ·simp only[lM]
  simp (disch:=(try simp only[sP]);omega) only[eV,e0]
 rintro v w2 ⟨h4,h5,h6,h7⟩
 refine jV H.row H.u8 hS zE h4 ?_
 refine rA (dn (vS (vT ?_)))
 exact ⟨by simp only[dF];exact hdf,_,rO zM,rfl,h5,h2.trans h6,fun h=>(h7 (h3 (qO h)) h).1⟩
theorem k_rCStr (H:REnv P E) (iu:qr P E.tW=some .u32) (hS:strB P E.tStr=true) (cU:CUv P E) (cS:yz P E) (ht:Text P E.rCStr 1 12 #[.tmp 2] (c_rCStr E)) (hlt:∀ st,(qn st).1<4294967296) (hr:RdS W rb sb st) :
  RdC P E.rCStr rb sb (zp (zG st)).2 (.string ⟨(zp (zG st)).1.toArray⟩) W:=by
 refine qa.enter ht zS ?_
 intro a hsz hdf harg
 have e0:=harg 0 (.pointer (some ⟨rb,0,none⟩)) zS
 have hlt:=hlt st
 unfold c_rCStr
 refine vX (rA (dn (vX (rM ?_))))
 refine q8 (args:=#[.pointer (some ⟨rb,0,none⟩)]) ?_ (cU rb sb st W hr) ?_
 ·simp only[lM]
  simp (disch:=(try simp only[sP]);omega) only[eV,e0]
 rintro v w1 ⟨rfl,h1,h2,h3⟩
 refine qL (k:=.u32) (k':=.i64) (m:=((qn st).1:Int)) iu H.int zE ?_
 rw[wrap_i64 zH zH]
 refine yw (k:=.i64) (m:=((qn st).1:Int)) (n:=1) zE rfl ?_
 rw[wrap_i64 zH zH]
 refine rA (dn (vX (rM (rM ?_))))
 refine q8 (args:=#[.pointer (some ⟨rb,0,none⟩),.int .i64 (((qn st).1:Int)-1)]) ?_ (cS rb sb (qn st).2 (((qn st).1:Int)-1) w1 h1) ?_
 ·simp only[lM]
  simp (disch:=(try simp only[sP]);omega) only[eV,e0]
 rintro v w2 ⟨h4,h5,h6,h7⟩
 refine jV H.row H.u8 hS zE h4 ?_
 refine rA (dn (vS (vT ?_)))
 exact ⟨by simp only[dF];exact hdf,_,rO zM,rfl,h5,h2.trans h6,fun h=>(h7 (h3 (qO h)) h).1⟩
def PStr (W':World) (B:Nat) (v:Value):Option (List UInt8)->Prop
 | none=>v=.pointer none
 | some l=>∃ q,v=.pointer (some ⟨q,0,none⟩)/\B<=q/\W'.cell? ⟨q,0,none⟩=some (.string ⟨l.toArray⟩)
theorem box_str {w:World} {T:TypeId} (l:List UInt8) {z:Value} (hz:z.cells=#[z]):((w.alloc (.cells z.cells T)).setCell ⟨w.heap.size,0,none⟩ (.string ⟨l.toArray⟩)).cell? ⟨w.heap.size,0,none⟩=some (.string ⟨l.toArray⟩) :=
 qp _ (by rw[World.cell?_alloc_new,hz];rfl)
theorem yH (st:RSt):-32768<=sgn 2 (rdN 2 st).1/\sgn 2 (rdN 2 st).1<=32767:=by
 have:=zF 2 st
 unfold sgn
 simp only[show (256:Nat) ^ 2=65536 by decide] at this
 have h4:(2:Nat) ^ (8*2-1)=32768:=by decide
 have h5:(2:Int) ^ (8*2)=65536:=by decide
 rw[h4,h5]
 split<;>omega
theorem kS (st:RSt):-2147483648<=sgn 4 (rdN 4 st).1/\sgn 4 (rdN 4 st).1<=2147483647:=by
 have:=zF 4 st
 unfold sgn
 simp only[show (256:Nat) ^ 4=4294967296 by decide] at this
 have h4:(2:Nat) ^ (8*4-1)=2147483648:=by decide
 have h5:(2:Int) ^ (8*4)=4294967296:=by decide
 rw[h4,h5]
 split<;>omega
theorem z9 (st:RSt):(qn st).1<4294967296:=by
 unfold qn
 split
 ·decide
 ·rename_i v n h
  exact (uvDec_lt st.1 0 0 v n (by decide) (by decide) h).1
theorem k_rNStr (H:REnv P E) (i16:qr P E.tI16=some .i16) (hS:strB P E.tStr=true) (oS:qQ P E.tStr=true) {zs:Value} (hzs:qK P E.tStr=some zs) (hz1:zs.cells=#[zs]) (c16:CI16 P E) (cS:yz P E) (ht:Text P E.rNStr 1 14 #[.tmp 2] (c_rNStr E)) (hr:RdS W rb sb st) :
  qa P E.rNStr #[.pointer (some ⟨rb,0,none⟩)] W fun x w'=>PStr w' W.heap.size x (qP (vW st)).1/\RdS w' rb sb (qP (vW st)).2/\Eff (RM rb) W w'/\((qP (vW st)).2.2=false->NN w' rb):=by
 refine qa.enter ht zS ?_
 intro a hsz hdf harg
 have e0:=harg 0 (.pointer (some ⟨rb,0,none⟩)) zS
 have hlt:=yH st
 unfold c_rNStr
 refine vX (rA (dn (vX (rM ?_))))
 refine q8 (args:=#[.pointer (some ⟨rb,0,none⟩)]) ?_ (c16 rb sb st W hr) ?_
 ·simp only[lM]
  simp (disch:=(try simp only[sP]);omega) only[eV,e0]
 rintro v w1 ⟨rfl,h1,h2,h3⟩
 refine rA (dn (vS (vX (rM ?_))))
 refine qV (k:=.i16) (m:=sgn 2 (rdN 2 st).1) (n:=0) zE rfl ?_
 refine dn ?_
 refine vS (vC (t:=decide (sgn 2 (rdN 2 st).1<0)) zE ?_ ?_)
 ·intro h
  have h':sgn 2 (rdN 2 st).1<0:=by simpa using h
  have e:qP (vW st)=(none,(rdN 2 st).2):=by unfold qP vW;rw[if_pos h']
  rw[e]
  refine vX (rA (dn (vS (vT ?_))))
  exact ⟨by simp only[dF];exact hdf,.pointer none,rO zE,rfl,h1,h2,h3⟩
 ·intro h
  have h':¬ sgn 2 (rdN 2 st).1<0:=by simpa using h
  have e:qP (vW st)=(some (qq (sgn 2 (rdN 2 st).1) (rdN 2 st).2).1,(qq (sgn 2 (rdN 2 st).1) (rdN 2 st).2).2):=by unfold qP vW;rw[if_neg h']
  rw[e]
  refine vK (vN (vX (rM (rM ?_))))
  refine qL (k:=.i16) (k':=.i64) (m:=sgn 2 (rdN 2 st).1) i16 H.int zE ?_
  rw[wrap_i64 zH zH]
  refine q8 (args:=#[.pointer (some ⟨rb,0,none⟩),.int .i64 (sgn 2 (rdN 2 st).1)]) ?_ (cS rb sb (rdN 2 st).2 (sgn 2 (rdN 2 st).1) w1 h1) ?_
  ·simp only[lM]
   simp (disch:=(try simp only[sP]);omega) only[eV,e0]
  rintro v w2 ⟨h4,h5,h6,h7⟩
  have hmono:(qq (sgn 2 (rdN 2 st).1) (rdN 2 st).2).2.2=false->(rdN 2 st).2.2=false:=qO
  generalize qq (sgn 2 (rdN 2 st).1) (rdN 2 st).2=p at *
  refine jV H.row H.u8 hS zE h4 ?_
  refine qI hzs ?_
  refine xq (b:=w2.heap.size) (o:=0) (v:=.string ⟨p.1.toArray⟩) zE zE rfl oS (qm w2 _ _ (by rw[hz1];simp)) ?_
  refine dn ?_
  have hb:Below w2.heap.size w2 ((w2.alloc (.cells zs.cells E.tStr)).setCell ⟨w2.heap.size,0,none⟩ (.string ⟨p.1.toArray⟩)):=((Below.refl w2.heap.size w2).alloc (o:=.cells _ _) (Nat.le_refl _)).setCell (p:=⟨w2.heap.size,0,none⟩) (Nat.le_refl _) _
  have hcs:=box_str (w:=w2) (T:=E.tStr) p.1 hz1
  refine vX (rA (dn (vS (vT ?_))))
  have hW2:W.heap.size<=w2.heap.size:=Nat.le_trans h2.size h6.size
  exact ⟨by simp only[dF];exact hdf,.pointer (some ⟨w2.heap.size,0,none⟩),rO zE,⟨_,rfl,hW2,hcs⟩,h5.below hb h5.rb_lt h5.lt,(h2.trans h6).trans (Eff.of_below hb),fun h=>((h7 (h3 (hmono h)) h).1).below hb h5.rb_lt⟩
theorem k_rCNStr (H:REnv P E) (iu:qr P E.tW=some .u32) (hS:strB P E.tStr=true) (oS:qQ P E.tStr=true) {zs:Value} (hzs:qK P E.tStr=some zs) (hz1:zs.cells=#[zs]) (cU:CUv P E) (cS:yz P E) (ht:Text P E.rCNStr 1 15 #[.tmp 2] (c_rCNStr E)) (hr:RdS W rb sb st) :
  qa P E.rCNStr #[.pointer (some ⟨rb,0,none⟩)] W fun x w'=>PStr w' W.heap.size x (qP (zG st)).1/\RdS w' rb sb (qP (zG st)).2/\Eff (RM rb) W w'/\((qP (zG st)).2.2=false->NN w' rb):=by
 refine qa.enter ht zS ?_
 intro a hsz hdf harg
 have e0:=harg 0 (.pointer (some ⟨rb,0,none⟩)) zS
 have hlt:=z9 st
 unfold c_rCNStr
 refine vX (rA (dn (vX (rM ?_))))
 refine q8 (args:=#[.pointer (some ⟨rb,0,none⟩)]) ?_ (cU rb sb st W hr) ?_
 ·simp only[lM]
  simp (disch:=(try simp only[sP]);omega) only[eV,e0]
 rintro v w1 ⟨rfl,h1,h2,h3⟩
 refine qL (k:=.u32) (k':=.i64) (m:=((qn st).1:Int)) iu H.int zE ?_
 rw[wrap_i64 zH zH]
 refine yw (k:=.i64) (m:=((qn st).1:Int)) (n:=1) zE rfl ?_
 rw[wrap_i64 zH zH]
 refine rA (dn (vS (vX (rM ?_))))
 refine qV (k:=.i64) (m:=((qn st).1:Int)-1) (n:=0) zE rfl ?_
 refine dn ?_
 refine vS (vC (t:=decide (((qn st).1:Int)-1<0)) zE ?_ ?_)
 ·intro h
  have h':((qn st).1:Int)-1<0:=by simpa using h
  have e:qP (zG st)=(none,(qn st).2):=by unfold qP zG;rw[if_pos h']
  rw[e]
  refine vX (rA (dn (vS (vT ?_))))
  exact ⟨by simp only[dF];exact hdf,.pointer none,rO zE,rfl,h1,h2,h3⟩
 ·intro h
  have h':¬ ((qn st).1:Int)-1<0:=by simpa using h
  have e:qP (zG st)=(some (qq (((qn st).1:Int)-1) (qn st).2).1,(qq (((qn st).1:Int)-1) (qn st).2).2):=by unfold qP zG;rw[if_neg h']
  rw[e]
  refine vK (vN (vX (rM (rM ?_))))
  refine q8 (args:=#[.pointer (some ⟨rb,0,none⟩),.int .i64 (((qn st).1:Int)-1)]) ?_ (cS rb sb (qn st).2 (((qn st).1:Int)-1) w1 h1) ?_
  ·simp only[lM]
   simp (disch:=(try simp only[sP]);omega) only[eV,e0]
  rintro v w2 ⟨h4,h5,h6,h7⟩
  have hmono:(qq (((qn st).1:Int)-1) (qn st).2).2.2=false->(qn st).2.2=false:=qO
  generalize qq (((qn st).1:Int)-1) (qn st).2=p at *
  refine jV H.row H.u8 hS zE h4 ?_
  refine qI hzs ?_
  refine xq (b:=w2.heap.size) (o:=0) (v:=.string ⟨p.1.toArray⟩) zE zE rfl oS (qm w2 _ _ (by rw[hz1];simp)) ?_
  refine dn ?_
  have hb:Below w2.heap.size w2 ((w2.alloc (.cells zs.cells E.tStr)).setCell ⟨w2.heap.size,0,none⟩ (.string ⟨p.1.toArray⟩)):=((Below.refl w2.heap.size w2).alloc (o:=.cells _ _) (Nat.le_refl _)).setCell (p:=⟨w2.heap.size,0,none⟩) (Nat.le_refl _) _
  have hcs:=box_str (w:=w2) (T:=E.tStr) p.1 hz1
  refine vX (rA (dn (vS (vT ?_))))
  have hW2:W.heap.size<=w2.heap.size:=Nat.le_trans h2.size h6.size
  exact ⟨by simp only[dF];exact hdf,.pointer (some ⟨w2.heap.size,0,none⟩),rO zE,⟨_,rfl,hW2,hcs⟩,h5.below hb h5.rb_lt h5.lt,(h2.trans h6).trans (Eff.of_below hb),fun h=>((h7 (h3 (hmono h)) h).1).below hb h5.rb_lt⟩
end
end Go.Km
namespace Go.Km
open Go Go.RowKit
attribute [local irreducible] vc rO_ qz qJ qF
section
variable {P : Program} {a : Act} {w : World} {r : List Oper} {Q : Exit → Act → World → Prop}
theorem jF {d t ty p af g e s} (hB:xe P t e s=true) (h:rO_ P Q r (a.put (some d) (.slice (some ⟨w.heap.size,0,none⟩) 0 0)) (w.alloc (.cells #[] e))) :
  rO_ P Q (⟨some d,.buildSlice t 0 #[],ty,p,af,g⟩::r) a w:=by
 refine st ?_
 obtain ⟨hu,i,z,hi,hsz,hs0,hz,hzs,_⟩:=xQ hB
 have hr:(Instr.buildSlice t 0 (#[].map fun (x:Nat × Operand)=>(x.1,a.eval x.2))).run P w=.ok (.slice (some ⟨w.heap.size,0,none⟩) 0 0) (w.alloc (.cells #[] e)):=by
  simp[Instr.buildSlice,run_underlying hu,jc (rB hB),Instr.fill,run_newRow']
  rw[show (Array.map (fun _=>default) (Array.range 0):Array Value)=#[] by simp[Array.range]]
 simp only[Oper.wp,execOp,Sem.run_bind,hr,Sem.run_pure,Result.andThen_ok,Oper.upon_value]
 exact h
end
section
variable {P : Program} {E : Env} {rb sb : Nat} {st : RSt} {W : World}
theorem k_rBytes (H:REnv P E) (i32:qr P E.tI32=some .i32) (c32:CI32 P E) (cS:yz P E) (ht:Text P E.rBytes 1 13 #[.tmp 2] (c_rBytes E)) (hr:RdS W rb sb st) :
  qa P E.rBytes #[.pointer (some ⟨rb,0,none⟩)] W fun x w'=>(∃ o,OctV w' sb W.heap.size x o/\((xL (jy st)).2.2=false->o=(xL (jy st)).1))/\RdS w' rb sb (xL (jy st)).2/\Eff (RM rb) W w'/\((xL (jy st)).2.2=false->NN w' rb):=by
 refine qa.enter ht zS ?_
 intro a hsz hdf harg
 have e0:=harg 0 (.pointer (some ⟨rb,0,none⟩)) zS
 have hlt:=kS st
 unfold c_rBytes
 refine vX (rA (dn (vX (rM ?_))))
 refine q8 (args:=#[.pointer (some ⟨rb,0,none⟩)]) ?_ (c32 rb sb st W hr) ?_
 ·simp only[lM]
  simp (disch:=(try simp only[sP]);omega) only[eV,e0]
 rintro v w1 ⟨rfl,h1,h2,h3⟩
 refine rA (dn (vS (vX (rM ?_))))
 refine xy (k:=.i32) (m:=(sgn 4 (rdN 4 st).1)) (n:=-1) zE rfl ?_
 refine dn ?_
 refine vS (vC (t:=((sgn 4 (rdN 4 st).1) == -1)) zE ?_ ?_)
 ·intro h
  have h':(sgn 4 (rdN 4 st).1) = -1:=by simpa using h
  have e:xL (jy st)=(some [],(rdN 4 st).2):=by unfold xL jy;rw[if_pos h']
  rw[e]
  refine vX ?_
  refine jF H.row ?_
  refine rA (dn ?_)
  have hb:Below w1.heap.size w1 (w1.alloc (.cells #[] E.tU8)):=(Below.refl w1.heap.size w1).alloc (o:=.cells _ _) (Nat.le_refl _)
  refine vS (vT ?_)
  exact ⟨by simp only[dF];exact hdf,.slice (some ⟨w1.heap.size,0,none⟩) 0 0,rO zE,⟨some [],⟨w1.heap.size,0,0,rfl,.inr h2.size,qb.nil _ _ _,by simp⟩,fun _=>rfl⟩,h1.below hb h1.rb_lt h1.lt,h2.trans (Eff.of_below hb),fun h=>(h3 h).below hb h1.rb_lt⟩
 ·intro h
  have h':¬ (sgn 4 (rdN 4 st).1) = -1:=by simpa using h
  have e:xL (jy st)=(some (qq (sgn 4 (rdN 4 st).1) (rdN 4 st).2).1,(qq (sgn 4 (rdN 4 st).1) (rdN 4 st).2).2):=by unfold xL jy;rw[if_neg h']
  rw[e]
  refine vK (vN (vX (rM (rM ?_))))
  refine qL (k:=.i32) (k':=.i64) (m:=(sgn 4 (rdN 4 st).1)) i32 H.int zE ?_
  rw[wrap_i64 zH zH]
  refine q8 (args:=#[.pointer (some ⟨rb,0,none⟩),.int .i64 (sgn 4 (rdN 4 st).1)]) ?_ (cS rb sb (rdN 4 st).2 (sgn 4 (rdN 4 st).1) w1 h1) ?_
  ·simp only[lM]
   simp (disch:=(try simp only[sP]);omega) only[eV,e0]
  rintro v w2 ⟨h4,h5,h6,h7⟩
  have hmono:(qq (sgn 4 (rdN 4 st).1) (rdN 4 st).2).2.2=false->(rdN 4 st).2.2=false:=qO
  generalize qq (sgn 4 (rdN 4 st).1) (rdN 4 st).2=p at *
  refine rA (dn (vS (vT ?_)))
  obtain ⟨oo,ho1,ho2⟩:=h4.octV (B:=W.heap.size) h5.lt
  exact ⟨by simp only[dF];exact hdf,v,rO zE,⟨oo,ho1,fun h=>ho2 (h7 (h3 (hmono h)) h).2⟩,h5,h2.trans h6,fun h=>(h7 (h3 (hmono h)) h).1⟩
theorem k_rCBytes (H:REnv P E) (iu:qr P E.tW=some .u32) (cU:CUv P E) (cS:yz P E) (ht:Text P E.rCBytes 1 14 #[.tmp 2] (c_rCBytes E)) (hr:RdS W rb sb st) :
  qa P E.rCBytes #[.pointer (some ⟨rb,0,none⟩)] W fun x w'=>(∃ o,OctV w' sb W.heap.size x o/\((xL (zG st)).2.2=false->o=(xL (zG st)).1))/\RdS w' rb sb (xL (zG st)).2/\Eff (RM rb) W w'/\((xL (zG st)).2.2=false->NN w' rb):=by
 refine qa.enter ht zS ?_
 intro a hsz hdf harg
 have e0:=harg 0 (.pointer (some ⟨rb,0,none⟩)) zS
 have hlt:=z9 st
 unfold c_rCBytes
 refine vX (rA (dn (vX (rM ?_))))
 refine q8 (args:=#[.pointer (some ⟨rb,0,none⟩)]) ?_ (cU rb sb st W hr) ?_
 ·simp only[lM]
  simp (disch:=(try simp only[sP]);omega) only[eV,e0]
 rintro v w1 ⟨rfl,h1,h2,h3⟩
 refine qL (k:=.u32) (k':=.i64) (m:=((qn st).1:Int)) iu H.int zE ?_
 rw[wrap_i64 zH zH]
 refine yw (k:=.i64) (m:=((qn st).1:Int)) (n:=1) zE rfl ?_
 rw[wrap_i64 zH zH]
 refine rA (dn (vS (vX (rM ?_))))
 refine xy (k:=.i64) (m:=((((qn st).1:Nat):Int)-1)) (n:=-1) zE rfl ?_
 refine dn ?_
 refine vS (vC (t:=(((((qn st).1:Nat):Int)-1) == -1)) zE ?_ ?_)
 ·intro h
  have h':((((qn st).1:Nat):Int)-1) = -1:=by simpa using h
  have e:xL (zG st)=(some [],(qn st).2):=by unfold xL zG;rw[if_pos h']
  rw[e]
  refine vX ?_
  refine jF H.row ?_
  refine rA (dn ?_)
  have hb:Below w1.heap.size w1 (w1.alloc (.cells #[] E.tU8)):=(Below.refl w1.heap.size w1).alloc (o:=.cells _ _) (Nat.le_refl _)
  refine vS (vT ?_)
  exact ⟨by simp only[dF];exact hdf,.slice (some ⟨w1.heap.size,0,none⟩) 0 0,rO zE,⟨some [],⟨w1.heap.size,0,0,rfl,.inr h2.size,qb.nil _ _ _,by simp⟩,fun _=>rfl⟩,h1.below hb h1.rb_lt h1.lt,h2.trans (Eff.of_below hb),fun h=>(h3 h).below hb h1.rb_lt⟩
 ·intro h
  have h':¬ ((((qn st).1:Nat):Int)-1) = -1:=by simpa using h
  have e:xL (zG st)=(some (qq ((((qn st).1:Nat):Int)-1) (qn st).2).1,(qq ((((qn st).1:Nat):Int)-1) (qn st).2).2):=by unfold xL zG;rw[if_neg h']
  rw[e]
  refine vK (vN (vX (rM (rM ?_))))
  refine q8 (args:=#[.pointer (some ⟨rb,0,none⟩),.int .i64 ((((qn st).1:Nat):Int)-1)]) ?_ (cS rb sb (qn st).2 ((((qn st).1:Nat):Int)-1) w1 h1) ?_
  ·simp only[lM]
   simp (disch:=(try simp only[sP]);omega) only[eV,e0]
  rintro v w2 ⟨h4,h5,h6,h7⟩
  have hmono:(qq ((((qn st).1:Nat):Int)-1) (qn st).2).2.2=false->(qn st).2.2=false:=qO
  generalize qq ((((qn st).1:Nat):Int)-1) (qn st).2=p at *
  refine rA (dn (vS (vT ?_)))
  obtain ⟨oo,ho1,ho2⟩:=h4.octV (B:=W.heap.size) h5.lt
  exact ⟨by simp only[dF];exact hdf,v,rO zE,⟨oo,ho1,fun h=>ho2 (h7 (h3 (hmono h)) h).2⟩,h5,h2.trans h6,fun h=>(h7 (h3 (hmono h)) h).1⟩
theorem k_rNBytes (H:REnv P E) (i32:qr P E.tI32=some .i32) (c32:CI32 P E) (cS:yz P E) (ht:Text P E.rNBytes 1 14 #[.tmp 2] (c_rNBytes E)) (hr:RdS W rb sb st) :
  qa P E.rNBytes #[.pointer (some ⟨rb,0,none⟩)] W fun x w'=>(∃ o,OctV w' sb W.heap.size x o/\((qP (jy st)).2.2=false->o=(qP (jy st)).1))/\RdS w' rb sb (qP (jy st)).2/\Eff (RM rb) W w'/\((qP (jy st)).2.2=false->NN w' rb):=by
 refine qa.enter ht zS ?_
 intro a hsz hdf harg
 have e0:=harg 0 (.pointer (some ⟨rb,0,none⟩)) zS
 have hlt:=kS st
 unfold c_rNBytes
 refine vX (rA (dn (vX (rM ?_))))
 refine q8 (args:=#[.pointer (some ⟨rb,0,none⟩)]) ?_ (c32 rb sb st W hr) ?_
 ·simp only[lM]
  simp (disch:=(try simp only[sP]);omega) only[eV,e0]
 rintro v w1 ⟨rfl,h1,h2,h3⟩
 refine rA (dn (vS (vX (rM ?_))))
 refine qV (k:=.i32) (m:=(sgn 4 (rdN 4 st).1)) (n:=0) zE rfl ?_
 refine dn ?_
 refine vS (vC (t:=decide ((sgn 4 (rdN 4 st).1)<0)) zE ?_ ?_)
 ·intro h
  have h':(sgn 4 (rdN 4 st).1)<0:=by simpa using h
  have e:qP (jy st)=(none,(rdN 4 st).2):=by unfold qP jy;rw[if_pos h']
  rw[e]
  refine vX (rA (dn (vS (vT ?_))))
  exact ⟨by simp only[dF];exact hdf,.slice none 0 0,rO zE,⟨none,rfl,fun _=>rfl⟩,h1,h2,h3⟩
 ·intro h
  have h':¬ (sgn 4 (rdN 4 st).1)<0:=by simpa using h
  have e:qP (jy st)=(some (qq (sgn 4 (rdN 4 st).1) (rdN 4 st).2).1,(qq (sgn 4 (rdN 4 st).1) (rdN 4 st).2).2):=by unfold qP jy;rw[if_neg h']
  rw[e]
  refine vK (vN (vX (rM (rM ?_))))
  refine qL (k:=.i32) (k':=.i64) (m:=(sgn 4 (rdN 4 st).1)) i32 H.int zE ?_
  rw[wrap_i64 zH zH]
  refine q8 (args:=#[.pointer (some ⟨rb,0,none⟩),.int .i64 (sgn 4 (rdN 4 st).1)]) ?_ (cS rb sb (rdN 4 st).2 (sgn 4 (rdN 4 st).1) w1 h1) ?_
  ·simp only[lM]
   simp (disch:=(try simp only[sP]);omega) only[eV,e0]
  rintro v w2 ⟨h4,h5,h6,h7⟩
  have hmono:(qq (sgn 4 (rdN 4 st).1) (rdN 4 st).2).2.2=false->(rdN 4 st).2.2=false:=qO
  generalize qq (sgn 4 (rdN 4 st).1) (rdN 4 st).2=p at *
  refine rA (dn (vX (rM (rA (dn (vS (vT ?_)))))))
  obtain ⟨oo,ho1,ho2⟩:=h4.octV (B:=W.heap.size) h5.lt
  exact ⟨by simp only[dF];exact hdf,v,rO zE,⟨oo,ho1,fun h=>ho2 (h7 (h3 (hmono h)) h).2⟩,h5,h2.trans h6,fun h=>(h7 (h3 (hmono h)) h).1⟩
theorem k_rCNBytes (H:REnv P E) (iu:qr P E.tW=some .u32) (cU:CUv P E) (cS:yz P E) (ht:Text P E.rCNBytes 1 15 #[.tmp 2] (wl E)) (hr:RdS W rb sb st) :
  qa P E.rCNBytes #[.pointer (some ⟨rb,0,none⟩)] W fun x w'=>(∃ o,OctV w' sb W.heap.size x o/\((qP (zG st)).2.2=false->o=(qP (zG st)).1))/\RdS w' rb sb (qP (zG st)).2/\Eff (RM rb) W w'/\((qP (zG st)).2.2=false->NN w' rb):=by
 refine qa.enter ht zS ?_
 intro a hsz hdf harg
 have e0:=harg 0 (.pointer (some ⟨rb,0,none⟩)) zS
 have hlt:=z9 st
 unfold wl
 refine vX (rA (dn (vX (rM ?_))))
 refine q8 (args:=#[.pointer (some ⟨rb,0,none⟩)]) ?_ (cU rb sb st W hr) ?_
 ·simp only[lM]
  simp (disch:=(try simp only[sP]);omega) only[eV,e0]
 rintro v w1 ⟨rfl,h1,h2,h3⟩
 refine qL (k:=.u32) (k':=.i64) (m:=((qn st).1:Int)) iu H.int zE ?_
 rw[wrap_i64 zH zH]
 refine yw (k:=.i64) (m:=((qn st).1:Int)) (n:=1) zE rfl ?_
 rw[wrap_i64 zH zH]
 refine rA (dn (vS (vX (rM ?_))))
 refine qV (k:=.i64) (m:=((((qn st).1:Nat):Int)-1)) (n:=0) zE rfl ?_
 refine dn ?_
 refine vS (vC (t:=decide (((((qn st).1:Nat):Int)-1)<0)) zE ?_ ?_)
 ·intro h
  have h':((((qn st).1:Nat):Int)-1)<0:=by simpa using h
  have e:qP (zG st)=(none,(qn st).2):=by unfold qP zG;rw[if_pos h']
  rw[e]
  refine vX (rA (dn (vS (vT ?_))))
  exact ⟨by simp only[dF];exact hdf,.slice none 0 0,rO zE,⟨none,rfl,fun _=>rfl⟩,h1,h2,h3⟩
 ·intro h
  have h':¬ ((((qn st).1:Nat):Int)-1)<0:=by simpa using h
  have e:qP (zG st)=(some (qq ((((qn st).1:Nat):Int)-1) (qn st).2).1,(qq ((((qn st).1:Nat):Int)-1) (qn st).2).2):=by unfold qP zG;rw[if_neg h']
  rw[e]
  refine vK (vN (vX (rM (rM ?_))))
  refine q8 (args:=#[.pointer (some ⟨rb,0,none⟩),.int .i64 ((((qn st).1:Nat):Int)-1)]) ?_ (cS rb sb (qn st).2 ((((qn st).1:Nat):Int)-1) w1 h1) ?_
  ·simp only[lM]
   simp (disch:=(try simp only[sP]);omega) only[eV,e0]
  rintro v w2 ⟨h4,h5,h6,h7⟩
  have hmono:(qq ((((qn st).1:Nat):Int)-1) (qn st).2).2.2=false->(qn st).2.2=false:=qO
  generalize qq ((((qn st).1:Nat):Int)-1) (qn st).2=p at *
  refine rA (dn (vX (rM (rA (dn (vS (vT ?_)))))))
  obtain ⟨oo,ho1,ho2⟩:=h4.octV (B:=W.heap.size) h5.lt
  exact ⟨by simp only[dF];exact hdf,v,rO zE,⟨oo,ho1,fun h=>ho2 (h7 (h3 (hmono h)) h).2⟩,h5,h2.trans h6,fun h=>(h7 (h3 (hmono h)) h).1⟩
theorem wrap_i32_rng (n:Int):-2147483648<=IntKind.i32.wrap n/\IntKind.i32.wrap n<=2147483647:=by
 have h2:(2:Int) ^ 32=4294967296:=by decide
 have h3:(2:Int) ^ (32-1)=2147483648:=by decide
 simp only[IntKind.wrap,IntKind.bits,IntKind.signed,Bool.true_and,decide_eq_true_eq,h2,h3]
 split<;>omega
theorem k_rLen (H:REnv P E) (i32:qr P E.tI32=some .i32) (c32:CI32 P E) (ht:Text P E.rLen 1 21 #[.tmp 2] (c_rLen E)) (hr:RdS W rb sb st) :
  RdC P E.rLen rb sb (rdC4 st).2 (.int .i32 (rdC4 st).1) W:=by
 refine qa.enter ht zS ?_
 intro a hsz hdf harg
 have e0:=harg 0 (.pointer (some ⟨rb,0,none⟩)) zS
 unfold c_rLen
 refine vX (rA (dn (vX (rM ?_))))
 refine q8 (args:=#[.pointer (some ⟨rb,0,none⟩)]) ?_ (c32 rb sb st W hr) ?_
 ·simp only[lM]
  simp (disch:=(try simp only[sP]);omega) only[eV,e0]
 rintro v w1 ⟨rfl,h1,h2,h3⟩
 have hrng:=kS st
 refine rA (dn ?_)
 have eR:rdC4 st=if ((rdN 4 st).2.1.length:Int)<(sgn 4 (rdN 4 st).1) then (0,[],true) else ((sgn 4 (rdN 4 st).1),(rdN 4 st).2):=rfl
 refine vS (vX ?_)
 refine r_srcLen (t:=6) H (by simp only[zP];omega) (by decide) zA h1 ?_
 intro A1 a1 a2 a3 a4
 simp only[zP,dF] at a1 a2
 have b0:A1.eval (.tmp 0)=.pointer (some ⟨rb,0,none⟩):=by rw[a3 0 zH];exact zA
 have b3:A1.eval (.tmp 3)=.int .i32 (sgn 4 (rdN 4 st).1):=by rw[a3 3 zH];exact zE
 have a4':A1.eval (.tmp 10)=.int .i64 ((rdN 4 st).2.1.length:Int):=a4
 refine rM ?_
 refine qL (k:=.i32) (k':=.i64) (m:=(sgn 4 (rdN 4 st).1)) i32 H.int zA ?_
 rw[wrap_i64 zH zH]
 refine qV (k:=.i64) (m:=((rdN 4 st).2.1.length:Int)) (n:=(sgn 4 (rdN 4 st).1)) zA zE ?_
 refine dn ?_
 refine vS (vC (t:=decide (((rdN 4 st).2.1.length:Int)<(sgn 4 (rdN 4 st).1))) zE ?_ ?_)
 ·intro h
  have h':((rdN 4 st).2.1.length:Int)<(sgn 4 (rdN 4 st).1):=by simpa using h
  rw[eR,if_pos h']
  refine wL (t:=14) (X:=2) (zv:=.int .i32 0) H (by simp only[zP];omega) (by simp only[zP];omega) (by decide) (by decide) rfl zA h1 ?_
  intro A' W' p1 p2 p3 p4
  exact ⟨by rw[p1];simp only[dF];rw[a2];exact hdf,_,rO p2,rfl,p3,h2.trans p4,fun h=>by cases h⟩
 ·intro h
  have h':¬ ((rdN 4 st).2.1.length:Int)<(sgn 4 (rdN 4 st).1):=by simpa using h
  rw[eR,if_neg h']
  refine vK (vN (vX (rM (rA (dn (vS (vT ?_)))))))
  exact ⟨by simp only[dF];rw[a2];exact hdf,.int .i32 (sgn 4 (rdN 4 st).1),rO zA,rfl,h1,h2,h3⟩
theorem k_rCLen (H:REnv P E) (iu:qr P E.tW=some .u32) (i32:qr P E.tI32=some .i32) (cU:CUv P E) (ht:Text P E.rCLen 1 23 #[.tmp 2] (c_rCLen E)) (hr:RdS W rb sb st) :
  RdC P E.rCLen rb sb (rdCc st).2 (.int .i32 (rdCc st).1) W:=by
 refine qa.enter ht zS ?_
 intro a hsz hdf harg
 have e0:=harg 0 (.pointer (some ⟨rb,0,none⟩)) zS
 unfold c_rCLen
 refine vX (rA (dn (vX (rM ?_))))
 refine q8 (args:=#[.pointer (some ⟨rb,0,none⟩)]) ?_ (cU rb sb st W hr) ?_
 ·simp only[lM]
  simp (disch:=(try simp only[sP]);omega) only[eV,e0]
 rintro v w1 ⟨rfl,h1,h2,h3⟩
 refine qL (k:=.u32) (k':=.i32) (m:=((qn st).1:Int)) iu i32 zE ?_
 refine yw (k:=.i32) (m:=IntKind.i32.wrap ((qn st).1:Int)) (n:=1) zE rfl ?_
 have hrng:=wrap_i32_rng (IntKind.i32.wrap ((qn st).1:Int)-1)
 refine rA (dn ?_)
 have eR:rdCc st=if ((qn st).2.1.length:Int)<(IntKind.i32.wrap (IntKind.i32.wrap ((qn st).1:Int)-1)) then (0,[],true) else ((IntKind.i32.wrap (IntKind.i32.wrap ((qn st).1:Int)-1)),(qn st).2):=rfl
 refine vS (vX ?_)
 refine r_srcLen (t:=8) H (by simp only[zP];omega) (by decide) zA h1 ?_
 intro A1 a1 a2 a3 a4
 simp only[zP,dF] at a1 a2
 have b0:A1.eval (.tmp 0)=.pointer (some ⟨rb,0,none⟩):=by rw[a3 0 zH];exact zA
 have b3:A1.eval (.tmp 3)=.int .i32 (IntKind.i32.wrap (IntKind.i32.wrap ((qn st).1:Int)-1)):=by rw[a3 3 zH];exact zE
 have a4':A1.eval (.tmp 12)=.int .i64 ((qn st).2.1.length:Int):=a4
 refine rM ?_
 refine qL (k:=.i32) (k':=.i64) (m:=(IntKind.i32.wrap (IntKind.i32.wrap ((qn st).1:Int)-1))) i32 H.int zA ?_
 rw[wrap_i64 zH zH]
 refine qV (k:=.i64) (m:=((qn st).2.1.length:Int)) (n:=(IntKind.i32.wrap (IntKind.i32.wrap ((qn st).1:Int)-1))) zA zE ?_
 refine dn ?_
 refine vS (vC (t:=decide (((qn st).2.1.length:Int)<(IntKind.i32.wrap (IntKind.i32.wrap ((qn st).1:Int)-1)))) zE ?_ ?_)
 ·intro h
  have h':((qn st).2.1.length:Int)<(IntKind.i32.wrap (IntKind.i32.wrap ((qn st).1:Int)-1)):=by simpa using h
  rw[eR,if_pos h']
  refine wL (t:=16) (X:=2) (zv:=.int .i32 0) H (by simp only[zP];omega) (by simp only[zP];omega) (by decide) (by decide) rfl zA h1 ?_
  intro A' W' p1 p2 p3 p4
  exact ⟨by rw[p1];simp only[dF];rw[a2];exact hdf,_,rO p2,rfl,p3,h2.trans p4,fun h=>by cases h⟩
 ·intro h
  have h':¬ ((qn st).2.1.length:Int)<(IntKind.i32.wrap (IntKind.i32.wrap ((qn st).1:Int)-1)):=by simpa using h
  rw[eR,if_neg h']
  refine vK (vN (vX (rM (rA (dn (vS (vT ?_)))))))
  exact ⟨by simp only[dF];rw[a2];exact hdf,.int .i32 (IntKind.i32.wrap (IntKind.i32.wrap ((qn st).1:Int)-1)),rO zA,rfl,h1,h2,h3⟩
end
end Go.Km
namespace Go.Km
open Go Go.RowKit
def Trs.toL:Trs->List Tr
 | .nil=>[]
 | .cons t r=>t::r.toL
def xP (kind:Int) (pt:Tr->List UInt8) (nl fx:Bool) (t:Tr):List UInt8 :=
 match t with
 | .mk n s _ _ _ =>
  if kind=0 then [o8 (n % 2)]
  else if kind=7 then s.take 16++List.replicate (16-s.length) 0
  else if kind=8 then (let s':=if nl then [] else s.take 32767;cnt fx nl s'.length 2++s')
  else if kind=9 then (let s':=if nl then [] else s.take 32767;cnt fx nl s'.length 4++s')
  else if kind=10 then pt t
  else be (xr kind.toNat) n
def j8 (n:Nat) (b:List UInt8):List UInt8:=Go.Km.uvar n++Go.Km.uvar b.length++b
def zm (x:Nat × List UInt8):List (Nat × List UInt8)->List (Nat × List UInt8)
 | []=>[x]
 | y::r=>if y.1<x.1 then y::zm x r else if y.1=x.1 then y::r else x::y::r
def unk (least:Nat) (u:List (Nat × List UInt8)):List (Nat × List UInt8) :=
 (u.take 32767).foldl (fun l x=>if x.1<least then l else zm x l) []
abbrev Rec:=Int × Bool × Bool × List UInt8
def known (l:List Int):Nat:=l.foldl (fun n t=>if 0<=t then max n (t.toNat+1) else n) 0
def kC (fx:Bool) (rs:List Rec) (u:List (Nat × List UInt8)):List UInt8 :=
 let out:=(rs.map fun r=>if r.1<0&&r.2.1 then r.2.2.2 else []).flatten
 if fx then
  let kn:=known (rs.map (·.1))
  let tg:=(List.range kn).flatMap fun (k:Nat)=>rs.filterMap fun r=>if decide (r.1=((k:Nat):Int)) && !r.2.2.1 then some ((k:Nat),r.2.2.2) else none
  let un:=(unk kn u).map fun x=>(x.1,x.2.take 32767)
  out++Go.Km.uvar (tg.length+un.length)++((tg++un).map fun x=>j8 x.1 x.2).flatten
 else out
def SFs.tags:SFs->List Int
 | .nil=>[]
 | .cons (.mk _ _ _ _ tag _ _ _) r=>tag::r.tags
mutual
def SF.usual:SF->Tr->Bool
 | .mk kind _ _ nul _ df _ sub,t =>
  match t with
  | .mk n s nl l u =>
   if kind=0 then n % 2==df
   else if kind=7 then (s.take 16).all (·==0)
   else if kind=8||kind=9 then (if nul ≥ 0 then nl else s.isEmpty)
   else if kind=11 then l.len==0
   else if kind=10 then sub.usual 0 (.mk n s nl l u)&&(unk (known sub.tags) u).isEmpty
   else be (xr kind.toNat) n==be (xr kind.toNat) df
def SFs.usual:SFs->Nat->Tr->Bool
 | .nil,_,_=>true
 | .cons f r,i,t=>f.usual (t.at i)&&r.usual (i+1) t
end
mutual
def SF.wr (v:Int) (fx:Bool):SF->Tr->List UInt8
 | .mk kind fr to nul tag df el sub,t =>
  let nl:=(SF.mk kind fr to nul tag df el sub).isNull v t
  let pt:Tr->List UInt8:=fun t=>kC fx (sub.recs v fx 0 t) (match t with | .mk _ _ _ _ u=>u)
  if kind=11 then
   let l:=if nl then [] else (match t with | .mk _ _ _ l _=>l.toL.take 32767)
   cnt fx nl l.length 4++(l.map fun t=>xP el pt false fx t).flatten
  else if kind=10&&nul ≥ 0 then (if nl then be 1 (-1) else be 1 1++pt t)
  else xP kind pt nl fx t
def SFs.recs (v:Int) (fx:Bool):SFs->Nat->Tr->List Rec
 | .nil,_,_=>[]
 | .cons f r,i,t=>((match f with | .mk _ _ _ _ tag _ _ _=>tag),f.has v,f.usual (t.at i),f.wr v fx (t.at i))::r.recs v fx (i+1) t
end
def SFs.part (v:Int) (fx:Bool) (fs:SFs) (t:Tr):List UInt8:=kC fx (fs.recs v fx 0 t) (match t with | .mk _ _ _ _ u=>u)
mutual
def SF.one:SF->Tr
 | .mk kind _ _ nul _ df _ sub=>.mk df [] (decide (nul ≥ 0)) (if kind=10 then sub.ones else .nil) []
def SFs.ones:SFs->Trs
 | .nil=>.nil
 | .cons f r=>.cons f.one r.ones
end
def SFs.dflt (fs:SFs):Tr:=.mk 0 [] false fs.ones []
mutual
def Ty.dflt:Ty->D
 | .scal _ df | .named _ _ df=>.int df
 | .uuid=>.bytes (some (List.replicate 16 0))
 | .text=>.bytes (some [])
 | .ntext | .ntextFrom _=>.bytes none
 | .bytes | .nbytes=>.bytes none
 | .list _ _ _ | .nstruct _ _ _ _ _=>.list none
 | .struct _ _ _ fs=>.obj fs.dflt []
def Flds.dflt:Flds->List D
 | .nil _=>[]
 | .cons _ t r=>t.dflt::r.dflt
end
end Go.Km
namespace Go.Km
open Go Go.RowKit
attribute [local irreducible] vc rO_ qz qJ qF
section
variable {P : Program} {a : Act} {w : World} {r : List Oper} {Q : Exit → Act → World → Prop}
theorem zeroCells_at (z:Array Value) (n j u:Nat) (hj:j<n) (hu:u<z.size):(Builtin.zeroCells z n)[j*z.size+u]? = z[u]?:=by
 have h:j*z.size+u<n*z.size:=by
  have:(j+1)*z.size<=n*z.size:=Nat.mul_le_mul_right _ hj
  rw[Nat.add_mul] at this
  omega
 have hm:(j*z.size+u) % z.size=u:=by rw[Nat.mul_comm,Nat.mul_add_mod];exact Nat.mod_eq_of_lt hu
 simp[Builtin.zeroCells,h,hm,hu]
theorem run_appendMake {t tx ty e k s z base} {n:Nat} (hB:xe P t e s=true) (hi:qr P tx=some k) (hz:qK P e=some z) (h0:0<n) (hb:n<=big) :
  (Builtin.append_ #[t,tx] ty #[.slice base 0 0,.int k (n:Int)]).run P w=.ok (.slice (some ⟨w.heap.size,0,none⟩) n (grownCap w n 0 e))
   (w.drew.alloc (.cells (Builtin.zeroCells z.cells n++Builtin.zeroCells z.cells (grownCap w n 0 e-n)) e)):=by
 obtain ⟨hu,i,z',hi',hsize,hs0,hz',hzs,hby⟩:=xQ hB
 have hzz:i.zero=some z:=by
  unfold qK at hz
  simpa [hi'] using hz
 have hk:=intT_inv hi
 have hn0:¬ n=0:=by omega
 have hw:IntKind.i64.wrap (n:Int)=(n:Int):=wrap_i64 zH (by unfold big at hb;omega)
 have hbytes:n*i.bytes<=140737488355328:=by
  refine Nat.le_trans (Nat.mul_le_mul hb hby) ?_
  unfold big
  omega
 have h48:¬ (281474976710656<(n:Int)*(i.bytes:Int)):=by
  have:(n:Int)*(i.bytes:Int)=((n*i.bytes:Nat):Int):=by simp
  omega
 have hg:=growslice_fits (need:=n) (old:=0) (bytes:=i.bytes) h0 hbytes
 have hg':¬ (281474976710656<Builtin.nextslicecap n 0*i.bytes):=by omega
 have h63:¬ (9223372036854775807<(n:Int)):=by unfold big at hb;omega
 have hneg:¬ ((n:Int)<0):=by omega
 have hcells:(Builtin.firstCells s 0 (.slice base 0 0)).run P w.drew=.ok #[] w.drew:=by
  cases base<;>simp[Builtin.firstCells,loadCells,loadCellsFrom]
 have hsn:¬ s=0:=by omega
 simp[Builtin.append_,run_underlying hu,run_underlying hk,sizeOf,typeInfo,zeroValue,hi',hzz,hsize,asInt,asIntOf,hw,hneg,h48,hn0,hsn,hg',h63,hcells,Question.forced,newRow,grownCap]
 intro hns
 have:0<n*s:=Nat.mul_pos h0 hs0
 omega
theorem r_appendMake {d t tx s x ty p af g e sz k z base} {n:Nat} (hB:xe P t e sz=true) (hi:qr P tx=some k) (hz:qK P e=some z) (hs:a.eval s=.slice base 0 0) (hx:a.eval x=.int k (n:Int)) (h0:0<n) (hb:n<=big)
  (h:∀ cap w',Below w.heap.size w w'->w.heap.size<w'.heap.size->(∀ j,j<n->qb w' w.heap.size (j*sz) z.cells.toList)->(∀ i,i<n*sz->qt w' w.heap.size i)->rO_ P Q r (a.put (some d) (.slice (some ⟨w.heap.size,0,none⟩) n cap)) w') :
  rO_ P Q (⟨some d,.call { callee:=.builtin .append,args:=#[s,x],argTypes:=#[t,tx] },ty,p,af,g⟩::r) a w:=by
 refine st ?_
 have hr:=run_appendMake (w:=w) (ty:=ty) (base:=base) hB hi hz h0 hb
 obtain ⟨_,i,z',hi',hsize,hs0,hz',hzs,hby⟩:=xQ hB
 have hzz:z.cells.size=sz:=by
  unfold qK at hz
  simp only[hi',Option.bind_some] at hz
  rw[hz'] at hz
  cases hz
  exact hzs
 simp only[Oper.wp,execOp,resolve,invoke,builtin,Sem.run_bind,Sem.run_pure,Result.andThen_ok,List.map_toArray,List.map_cons,List.map_nil,hs,hx,hr,Oper.upon_value]
 refine h _ _ ?_ zS ?_ ?_
 ·exact (show Below w.heap.size w w.drew from ⟨rfl,rfl,rfl,Nat.le_refl _,fun _ _=>rfl⟩).alloc zS _
 ·intro j hj u v hu
  have hus:u<z.cells.size:=by
   rcases Nat.lt_or_ge u z.cells.size with h | h
   ·exact h
   ·rw[List.getElem?_eq_none (by simpa using h)] at hu;cases hu
  refine qs w.drew _ _ ?_
  rw[← hzz]
  have hlt:j*z.cells.size+u<(Builtin.zeroCells z.cells n).size:=by
   rw[size_zeroCells]
   have:(j+1)*z.cells.size<=n*z.cells.size:=Nat.mul_le_mul_right _ hj
   rw[Nat.add_mul] at this
   omega
  rw[Array.getElem?_append_left hlt,zeroCells_at _ _ _ _ hj hus]
  simpa using hu
 ·intro i hi
  refine qm w.drew _ _ ?_
  rw[Array.size_append,size_zeroCells,hzz]
  omega
end
def Scal.rd:Scal->RSt->Int × RSt
 | .bool,st=>(if (rdN 1 st).1 != 0 then 1 else 0,(rdN 1 st).2)
 | .i8,st=>(sgn 1 (rdN 1 st).1,(rdN 1 st).2)
 | .i16,st=>(sgn 2 (rdN 2 st).1,(rdN 2 st).2)
 | .u16,st=>((rdN 2 st).1,(rdN 2 st).2)
 | .i32,st=>(sgn 4 (rdN 4 st).1,(rdN 4 st).2)
 | .i64,st=>(sgn 8 (rdN 8 st).1,(rdN 8 st).2)
 | .f64,st=>((rdN 8 st).1,(rdN 8 st).2)
def xf (f:RSt->D × RSt):Nat->RSt->List D × RSt
 | 0,st=>([],st)
 | n+1,st=>((f st).1::(xf f n (f st).2).1,(xf f n (f st).2).2)
def xn (st:RSt):(Nat × List UInt8) × RSt :=
 let p:=qn st
 let q:=qn p.2
 let s:=qq (q.1:Int) q.2
 ((p.1,s.1),s.2)
def qR:Nat->List (Nat × List UInt8)->RSt->List (Nat × List UInt8) × RSt
 | 0,l,st=>(l,st)
 | n+1,l,st=>qR n (qv (xn st).1.1 (xn st).1.2 l) (xn st).2
def zd (st:RSt):List (Nat × List UInt8) × RSt:=qR (qn st).1 [] (qn st).2
def qC (ck:Nat->List UInt8->Bool):Nat->List (Nat × List UInt8)->RSt->List (Nat × List UInt8) × RSt
 | 0,l,st=>(l,st)
 | n+1,l,st=>qC ck n (qv (xn st).1.1 (xn st).1.2 l) ((xn st).2.1,(xn st).2.2 || !ck (xn st).1.1 (xn st).1.2)
def zw (ck:Nat->List UInt8->Bool) (st:RSt):List (Nat × List UInt8) × RSt:=qC ck (qn st).1 [] (qn st).2
def noK:Nat->List UInt8->Bool:=fun _ _=>true
theorem rdTagsNK_no:∀ (n:Nat) (l:List (Nat × List UInt8)) (st:RSt),qC noK n l st=qR n l st
 | 0,_,_=>rfl
 | n+1,l,st=>by simp only[qC,qR,noK,Bool.not_true,Bool.or_false];exact rdTagsNK_no n _ _
theorem rdTagsK_no (st:RSt):zw noK st=zd st:=rdTagsNK_no _ _ _
def Ver.ckT (v:Ver) (f:List UInt8->Bool) (ck:Nat->List UInt8->Bool):Nat->List UInt8->Bool :=
 match v with
 | .tag k _=>fun j p=>if j=k then f p else ck j p
 | _=>ck
def Ver.getT (v:Ver) (d:D) (f:List UInt8->D) (tags:List (Nat × List UInt8)):D :=
 match v with
 | .tag k _=>match tags.find? (fun x=>x.1==k) with
  | some x=>f x.2
  | none=>d
 | _=>d
def Ver.dropT (v:Ver) (tags:List (Nat × List UInt8)):List (Nat × List UInt8) :=
 match v with
 | .tag k _=>tags.filter fun x=>x.1 != k
 | _=>tags
theorem Ver.ckT_no {v:Ver} (h:v.isTag=false) (f:List UInt8->Bool) (ck:Nat->List UInt8->Bool):v.ckT f ck=ck:=by cases v<;>first | rfl | cases h
theorem Ver.getT_no {v:Ver} (h:v.isTag=false) (d:D) (f:List UInt8->D) (tags:List (Nat × List UInt8)):v.getT d f tags=d:=by cases v<;>first | rfl | cases h
theorem Ver.dropT_no {v:Ver} (h:v.isTag=false) (tags:List (Nat × List UInt8)):v.dropT tags=tags:=by cases v<;>first | rfl | cases h
def rdL (fx:Bool) (st:RSt):Int × RSt:=if fx then zG st else vW st
def xX (fx:Bool) (st:RSt):Int × RSt:=if fx then zG st else jy st
def xp (fx:Bool) (st:RSt):Int × RSt:=if fx then rdCc st else rdC4 st
def jB (null:Option Nat) (ver:Nat) (n:Int):Bool :=
 match null with
 | none=>false
 | some N=>decide (ver<N)||n==0
mutual
def Ty.rd (fx:Bool) (ver:Nat):Ty->RSt->D × RSt
 | .scal s _,st | .named s _ _,st=>(.int (s.rd st).1,(s.rd st).2)
 | .uuid,st=>(.bytes (some (qq 16 st).1),(qq 16 st).2)
 | .text,st=>(.bytes (some (zp (rdL fx st)).1),(zp (rdL fx st)).2)
 | .ntext,st=>(.bytes (qP (rdL fx st)).1,(qP (rdL fx st)).2)
 | .ntextFrom N,st=>if ver<N then (.bytes (some (zp (rdL fx st)).1),(zp (rdL fx st)).2) else (.bytes (qP (rdL fx st)).1,(qP (rdL fx st)).2)
 | .bytes,st=>(.bytes (xL (xX fx st)).1,(xL (xX fx st)).2)
 | .nbytes,st=>(.bytes (qP (xX fx st)).1,(qP (xX fx st)).2)
 | .list _ null e,st =>
  if (xp fx st).2.2 then (.list none,(xp fx st).2)
  else if (xp fx st).1<=0 then (if jB null ver (xp fx st).1 then .list (some []) else .list none,(xp fx st).2)
  else (.list (some (xf (fun s=>e.rd fx ver s) (xp fx st).1.toNat (xp fx st).2).1),(xf (fun s=>e.rd fx ver s) (xp fx st).1.toNat (xp fx st).2).2)
 | .struct _ _ _ fs,st=>(.obj (fs.rd fx ver noK st).1 (fs.rd fx ver noK st).2.1,(fs.rd fx ver noK st).2.2)
 | .nstruct _ _ _ fs _,st =>
  if (Scal.i8.rd st).1 = -1\/(Scal.i8.rd st).2.2=true then (.list none,(Scal.i8.rd st).2)
  else (.list (some [.obj (fs.rd fx ver noK (Scal.i8.rd st).2).1 (fs.rd fx ver noK (Scal.i8.rd st).2).2.1]),(fs.rd fx ver noK (Scal.i8.rd st).2).2.2)
def Flds.rd (fx:Bool) (ver:Nat) (ck:Nat->List UInt8->Bool):Flds->RSt->List D × List (Nat × List UInt8) × RSt
 | .nil _,st=>if fx then ([],zw ck st) else ([],[],st)
 | .cons v t r,st =>
  if v.has ver then ((t.rd fx ver st).1::(Flds.rd fx ver ck r (t.rd fx ver st).2).1,(Flds.rd fx ver ck r (t.rd fx ver st).2).2)
  else (v.getT t.dflt (fun p=>(t.rd fx ver (p,false)).1) (Flds.rd fx ver (v.ckT (fun p=>!(t.rd fx ver (p,false)).2.2) ck) r st).2.1::(Flds.rd fx ver (v.ckT (fun p=>!(t.rd fx ver (p,false)).2.2) ck) r st).1,
   v.dropT (Flds.rd fx ver (v.ckT (fun p=>!(t.rd fx ver (p,false)).2.2) ck) r st).2.1,(Flds.rd fx ver (v.ckT (fun p=>!(t.rd fx ver (p,false)).2.2) ck) r st).2.2)
end
theorem Scal.rd_mono {k:Scal} {st:RSt} (h:(k.rd st).2.2=false):st.2=false:=by
 cases k<;>exact wJ h
theorem yM {f:RSt->D × RSt} (hf:∀ st,(f st).2.2=false->st.2=false):∀ (n:Nat) (st:RSt),(xf f n st).2.2=false->st.2=false
 | 0,st,h=>h
 | n+1,st,h=>hf st (yM hf n _ h)
theorem yf {st:RSt} (h:(xn st).2.2=false):st.2=false:=zk (zk (qO h))
theorem j3:∀ (n:Nat) (l:List (Nat × List UInt8)) (st:RSt),(qR n l st).2.2=false->st.2=false
 | 0,l,st,h=>h
 | n+1,l,st,h=>yf (j3 n _ _ h)
theorem zD {ck:Nat->List UInt8->Bool}:∀ (n:Nat) (l:List (Nat × List UInt8)) (st:RSt),(qC ck n l st).2.2=false->st.2=false
 | 0,l,st,h=>h
 | n+1,l,st,h=>by
  have:=zD n _ _ h
  simp only[Bool.or_eq_false_iff] at this
  exact yf this.1
theorem rdTagsK_mono {ck:Nat->List UInt8->Bool} {st:RSt} (h:(zw ck st).2.2=false):st.2=false:=zk (zD _ _ _ h)
theorem wK {fx:Bool} {st:RSt} (h:(rdL fx st).2.2=false):st.2=false:=by
 unfold rdL at h
 split at h
 ·exact zk h
 ·exact wJ h
theorem rdLB_mono {fx:Bool} {st:RSt} (h:(xX fx st).2.2=false):st.2=false:=by
 unfold xX at h
 split at h
 ·exact zk h
 ·exact wJ h
theorem je {p:Int × RSt} (h:(qP p).2.2=false):p.2.2=false:=by
 unfold qP at h
 split at h
 ·exact h
 ·exact qO h
theorem rdOct_mono {p:Int × RSt} (h:(xL p).2.2=false):p.2.2=false:=by
 unfold xL at h
 split at h
 ·exact h
 ·exact qO h
theorem yg {p:Int × RSt} (h:(z5 p).2.2=false):p.2.2=false:=by
 unfold z5 at h
 split at h
 ·cases h
 ·exact h
theorem rdCn_mono {fx:Bool} {st:RSt} (h:(xp fx st).2.2=false):st.2=false:=by
 unfold xp at h
 split at h
 ·exact zk (yg h)
 ·exact wJ (yg h)
mutual
theorem Ty.rd_mono (fx:Bool) (ver:Nat):∀ (t:Ty) (st:RSt),(t.rd fx ver st).2.2=false->st.2=false
 | .scal s _,st,h | .named s _ _,st,h=>Scal.rd_mono (k:=s) (by simpa only[Ty.rd] using h)
 | .uuid,st,h=>qO (l:=16) (by simpa only[Ty.rd] using h)
 | .text,st,h=>wK (fx:=fx) (qO (l:=(rdL fx st).1) (by simpa only[Ty.rd,zp] using h))
 | .ntext,st,h=>wK (fx:=fx) (je (by simpa only[Ty.rd] using h))
 | .ntextFrom N,st,h=>by
  simp only[Ty.rd] at h
  split at h
  ·exact wK (fx:=fx) (qO (l:=(rdL fx st).1) (by simpa only[zp] using h))
  ·exact wK (fx:=fx) (je h)
 | .bytes,st,h=>rdLB_mono (fx:=fx) (rdOct_mono (by simpa only[Ty.rd] using h))
 | .nbytes,st,h=>rdLB_mono (fx:=fx) (je (by simpa only[Ty.rd] using h))
 | .list _ null e,st,h=>by
  simp only[Ty.rd] at h
  split at h
  ·rename_i hh;rw[hh] at h;cases h
  ·rename_i hh
   exact rdCn_mono (by simpa using hh)
 | .struct _ _ _ fs,st,h=>Flds.rd_mono fx ver fs st (by simpa only[Ty.rd] using h)
 | .nstruct _ _ _ fs _,st,h=>by
  simp only[Ty.rd] at h
  split at h
  ·exact Scal.rd_mono (k:=.i8) h
  ·exact Scal.rd_mono (k:=.i8) (Flds.rd_mono fx ver fs _ h)
theorem Flds.rd_mono (fx:Bool) (ver:Nat):∀ (t:Flds) {ck:Nat->List UInt8->Bool} (st:RSt),(t.rd fx ver ck st).2.2.2=false->st.2=false
 | .nil _,ck,st,h=>by
  cases fx with
  | true=>exact rdTagsK_mono (by simpa [Flds.rd] using h)
  | false=>simpa [Flds.rd] using h
 | .cons v t r,ck,st,h=>by
  simp only[Flds.rd] at h
  split at h
  ·exact Ty.rd_mono fx ver t st (Flds.rd_mono fx ver r _ h)
  ·exact Flds.rd_mono fx ver r _ h
end
end Go.Km
namespace Go.Km
open Go Go.RowKit
attribute [local irreducible] vc rO_ qz
mutual
def Ty.okD (P:Program) (E:Env):Ty->Bool
 | .scal k df=>df==0||qQ P (E.tScal k)
 | .named k T df=>df==0||qQ P T
 | .struct _ TU _ fs=>fs.okD P E TU 0 0
 | _=>true
def Flds.okD (P:Program) (E:Env) (TU:TypeId) (idx off:Nat):Flds->Bool
 | .nil _=>true
 | .cons _ t r=>qk P TU idx==some off&&t.okD P E&&r.okD P E TU (idx+1) (off+t.size)
end
mutual
def Ty.over:Ty->List Value->List Value
 | .scal k df,cs=>if df=0 then cs else [k.val df]
 | .named k _ df,cs=>if df=0 then cs else [k.val df]
 | .struct _ _ _ fs,cs=>fs.over cs
 | _,cs=>cs
def Flds.over:Flds->List Value->List Value
 | .nil _,cs=>cs
 | .cons _ t r,cs=>t.over (cs.take t.size)++r.over (cs.drop t.size)
end
mutual
def Ty.zc:Ty->List Value
 | .scal k _ | .named k _ _=>[k.val 0]
 | .uuid=>List.replicate 16 (.int .u8 0)
 | .text=>[.string ⟨#[]⟩]
 | .ntext | .ntextFrom _ | .nstruct _ _ _ _ _=>[.pointer none]
 | .bytes | .nbytes=>[.slice none 0 0]
 | .list _ _ _=>[.slice none 0 0]
 | .struct _ _ _ fs=>fs.zc
def Flds.zc:Flds->List Value
 | .nil t=>if t then [.map none] else []
 | .cons _ t r=>t.zc++r.zc
end
mutual
def Ty.dz:Ty->List Value
 | .scal k df | .named k _ df=>[k.val df]
 | .uuid=>List.replicate 16 (.int .u8 0)
 | .text=>[.string ⟨#[]⟩]
 | .ntext | .ntextFrom _ | .nstruct _ _ _ _ _=>[.pointer none]
 | .bytes | .nbytes=>[.slice none 0 0]
 | .list _ _ _=>[.slice none 0 0]
 | .struct _ _ _ fs=>fs.dz
def Flds.dz:Flds->List Value
 | .nil t=>if t then [.map none] else []
 | .cons _ t r=>t.dz++r.dz
end
mutual
theorem Ty.zc_len:∀ t:Ty,t.zc.length=t.size
 | .scal _ _ | .named _ _ _ | .text | .ntext | .ntextFrom _ | .bytes | .nbytes | .list _ _ _ | .nstruct _ _ _ _ _=>by simp[Ty.zc,Ty.size]
 | .uuid=>by simp[Ty.zc,Ty.size]
 | .struct _ _ _ fs=>by simp[Ty.zc,Ty.size,Flds.zc_len fs]
theorem Flds.zc_len:∀ t:Flds,t.zc.length=t.size
 | .nil t=>by cases t<;>simp[Flds.zc,Flds.size]
 | .cons _ t r=>by simp[Flds.zc,Flds.size,Ty.zc_len t,Flds.zc_len r]
end
mutual
theorem Ty.dz_len:∀ t:Ty,t.dz.length=t.size
 | .scal _ _ | .named _ _ _ | .text | .ntext | .ntextFrom _ | .bytes | .nbytes | .list _ _ _ | .nstruct _ _ _ _ _=>by simp[Ty.dz,Ty.size]
 | .uuid=>by simp[Ty.dz,Ty.size]
 | .struct _ _ _ fs=>by simp[Ty.dz,Ty.size,Flds.dz_len fs]
theorem Flds.dz_len:∀ t:Flds,t.dz.length=t.size
 | .nil t=>by cases t<;>simp[Flds.dz,Flds.size]
 | .cons _ t r=>by simp[Flds.dz,Flds.size,Ty.dz_len t,Flds.dz_len r]
end
mutual
theorem Ty.over_len:∀ (t:Ty) (cs:List Value),cs.length=t.size->(t.over cs).length=t.size
 | .scal _ _,cs,h | .named _ _ _,cs,h=>by
  simp only[Ty.over]
  split
  ·exact h
  ·simp[Ty.size]
 | .struct _ _ _ fs,cs,h=>by simp only[Ty.over,Ty.size] at *;exact Flds.over_len fs cs h
 | .uuid,cs,h | .text,cs,h | .ntext,cs,h | .ntextFrom _,cs,h | .bytes,cs,h | .nbytes,cs,h | .list _ _ _,cs,h | .nstruct _ _ _ _ _,cs,h=>h
theorem Flds.over_len:∀ (t:Flds) (cs:List Value),cs.length=t.size->(t.over cs).length=t.size
 | .nil t,cs,h=>h
 | .cons _ t r,cs,h=>by
  simp only[Flds.size] at h
  simp only[Flds.over,Flds.size,List.length_append]
  rw[Ty.over_len t _ (by simp;omega),Flds.over_len r _ (by simp;omega)]
end
mutual
theorem Ty.over_zc:∀ t:Ty,t.over t.zc=t.dz
 | .scal _ df | .named _ _ df=>by
  simp only[Ty.over,Ty.zc,Ty.dz]
  split
  ·rename_i h;rw[h]
  ·rfl
 | .struct _ _ _ fs=>by simp only[Ty.over,Ty.zc,Ty.dz,Flds.over_zc fs]
 | .uuid | .text | .ntext | .ntextFrom _ | .bytes | .nbytes | .list _ _ _ | .nstruct _ _ _ _ _=>rfl
theorem Flds.over_zc:∀ t:Flds,t.over t.zc=t.dz
 | .nil t=>rfl
 | .cons _ t r=>by
  simp only[Flds.over,Flds.zc,Flds.dz]
  rw[← Ty.zc_len t,List.take_left,List.drop_left,Ty.over_zc t,Flds.over_zc r]
end
mutual
theorem Ty.over_dz:∀ t:Ty,t.over t.dz=t.dz
 | .scal _ df | .named _ _ df=>by
  simp only[Ty.over,Ty.dz]
  split<;>rfl
 | .struct _ _ _ fs=>by simp only[Ty.over,Ty.dz,Flds.over_dz fs]
 | .uuid | .text | .ntext | .ntextFrom _ | .bytes | .nbytes | .list _ _ _ | .nstruct _ _ _ _ _=>rfl
theorem Flds.over_dz:∀ t:Flds,t.over t.dz=t.dz
 | .nil t=>rfl
 | .cons _ t r=>by
  simp only[Flds.over,Flds.dz]
  rw[← Ty.dz_len t,List.take_left,List.drop_left,Ty.over_dz t,Flds.over_dz r]
end
theorem Scal.val_one (k:Scal) (n:Int):(k.val n).oneCell'=true:=by cases k<;>rfl
theorem qb.append {w:World} {b o:Nat} {xs ys:List Value} (h1:qb w b o xs) (h2:qb w b (o+xs.length) ys):qb w b o (xs++ys):=by
 intro i v hv
 rcases Nat.lt_or_ge i xs.length with h | h
 ·rw[List.getElem?_append_left h] at hv;exact h1 i v hv
 ·rw[List.getElem?_append_right h] at hv
  have:=h2 _ v hv
  rwa [show o+xs.length+(i-xs.length)=o+i by omega] at this
theorem qb.tk {w:World} {b o n:Nat} {xs:List Value} (h:qb w b o xs):qb w b o (xs.take n):=by
 intro i v hv
 rw[List.getElem?_take] at hv
 split at hv
 ·exact h i v hv
 ·cases hv
theorem qb.dp {w:World} {b o n:Nat} {xs:List Value} (h:qb w b o xs):qb w b (o+n) (xs.drop n):=by
 intro i v hv
 rw[List.getElem?_drop] at hv
 have:=h _ v hv
 rwa [show o+(n+i)=o+n+i by omega] at this
section
variable {P : Program} {E : Env}
def DQ (P:Program) (b o n L:Nat) (cs:List Value) (A:Act) (W:World) (rest:List Code) (Q:Exit->Act->World->Prop):Prop :=
 ∀ A' W',A'.tmps.size=A.tmps.size->A'.defers=A.defers->(∀ k:Nat,k<n->A'.eval (.tmp k)=A.eval (.tmp k))->Eff (fun k i=>k=b/\o<=i/\i<o+L) W W'->qb W' b o cs->vc P (sq rest) Q A' W'
theorem d_store {TP TU T:TypeId} {s idx n t b o0 off:Nat} {v:Value} {rest:List Code} {Q:Exit->Act->World->Prop} {A:Act} {W:World}
  (hs:A.eval (.tmp s)=.pointer (some ⟨b,o0,none⟩)) (ho:qk P TU idx=some off) (hT:qQ P T=true) (hv:v.oneCell'=true) (hsn:s<n) (hnt:n<=t) (hsz:t+3<=A.tmps.size) (hf:qt W b (o0+off))
  (h:DQ P b (o0+off) n 1 [v] A W rest Q):vc P (sq (rg [qd t (.tmp s) TP,jk (t+1) (.tmp t),xB (t+2) TU (.tmp (t+1)) idx,zf T (.tmp (t+2)) (.const v)]::rest)) Q A W:=by
 refine vX (rM ?_)
 refine qY (ad:=⟨b,o0,none⟩) zA ?_
 refine rF (b:=b) (o:=o0) zE ho ?_
 refine xq (b:=b) (o:=o0+off) (v:=v) zE rfl hv hT hf ?_
 refine dn ?_
 refine h _ _ (by simp only[zP]) (by simp only[dF]) (fun k hk=>zE) ((Eff.refl _ W).setCell _ _ _ (fun _=>⟨rfl,Nat.le_refl _,by omega⟩)) ?_
 intro i u hu
 cases i with
 | zero =>
  simp only[List.getElem?_cons_zero,Option.some.injEq] at hu
  subst hu
  exact qp v hf.1
 | succ i=>simp at hu
mutual
theorem Ty.dc_ok:∀ (ty:Ty) {TP TU:TypeId} {s idx n t b o0 off:Nat} {cs:List Value} {rest:List Code} {Q:Exit->Act->World->Prop} {A:Act} {W:World},
  ty.okD P E=true->qk P TU idx=some off->A.eval (.tmp s)=.pointer (some ⟨b,o0,none⟩)->s<n->n+ty.dn<=t->t+ty.dt<=A.tmps.size->cs.length=ty.size->qb W b (o0+off) cs->(∀ i,i<ty.size->qt W b (o0+off+i)) →
  DQ P b (o0+off) n ty.size (ty.over cs) A W rest Q->vc P (sq (ty.dc E TP TU s idx n t++rest)) Q A W
 | .scal k df,TP,TU,s,idx,n,t,b,o0,off,cs,rest,Q,A,W,hok,ho,hs,hsn,hnt,hsz,hl,hc,hf,h=>by
  simp only[Ty.dc,Ty.over,Ty.dt,Ty.dn,Ty.okD] at *
  split at h
  ·rename_i h0
   rw[if_pos h0]
   exact h A W rfl rfl (fun _ _=>rfl) (Eff.refl _ W) hc
  ·rename_i h0
   rw[if_neg h0] at hsz ⊢
   simp only[Bool.or_eq_true,beq_iff_eq,h0,false_or] at hok
   exact d_store hs ho hok (k.val_one df) hsn zH hsz (hf 0 (by simp[Ty.size])) h
 | .named k T df,TP,TU,s,idx,n,t,b,o0,off,cs,rest,Q,A,W,hok,ho,hs,hsn,hnt,hsz,hl,hc,hf,h=>by
  simp only[Ty.dc,Ty.over,Ty.dt,Ty.dn,Ty.okD] at *
  split at h
  ·rename_i h0
   rw[if_pos h0]
   exact h A W rfl rfl (fun _ _=>rfl) (Eff.refl _ W) hc
  ·rename_i h0
   rw[if_neg h0] at hsz ⊢
   simp only[Bool.or_eq_true,beq_iff_eq,h0,false_or] at hok
   exact d_store hs ho hok (k.val_one df) hsn zH hsz (hf 0 (by simp[Ty.size])) h
 | .struct TP' TU' FD fs,TP,TU,s,idx,n,t,b,o0,off,cs,rest,Q,A,W,hok,ho,hs,hsn,hnt,hsz,hl,hc,hf,h=>by
  simp only[Ty.dc,Ty.over,Ty.dt,Ty.dn,Ty.okD,Ty.size] at *
  refine vc_sq_flat ?_
  simp only[List.cons_append,List.nil_append]
  refine vX (rM ?_)
  refine qY (ad:=⟨b,o0,none⟩) zA ?_
  refine rF (b:=b) (o:=o0) zE ho ?_
  refine rA (dn (vX (rM (dn ?_))))
  refine Flds.dc_ok fs (b:=b) (o0:=o0+off) (off:=0) (cs:=cs) hok zE zH zH (by simp only[zP];omega) hl (by rw[Nat.add_zero];exact hc) (by rw[Nat.add_zero];exact hf) ?_
  rw[Nat.add_zero]
  intro A' W' a1 a2 a3 a4 a5
  refine h A' W' (by rw[a1];simp only[zP]) (by rw[a2];simp only[dF]) (fun k hk=>?_) a4 a5
  rw[a3 k zH]
  exact zE
 | .nstruct _ _ _ _ PP,TP,TU,s,idx,n,t,b,o0,off,cs,rest,Q,A,W,hok,ho,hs,hsn,hnt,hsz,hl,hc,hf,h=>by
  simp only[Ty.dc,Ty.over,Ty.dt,Ty.dn,Ty.okD,Ty.size] at *
  refine vc_sq_flat ?_
  simp only[List.cons_append,List.nil_append]
  refine vX (rM ?_)
  refine qY (ad:=⟨b,o0,none⟩) zA ?_
  refine rF (b:=b) (o:=o0) zE ho ?_
  refine rA (dn (vX (rM (dn ?_))))
  exact h _ W (by simp only[zP]) (by simp only[dF]) (fun k hk=>zE) (Eff.refl _ W) hc
 | .uuid,TP,TU,s,idx,n,t,b,o0,off,cs,rest,Q,A,W,hok,ho,hs,hsn,hnt,hsz,hl,hc,hf,h
 | .text,TP,TU,s,idx,n,t,b,o0,off,cs,rest,Q,A,W,hok,ho,hs,hsn,hnt,hsz,hl,hc,hf,h
 | .ntext,TP,TU,s,idx,n,t,b,o0,off,cs,rest,Q,A,W,hok,ho,hs,hsn,hnt,hsz,hl,hc,hf,h
 | .ntextFrom _,TP,TU,s,idx,n,t,b,o0,off,cs,rest,Q,A,W,hok,ho,hs,hsn,hnt,hsz,hl,hc,hf,h
 | .bytes,TP,TU,s,idx,n,t,b,o0,off,cs,rest,Q,A,W,hok,ho,hs,hsn,hnt,hsz,hl,hc,hf,h
 | .nbytes,TP,TU,s,idx,n,t,b,o0,off,cs,rest,Q,A,W,hok,ho,hs,hsn,hnt,hsz,hl,hc,hf,h
 | .list _ _ _,TP,TU,s,idx,n,t,b,o0,off,cs,rest,Q,A,W,hok,ho,hs,hsn,hnt,hsz,hl,hc,hf,h=>h A W rfl rfl (fun _ _=>rfl) (Eff.refl _ W) hc
theorem Flds.dc_ok:∀ (fs:Flds) {TP TU:TypeId} {s idx n t b o0 off:Nat} {cs:List Value} {rest:List Code} {Q:Exit->Act->World->Prop} {A:Act} {W:World},
  fs.okD P E TU idx off=true->A.eval (.tmp s)=.pointer (some ⟨b,o0,none⟩)->s<n->n+fs.dn<=t->t+fs.dt<=A.tmps.size->cs.length=fs.size->qb W b (o0+off) cs->(∀ i,i<fs.size->qt W b (o0+off+i)) →
  DQ P b (o0+off) n fs.size (fs.over cs) A W rest Q->vc P (sq (fs.dc E TP TU s idx n t++rest)) Q A W
 | .nil tg,TP,TU,s,idx,n,t,b,o0,off,cs,rest,Q,A,W,hok,hs,hsn,hnt,hsz,hl,hc,hf,h=>h A W rfl rfl (fun _ _=>rfl) (Eff.refl _ W) hc
 | .cons v ty r,TP,TU,s,idx,n,t,b,o0,off,cs,rest,Q,A,W,hok,hs,hsn,hnt,hsz,hl,hc,hf,h=>by
  simp only[Flds.okD,Bool.and_eq_true,beq_iff_eq] at hok
  simp only[Flds.dc,Flds.size,Flds.dn,Flds.dt,Flds.over,List.append_assoc] at *
  obtain ⟨⟨h1,h2⟩,h3⟩:=hok
  refine Ty.dc_ok ty (cs:=cs.take ty.size) h2 h1 hs hsn zH zH (by simp;omega) hc.tk (fun i hi=>hf i zH) ?_
  intro A' W' a1 a2 a3 a4 a5
  have hc2:qb W' b (o0+(off+ty.size)) (cs.drop ty.size):=by
   rw[show o0+(off+ty.size)=o0+off+ty.size by omega]
   exact hc.dp.eff a4 (by rintro i hi ⟨_,_,h⟩;omega)
  refine Flds.dc_ok r (cs:=cs.drop ty.size) h3 (by rw[a3 s hsn];exact hs) zH zH (by rw[a1];omega) (by simp;omega) hc2 (fun i hi=>?_) ?_
  ·have:=(hf (ty.size+i) zH).eff a4
   rwa [show o0+off+(ty.size+i)=o0+(off+ty.size)+i by omega] at this
  intro A2 W2 b1 b2 b3 b4 b5
  refine h A2 W2 (by rw[b1,a1]) (by rw[b2,a2]) (fun k hk=>by rw[b3 k zH,a3 k hk]) (a4.mono (fun k i _ ⟨x,y,z⟩=>⟨x,y,by omega⟩) |>.trans' b4 (fun k i _ ⟨x,y,z⟩=>⟨x,by omega,by omega⟩)) ?_
  have hol:=Ty.over_len ty (cs.take ty.size) (by simp;omega)
  refine (a5.eff b4 (by rintro i hi ⟨_,h,_⟩;omega)).append ?_
  rw[hol]
  rwa [show o0+(off+ty.size)=o0+off+ty.size by omega] at b5
end
end
end Go.Km
namespace Go.Km
open Go Go.RowKit
attribute [local irreducible] vc rO_ qz
def Scal.okB:Scal->Int->Bool
 | .bool,n=>n==0||n==1
 | .i8,n=>decide (-128<=n)&&decide (n<=127)
 | .i16,n=>decide (-32768<=n)&&decide (n<=32767)
 | .u16,n=>decide (0<=n)&&decide (n<=65535)
 | .i32,n=>decide (-2147483648<=n)&&decide (n<=2147483647)
 | .i64,n=>decide (-9223372036854775808<=n)&&decide (n<=9223372036854775807)
 | .f64,n=>decide (0<=n)&&decide (n<18446744073709551616)
theorem Scal.okB_ok {k:Scal} {n:Int} (h:k.okB n=true):k.ok n:=by
 cases k<;>simpa [Scal.okB,Scal.ok] using h
mutual
def Ty.okZ:Ty->Bool
 | .scal k df | .named k _ df=>k.okB df
 | .struct _ _ _ fs=>fs.okZ && !fs.tagged
 | _=>true
def Flds.okZ:Flds->Bool
 | .nil _=>true
 | .cons _ t r=>t.okZ&&r.okZ
def Flds.tagged:Flds->Bool
 | .nil _=>false
 | .cons _ _ r=>r.tagged
end
mutual
theorem Ty.dz_rep {w:World} {sb:Sb} (hT:sb.T []):∀ (t:Ty) (B:Nat),t.okZ=true->t.Rep w sb B t.dz t.dflt
 | .scal k df,B,h=>⟨rfl,k.okB_ok h⟩
 | .named k _ df,B,h=>⟨rfl,k.okB_ok h⟩
 | .uuid,B,_=>⟨by simp,by simp[Ty.dz,bv]⟩
 | .text,B,_=>rfl
 | .ntext,B,_=>rfl
 | .ntextFrom _,B,_=>rfl
 | .bytes,B,_=>rfl
 | .nbytes,B,_=>rfl
 | .list _ _ _,B,_=>rfl
 | .nstruct _ _ _ _ _,B,_=>rfl
 | .struct _ _ _ fs,B,h=>by
  simp only[Ty.okZ,Bool.and_eq_true] at h
  exact Flds.dz_rep hT fs B h.1
theorem Flds.dz_rep {w:World} {sb:Sb} (hT:sb.T []):∀ (fs:Flds) (B:Nat),fs.okZ=true->fs.Rep w sb B fs.dz fs.dflt []
 | .nil t,B,_=>by
  cases t with
  | false=>exact ⟨rfl,rfl⟩
  | true=>exact ⟨.map none,rfl,⟨List.Pairwise.nil,by simp⟩,hT,.inl ⟨rfl,rfl⟩⟩
 | .cons v t r,B,h=>by
  simp only[Flds.okZ,Bool.and_eq_true] at h
  refine ⟨?_,?_,?_⟩
  ·simp only[Flds.dz]
   rw[← Ty.dz_len t,List.take_left]
   exact Ty.dz_rep hT t B h.1
  ·simp only[Flds.dz]
   rw[← Ty.dz_len t,List.drop_left]
   exact Flds.dz_rep hT r B h.2
  ·cases v<;>simp[Ver.tagOk]
end
section
variable {P : Program} {E : Env}
theorem c_dflt {TP TU:TypeId} {idx:Nat} {fs:Flds} {FD:FuncId} {np nt off:Nat} (ht:Text P FD np nt #[] (dcode E TP TU idx fs)) (hnt:2+fs.dn+fs.dt<=nt) (hok:fs.okD P E TU idx off=true)
  {b o:Nat} {cs:List Value} {W:World} (hl:cs.length=fs.size) (hc:qb W b (o+off) cs) (hf:∀ i,i<fs.size->qt W b (o+off+i)) :
  qa P FD #[.pointer (some ⟨b,o,none⟩)] W fun v w'=>Eff (fun k i=>k=b/\o+off<=i/\i<o+off+fs.size) W w'/\qb w' b (o+off) (fs.over cs):=by
 refine qa.enter ht (by simp;omega) ?_
 intro a hsz hdf harg
 have e0:=harg 0 (.pointer (some ⟨b,o,none⟩)) zS
 unfold dcode
 have:=Flds.dc_ok fs (E:=E) (P:=P) (TP:=TP) (TU:=TU) (s:=0) (idx:=idx) (n:=2) (t:=2+fs.dn) (b:=b) (o0:=o) (off:=off) (cs:=cs) (rest:=[]) (Q:=Out P #[] fun v w'=>Eff (fun k i=>k=b/\o+off<=i/\i<o+off+fs.size) W w'/\qb w' b (o+off) (fs.over cs)) (A:=a) (W:=W) hok e0 zH (Nat.le_refl _) zH hl hc hf
 rw[List.append_nil] at this
 refine this ?_
 intro A' W' a1 a2 a3 a4 a5
 refine vN ?_
 exact ⟨by rw[a2];exact hdf,.tuple #[],by simp[results],a4,a5⟩
def gn (m:Msg):Code :=
 sq [rg [qc 0 (.const (.pointer none)) m.TP],rg [yn 1 m.TU],rg [xi (some 2) m.FD #[.tmp 1] #[m.TU] 0],rg [qc 0 (.tmp 1) m.TP],.ret]
def c_maxV (E:Env) (mx:Nat):Code:=sq [rg [qc 2 (.const (.int .i16 0)) E.tI16],rg [qc 2 (.const (.int .i16 mx)) E.tI16],.ret]
def c_setV (E:Env) (m:Msg):Code :=
 rg [qd 4 (.tmp 0) m.TP,qd 5 (.tmp 1) E.tI16,jk 6 (.tmp 4),xB 7 m.TU (.tmp 6) 0,zf E.tI16 (.tmp 7) (.tmp 5)]
def NewC (P:Program) (f:FuncId) (m:Msg):Prop:=∀ w,qa P f #[] w fun v w'=>v=.pointer (some ⟨w.heap.size,0,none⟩)/\Below w.heap.size w w'/\w.heap.size<w'.heap.size ∧
 qb w' w.heap.size 0 (.int .i16 0::m.fs.dz)/\∀ i,i<m.fs.size+1->qt w' w.heap.size i
theorem c_newPtr_ok {m:Msg} {f:FuncId} {np nt npd ntd:Nat} (ht:Text P f np nt #[.tmp 0] (gn m)) (hn:3<=nt) (hd:Text P m.FD npd ntd #[] (dcode E m.TP m.TU 1 m.fs)) (hnd:2+m.fs.dn+m.fs.dt<=ntd) (hok:m.fs.okD P E m.TU 1 1=true)
  (hz:(qK P m.TU).map (·.cells.toList)=some (.int .i16 0::m.fs.zc)):NewC P f m:=by
 intro w
 obtain ⟨z,hz0,hzc⟩:∃ z,qK P m.TU=some z/\z.cells.toList=.int .i16 0::m.fs.zc:=by
  cases h:qK P m.TU with
  | none=>rw[h] at hz;cases hz
  | some z=>rw[h] at hz;exact ⟨z,rfl,by simpa using hz⟩
 have hzl:z.cells.size=m.fs.size+1:=by
  have:=congrArg List.length hzc
  simpa [Flds.zc_len] using this
 refine qa.enter ht zS ?_
 intro a hsz hdf harg
 unfold gn
 refine vX (rA (dn (vX ?_)))
 refine qI hz0 ?_
 refine dn ?_
 have hb0:Below w.heap.size w (w.alloc (.cells z.cells m.TU)):=(Below.refl w.heap.size w).alloc (o:=.cells _ _) (Nat.le_refl _)
 have hfr:∀ i,i<m.fs.size+1->qt (w.alloc (.cells z.cells m.TU)) w.heap.size i:=fun i hi=>qm w _ m.TU zH
 have hcz:qb (w.alloc (.cells z.cells m.TU)) w.heap.size 0 (.int .i16 0::m.fs.zc):=by
  intro i v hv
  rw[Nat.zero_add]
  refine qs w _ m.TU ?_
  rw[← hzc] at hv
  simpa using hv
 have hz1:w.heap.size<(w.alloc (.cells z.cells m.TU)).heap.size:=by simp
 generalize w.alloc (.cells z.cells m.TU)=W at *
 generalize w.heap.size=b at *
 refine vX ?_
 refine q8 (args:=#[.pointer (some ⟨b,0,none⟩)]) ?_ (c_dflt (b:=b) (o:=0) (cs:=m.fs.zc) hd hnd hok (Flds.zc_len _) (hcz.dp (n:=1)) (fun i hi=>by have:=hfr (i+1) zH;rwa [show 0+1+i=i+1 by omega])) ?_
 ·simp only[lM]
  exact zE
 rintro v W1 ⟨h1,h2⟩
 refine dn (vX (rA (dn (vS (vT ?_)))))
 refine ⟨by simp only[dF];exact hdf,.pointer (some ⟨b,0,none⟩),rO ?_,rfl,hb0.trans (h1.below zH (by rintro k i hk ⟨h,_⟩;omega)),Nat.lt_of_lt_of_le hz1 h1.size,?_,fun i hi=>(hfr i hi).eff h1⟩
 ·exact zE
 ·rw[Flds.over_zc] at h2
  have h0:qb W1 b 0 [.int .i16 0]:=(hcz.tk (n:=1)).eff h1 (by intro i hi ⟨_,h,_⟩;simp at hi;omega)
  exact h0.append h2
theorem c_maxV_ok {f:FuncId} {np nt mx:Nat} (ht:Text P f np nt #[.tmp 2] (c_maxV E mx)) (hn:3<=nt) (x:Value) (w:World):qa P f #[x] w fun v w'=>v=.int .i16 mx/\w'=w:=by
 refine qa.enter ht (by simp;omega) ?_
 intro a hsz hdf harg
 unfold c_maxV
 refine vX (rA (dn (vX (rA (dn (vS (vT ?_)))))))
 exact ⟨by simp only[dF];exact hdf,.int .i16 mx,rO zE,rfl,rfl⟩
theorem c_setV_ok {m:Msg} {f:FuncId} {np nt:Nat} (ht:Text P f np nt #[] (c_setV E m)) (hn:8<=nt) (ho:qk P m.TU 0=some 0) (hT:qQ P E.tI16=true) {b o:Nat} {ver:Int} {w:World} (hf:qt w b o) :
  qa P f #[.pointer (some ⟨b,o,none⟩),.int .i16 ver] w fun v w'=>w'=w.setCell ⟨b,o,none⟩ (.int .i16 ver):=by
 refine qa.enter ht (by simp;omega) ?_
 intro a hsz hdf harg
 have e0:=harg 0 (.pointer (some ⟨b,o,none⟩)) zS
 have e1:=harg 1 (.int .i16 ver) zS
 unfold c_setV
 refine vR zS ?_
 refine rM (rM ?_)
 refine qY (ad:=⟨b,o,none⟩) zA ?_
 refine rF (b:=b) (o:=o) zE ho ?_
 refine xq (b:=b) (o:=o+0) (v:=.int .i16 ver) zE zA rfl hT (by simpa using hf) ?_
 refine dn ?_
 exact ⟨by simp only[dF];exact hdf,.tuple #[],by simp[results],by simp⟩
end
end Go.Km
namespace Go.Km
open Go Go.RowKit
attribute [local irreducible] vc rO_ qz qJ qF
theorem wq.eff {M:Nat->Nat->Prop} {w w':World} {sb:Sb} {B B':Nat} {v:Value} {l:List UInt8} (he:Eff M w w') (hsb:∀ i,¬ M sb.b i) (hM:∀ k i,B<=k->k<w.heap.size->¬ M k i) (hB:B'<=B) (h:wq w sb B v l):wq w' sb B' v l:=by
 rcases h with h | ⟨c,o,cap,hv,hc,hs,h⟩
 ·exact .inl h
 ·refine .inr ⟨c,o,cap,hv,hc.imp id (fun h=>by omega),Nat.lt_of_lt_of_le hs he.size,h.eff he (fun i _=>?_)⟩
  rcases hc with rfl | hc
  ·exact hsb _
  ·exact hM _ _ hc hs
theorem xR.eff {M:Nat->Nat->Prop} {w w':World} {sb:Sb} {B B':Nat} {v:Value} {l:List (Nat × List UInt8)} (he:Eff M w w') (hsb:∀ i,¬ M sb.b i) (hM:∀ k i,B<=k->k<w.heap.size->¬ M k i) (hB:B'<=B) (h:xR w sb B v l):xR w' sb B' v l:=by
 obtain ⟨h1,h2,h3⟩:=h
 refine ⟨h1,h2,?_⟩
 rcases h3 with h3 | ⟨q,es,clock,hv,hq,hs,hm,hb,hn,l',hl,hsz,hel⟩
 ·exact .inl h3
 ·refine .inr ⟨q,es,clock,hv,by omega,Nat.lt_of_lt_of_le hs he.size,?_,hb,hn,l',hl,hsz,fun i x hx=>?_⟩
  ·rw[he.blockEq hs (fun i=>hM _ _ hq hs)];exact hm
  ·obtain ⟨e,h1,h2,h3⟩:=hel i x hx
   exact ⟨e,h1,h2,h3.eff he hsb hM hB⟩
mutual
theorem Ty.Rep.eff {M:Nat->Nat->Prop} {w w':World} {sb:Sb} (he:Eff M w w') (hsb:∀ i,¬ M sb.b i):∀ (t:Ty) (B B':Nat) (cs:List Value) (d:D),(∀ k i,B<=k->k<w.heap.size->¬ M k i)->B'<=B->t.Rep w sb B cs d->t.Rep w' sb B' cs d
 | .scal _ _,B,B',cs,d,hM,hB,h | .named _ _ _,B,B',cs,d,hM,hB,h=>by
  cases d with
  | int n=>simpa only[Ty.Rep] using h
  | _=>exact absurd h (by simp[Ty.Rep])
 | .uuid,B,B',cs,d,hM,hB,h=>by
  cases d with
  | bytes o =>
   cases o with
   | some l=>simpa only[Ty.Rep] using h
   | none=>exact absurd h (by simp[Ty.Rep])
  | _=>exact absurd h (by simp[Ty.Rep])
 | .text,B,B',cs,d,hM,hB,h=>by
  cases d with
  | bytes o =>
   cases o with
   | some l=>simpa only[Ty.Rep] using h
   | none=>exact absurd h (by simp[Ty.Rep])
  | _=>exact absurd h (by simp[Ty.Rep])
 | .ntext,B,B',cs,d,hM,hB,h | .ntextFrom _,B,B',cs,d,hM,hB,h=>by
  cases d with
  | bytes o =>
   cases o with
   | some l =>
    simp only[Ty.Rep] at h ⊢
    obtain ⟨q,h1,h2,h3⟩:=h
    exact ⟨q,h1,by omega,he.cellSome h3 (hM _ _ h2 (qo h3))⟩
   | none=>simpa only[Ty.Rep] using h
  | _=>exact absurd h (by simp[Ty.Rep])
 | .bytes,B,B',cs,d,hM,hB,h | .nbytes,B,B',cs,d,hM,hB,h=>by
  cases d with
  | bytes o =>
   cases o with
   | some l =>
    simp only[Ty.Rep] at h ⊢
    obtain ⟨q,o,cap,h1,h2,h3,h4⟩:=h
    refine ⟨q,o,cap,h1,h2.imp id (fun h=>by omega),h3.eff he (fun i _=>?_),Nat.lt_of_lt_of_le h4 he.size⟩
    rcases h2 with rfl | h2
    ·exact hsb _
    ·exact hM _ _ h2 h4
   | none=>simpa only[Ty.Rep] using h
  | _=>exact absurd h (by simp[Ty.Rep])
 | .list _ _ e,B,B',cs,d,hM,hB,h=>by
  cases d with
  | list o =>
   cases o with
   | some l =>
    simp only[Ty.Rep] at h ⊢
    obtain ⟨q,cap,h1,h2,h3,h4,h5⟩:=h
    refine ⟨q,cap,h1,by omega,Nat.lt_of_lt_of_le h3 he.size,h4,fun i d hd=>?_⟩
    obtain ⟨c,h6,h7,h8⟩:=h5 i d hd
    exact ⟨c,h6,h7.eff he (fun i _=>hM _ _ h2 h3),Ty.Rep.eff he hsb e (q+1) (q+1) c d (fun k i hk=>hM k i zH) (Nat.le_refl _) h8⟩
   | none=>simpa only[Ty.Rep] using h
  | _=>exact absurd h (by simp[Ty.Rep])
 | .struct _ _ _ fs,B,B',cs,d,hM,hB,h=>by
  cases d with
  | obj l tags=>simp only[Ty.Rep] at h ⊢;exact Flds.Rep.eff he hsb fs B B' cs l tags hM hB h
  | _=>exact absurd h (by simp[Ty.Rep])
 | .nstruct _ _ _ fs _,B,B',cs,d,hM,hB,h=>by
  cases d with
  | list o =>
   rcases o with _ | ⟨_ | ⟨d0,_ | ⟨d1,r⟩⟩⟩
   ·simpa only[Ty.Rep] using h
   ·exact absurd h (by simp[Ty.Rep])
   ·cases d0 with
    | obj l tags =>
     simp only[Ty.Rep] at h ⊢
     obtain ⟨q,c,h1,h2,h3,h4,h5,h6⟩:=h
     exact ⟨q,c,h1,by omega,Nat.lt_of_lt_of_le h3 he.size,h4,h5.eff he (fun i _=>hM _ _ h2 h3),Flds.Rep.eff he hsb fs (q+1) (q+1) c l tags (fun k i hk=>hM k i zH) (Nat.le_refl _) h6⟩
    | _=>exact absurd h (by simp[Ty.Rep])
   ·exact absurd h (by cases d0<;>simp[Ty.Rep])
  | _=>exact absurd h (by simp[Ty.Rep])
theorem Flds.Rep.eff {M:Nat->Nat->Prop} {w w':World} {sb:Sb} (he:Eff M w w') (hsb:∀ i,¬ M sb.b i):∀ (t:Flds) (B B':Nat) (cs:List Value) (l:List D) (tags:List (Nat × List UInt8)),(∀ k i,B<=k->k<w.heap.size->¬ M k i)->B'<=B->t.Rep w sb B cs l tags->t.Rep w' sb B' cs l tags
 | .nil b,B,B',cs,l,tags,hM,hB,h=>by
  cases l with
  | cons _ _=>exact absurd h (by simp[Flds.Rep])
  | nil =>
   simp only[Flds.Rep] at h ⊢
   cases b with
   | false=>simpa using h
   | true =>
    simp only[if_true] at h ⊢
    obtain ⟨v,h1,h2⟩:=h
    exact ⟨v,h1,h2.eff he hsb hM hB⟩
 | .cons _ t r,B,B',cs,l,tags,hM,hB,h=>by
  cases l with
  | nil=>exact absurd h (by simp[Flds.Rep])
  | cons d l =>
   simp only[Flds.Rep] at h ⊢
   exact ⟨Ty.Rep.eff he hsb t B B' _ d hM hB h.1,Flds.Rep.eff he hsb r B B' _ l tags hM hB h.2.1,h.2.2⟩
end
abbrev RdV (P:Program) (F:FuncId) (rb sb:Nat) (W:World) (st':RSt) (S:Value->World->Prop):Prop :=
 qa P F #[.pointer (some ⟨rb,0,none⟩)] W fun x w'=>S x w'/\RdS w' rb sb st'/\Eff (RM rb) W w'
structure EnvR (P:Program) (E:Env) (T:List (Nat × List UInt8)->Prop):Prop where
 i32:qr P E.tI32=some .i32
 scal:∀ s,E.rScal s≠0->∀ rb sb st W,RdS W rb sb st->RdV P (E.rScal s) rb sb W (s.rd st).2 fun x _=>x=s.val (s.rd st).1/\s.ok (s.rd st).1
 uuid:E.rUuid≠0->∀ rb sb st W,RdS W rb sb st->RdV P E.rUuid rb sb W (qq 16 st).2 fun x _=>∃ l:List UInt8,l.length=16/\x=.agg (l.map bv).toArray/\((qq 16 st).2.2=false->l=(qq 16 st).1)
 str:∀ fx,(if fx then E.rCStr else E.rStr)≠0->∀ rb sb st W,RdS W rb sb st->RdV P (if fx then E.rCStr else E.rStr) rb sb W (zp (rdL fx st)).2 fun x _=>x=.string ⟨(zp (rdL fx st)).1.toArray⟩
 nstr:∀ fx,(if fx then E.rCNStr else E.rNStr)≠0->∀ rb sb st W,RdS W rb sb st->RdV P (if fx then E.rCNStr else E.rNStr) rb sb W (qP (rdL fx st)).2 fun x w'=>PStr w' W.heap.size x (qP (rdL fx st)).1
 octs:∀ fx,(if fx then E.rCBytes else E.rBytes)≠0->∀ rb sb st W,RdS W rb sb st->RdV P (if fx then E.rCBytes else E.rBytes) rb sb W (xL (xX fx st)).2 fun x w'=>∃ o,OctV w' sb W.heap.size x o/\((xL (xX fx st)).2.2=false->o=(xL (xX fx st)).1)
 nocts:∀ fx,(if fx then E.rCNBytes else E.rNBytes)≠0->∀ rb sb st W,RdS W rb sb st->RdV P (if fx then E.rCNBytes else E.rNBytes) rb sb W (qP (xX fx st)).2 fun x w'=>∃ o,OctV w' sb W.heap.size x o/\((qP (xX fx st)).2.2=false->o=(qP (xX fx st)).1)
 len:∀ fx,(if fx then E.rCLen else E.rLen)≠0->∀ rb sb st W,RdS W rb sb st->RdV P (if fx then E.rCLen else E.rLen) rb sb W (xp fx st).2 fun x _=>x=.int .i32 (xp fx st).1
 ok:∀ rb sb st W,RdS W rb sb st->qa P E.rOk #[.pointer (some ⟨rb,0,none⟩)] W fun x w'=>x=.bool (!st.2)/\w'=W
 complete:∀ rb sb st W ev,RdS W rb sb st->W.cell? ⟨E.vErr,0,none⟩=some ev->qa P E.rComplete #[.pointer (some ⟨rb,0,none⟩)] W fun x w'=>x=(if st.2 then ev else .nilIface)/\w'=W
 tags:E.rTags≠0->∀ rb sb st W,RdS W rb sb st->RdV P E.rTags rb sb W (zd st).2 fun x w'=>∃ v tags,x=.agg #[v]/\v.oneCell'=true/\xR w' ⟨sb,T⟩ W.heap.size v tags/\((zd st).2.2=false->tags=(zd st).1)
def Ty.isList:Ty->Bool
 | .list _ _ _=>true
 | _=>false
def zero1 (P:Program) (t:TypeId):Bool :=
 match qK P t with
 | some z=>z.cells.size==1
 | none=>false
theorem zero1_inv {P:Program} {t} (h:zero1 P t=true):∃ z,qK P t=some z/\z.cells.size=1:=by
 unfold zero1 at h
 split at h
 ·rename_i z hz
  exact ⟨z,hz,by simpa using h⟩
 ·cases h
def Ty.isScal:Ty->Bool
 | .scal _ _=>true
 | _=>false
def Ver.okT (E:Env) (m:Nat) (t:Ty):Ver->Bool
 | .tag k _=>k==m&&decide (k<4294967296)&&t.isScal&&E.rTags != 0
 | _=>true
def Ver.nextT (m:Nat):Ver->Nat
 | .tag _ _=>m+1
 | _=>m
theorem Ver.nextT_no {v:Ver} (h:v.isTag=false) (m:Nat):v.nextT m=m:=by cases v<;>first | rfl | cases h
mutual
def Ty.okR (P:Program) (E:Env) (x:Cx):Ty->Bool
 | .scal s _=>E.rScal s != 0&&qQ P (E.tScal s)
 | .named s T _=>E.rScal s != 0&&qQ P T
 | .uuid=>E.rUuid != 0&&z7 P E.tUuid==some 16&&wu P E.tUuid 16
 | .text=>x.ok E.rCStr E.rStr&&qQ P E.tStr
 | .ntext=>x.ok E.rCNStr E.rNStr&&qQ P E.tPStr
 | .ntextFrom _=>x.ok E.rCStr E.rStr&&x.ok E.rCNStr E.rNStr&&qQ P E.tPStr&&qQ P E.tStr&&zero1 P E.tStr
 | .bytes=>x.ok E.rCBytes E.rBytes&&qQ P E.tB
 | .nbytes=>x.ok E.rCNBytes E.rNBytes&&qQ P E.tB
 | .list TS null e=>x.ok E.rCLen E.rLen&&qQ P TS && !e.isList && !e.np&&e.okR P E x
 | .struct _ TU _ fs=>fs.okR P E x TU 0 0&&fs.okD P E TU 0 0
 | .nstruct TP TU _ fs PP=>E.rI8 != 0&&qQ P TP&&fs.okR P E x TU 0 0&&fs.okD P E TU 0 0
def Flds.okR (P:Program) (E:Env) (x:Cx) (TU:TypeId) (idx off:Nat) (m:Nat:=0):Flds->Bool
 | .nil tags=>x.fl.isNone||(tags&&qk P TU idx==some off&&E.rTags != 0&&z7 P E.tTags==some 1)
 | .cons v t r=>v.okT E m t&&qk P TU idx==some off&&t.okR P E x&&t.okZ&&Flds.okR P E x TU (idx+1) (off+t.size) (v.nextT m) r
end
mutual
def Ty.txR (P:Program) (E:Env):Ty->Prop
 | .list TS _ e=>(∃ te,xe P TS te e.size=true/\(qK P te).map (·.cells.toList)=some e.zc)/\e.txR P E
 | .struct TP TU FD fs=>(∃ np nt,Text P FD np nt #[] (dcode E TP TU 0 fs)/\2+fs.dn+fs.dt<=nt)/\fs.txR P E
 | .nstruct TP TU FD fs PP=>(∃ np nt,Text P FD np nt #[] (dcode E TP TU 0 fs)/\2+fs.dn+fs.dt<=nt)/\(qK P TU).map (·.cells.toList)=some fs.zc/\fs.txR P E
 | _=>True
def Flds.txR (P:Program) (E:Env):Flds->Prop
 | .nil _=>True
 | .cons _ t r=>t.txR P E/\r.txR P E
end
structure RSta (E:Env) (x:Cx) (ver:Nat) (fx:Bool) (rb sb:Nat) (ev:Value) (a:Act) (w:World) (st:RSt):Prop where
 rd:RdS w rb sb st
 p7:a.eval (.tmp x.rd)=.pointer (some ⟨rb,0,none⟩)
 us:a.eval (.tmp 2)=.bool false
 ver:a.eval (.tmp x.vs)=.int .i16 (ver:Int)
 fl:∀ f,x.fl=some f->a.eval (.tmp f)=.bool fx
 err:w.cell? ⟨E.vErr,0,none⟩=some ev
 evr:E.vErr≠rb
 evi:∃ u z,ev=.iface u z
def KR (L n t:Nat) (k:Nat):Prop:=k<n\/(L<=k/\k<t)
theorem KR.mono {L n n' t t':Nat} (hn:n<=n') (ht:t<=t'):∀ k,KR L n t k->KR L n' t' k:=fun k h=>h.elim (fun h=>.inl zH) (fun h=>.inr ⟨h.1,by omega⟩)
structure RSl (x:Cx) (L n t:Nat) (fx:Bool):Prop where
 seven:7<n
 rd:x.rd<n
 vs:x.vs<n
 fl:∀ f,x.fl=some f->f<n
 no:x.fl=none->fx=false
 nL:n<=L
 Lt:L<=t
theorem RSl.kt {x:Cx} {L n t:Nat} {fx:Bool} (h:RSl x L n t fx):∀ d,t<=d->¬ KR L n t d:=by
 rintro d hd h2
 have:=h.nL;have:=h.Lt
 unfold KR at h2
 omega
theorem RSl.kn {x:Cx} {L n t:Nat} {fx:Bool} (h:RSl x L n t fx):∀ d,n<=d->d<L->¬ KR L n t d:=by
 rintro d hd hl h2
 unfold KR at h2
 omega
theorem RSl.up {x:Cx} {L n t n' t':Nat} {fx:Bool} (h:RSl x L n t fx) (hn:n<=n') (hL:n'<=L) (ht:t<=t'):RSl x L n' t' fx :=
 ⟨by have:=h.seven;omega,by have:=h.rd;omega,by have:=h.vs;omega,fun f hf=>by have:=h.fl f hf;omega,h.no,hL,by have:=h.Lt;omega⟩
section
variable {P : Program} {E : Env} {x : Cx} {ver : Nat} {fx : Bool} {rb sb : Nat} {ev : Value} {a a' : Act} {w w' : World} {st st' : RSt} {L n t : Nat} {Q : Exit → Act → World → Prop}
theorem RSta.fr (h:RSta E x ver fx rb sb ev a w st) (hs:RSl x L n t fx) (hf:Fr (KR L n t) a a'):RSta E x ver fx rb sb ev a' w st :=
 ⟨h.rd,by rw[hf.slot _ (.inl hs.rd)];exact h.p7,by rw[hf.slot 2 (.inl (by have:=hs.seven;omega))];exact h.us,by rw[hf.slot _ (.inl hs.vs)];exact h.ver,fun f hh=>by rw[hf.slot _ (.inl (hs.fl f hh))];exact h.fl f hh,h.err,h.evr,h.evi⟩
theorem RSta.step (h:RSta E x ver fx rb sb ev a w st) (hs:RSl x L n t fx) (hf:Fr (KR L n t) a a') (hr:RdS w' rb sb st') (he:Eff (RM rb) w w'):RSta E x ver fx rb sb ev a' w' st' :=
 ⟨hr,(h.fr hs hf).p7,(h.fr hs hf).us,(h.fr hs hf).ver,(h.fr hs hf).fl,he.cellSome h.err (fun hh=>h.evr hh.1),h.evr,h.evi⟩
theorem j6 {F:FuncId} {T:TypeId} {y t:Nat} {S:Value->World->Prop} {p:Value} {K:Nat->Prop} (hp:a.eval (.tmp x.rd)=p) (hc:qa P F #[p] w S) (ht:∀ d,t<=d->¬ K d) (hy:¬ K y) (hyt:y<t) (hsz:t+1<=a.tmps.size)
  (k:∀ a' v w',Fr K a a'->a'.eval (.tmp y)=v->S v w'->Q .normal a' w'):vc P (qU E x F T y t) Q a w:=by
 refine vR zS ?_
 refine q8 (args:=#[p]) ?_ hc ?_
 ·simp only[lM]
  simp (disch:=(try simp only[sP]);omega) only[eV,hp]
 intro v w' hs
 refine rA (dn ?_)
 refine k _ v w' ?_ zE hs
 exact ((Fr.refl K a).put _ (ht _ zH)).put _ hy
theorem yR {c t:Nat} {b:Bool} {A B:Code} {K:Nat->Prop} (hc:a.eval (.tmp c)=.bool b) (ht:¬ K t) (hct:c≠t) (hsz:t+1<=a.tmps.size)
  (hA:b=true->∀ a',Fr K a a'->(∀ k:Nat,k≠t->a'.eval (.tmp k)=a.eval (.tmp k))->vc P A Q a' w)
  (hB:b=false->∀ a',Fr K a a'->(∀ k:Nat,k≠t->a'.eval (.tmp k)=a.eval (.tmp k))->vc P B Q a' w):vc P (rIf E t c A B) Q a w:=by
 unfold rIf
 refine vX (rM (dn ?_))
 have hf:Fr K a (a.put (some t) (a.eval (.tmp c))):=(Fr.refl K a).put _ ht
 have he:∀ k:Nat,k≠t->(a.put (some t) (a.eval (.tmp c))).eval (.tmp k)=a.eval (.tmp k):=fun k hk=>qi _ _ _ _ zH
 refine vS (vC (t:=b) zA ?_ ?_)
 ·exact fun h=>qW _ (hA h _ hf he) (fun e a w h=>by cases e<;>first | exact vN h | exact h)
 ·exact fun h=>qW _ (hB h _ hf he) (fun e a w h=>by cases e<;>first | exact vN h | exact h)
theorem m_rflex {FC F:FuncId} {T:TypeId} {y t t1 t2 fl:Nat} {S:Value->World->Prop} {p:Value} {K:Nat->Prop} (hp:a.eval (.tmp x.rd)=p) (hfl:a.eval (.tmp fl)=.bool fx) (hc:qa P (if fx then FC else F) #[p] w S) (ht:∀ d,t<=d->¬ K d) (hy:¬ K y) (hyt:y<t) (h7:x.rd<t) (hf:fl<t) (ht1:t<t1) (ht2:t<t2) (hsz1:t1+1<=a.tmps.size) (hsz2:t2+1<=a.tmps.size)
  (k:∀ a' v w',Fr K a a'->a'.eval (.tmp y)=v->S v w'->Q .normal a' w'):vc P (rIf E t fl (qU E x FC T y t1) (qU E x F T y t2)) Q a w:=by
 refine yR (K:=K) hfl (ht _ (Nat.le_refl _)) zH zH ?_ ?_
 ·intro h a' hf' he
  subst h
  exact j6 (K:=K) (by rw[he x.rd zH];exact hp) hc (fun d hd=>ht d zH) hy zH (by rw[hf'.size];omega) (fun a2 v w' hf2=>k a2 v w' (hf'.trans hf2))
 ·intro h a' hf' he
  subst h
  exact j6 (K:=K) (by rw[he x.rd zH];exact hp) hc (fun d hd=>ht d zH) hy zH (by rw[hf'.size];omega) (fun a2 v w' hf2=>k a2 v w' (hf'.trans hf2))
end
end Go.Km
namespace Go.Km
open Go Go.RowKit
structure RTexts (P:Program) (E:Env):Prop where
 mixed:P.follows .mixedOrders=true
 row:xe P E.tB E.tU8 1=true
 u8:qr P E.tU8=some .u8
 int:qr P E.tI=some .i64
 oBytes:qQ P E.tB=true
 oBool:qQ P E.tO=true
 oU8:qQ P E.tU8=true
 f0:qk P E.tRd 0=some 0
 f1:qk P E.tRd 1=some 1
 i32:qr P E.tI32=some .i32
 oE:qQ P E.tErr=true
 rOk:Text P E.rOk 1 8 #[.tmp 2] (c_rOk E)
 rComplete:Text P E.rComplete 1 8 #[.tmp 2] (yV E)
 rI8:E.rI8≠0->qr P E.tI8=some .i8/\Text P E.rI8 1 32 #[.tmp 2] (c_rI8 E)
 rBool:E.rBool≠0->Text P E.rBool 1 32 #[.tmp 2] (c_rBool E)
 rI16:E.rI16≠0->z7 P E.tBE=some 0/\qr P E.tU16=some .u16/\qr P E.tI16=some .i16/\Text P E.bU16 2 18 #[.tmp 4] (c_bU16 E)/\Text P E.rI16 1 32 #[.tmp 2] (c_rI16 E)
 rU16:E.rU16≠0->z7 P E.tBE=some 0/\qr P E.tU16=some .u16/\Text P E.bU16 2 18 #[.tmp 4] (c_bU16 E)/\Text P E.rU16 1 31 #[.tmp 2] (c_rU16 E)
 rI32:E.rI32≠0->z7 P E.tBE=some 0/\qr P E.tW=some .u32/\Text P E.bU32 2 30 #[.tmp 4] (c_bU32 E)/\Text P E.rI32 1 32 #[.tmp 2] (c_rI32 E)
 rI64:E.rI64≠0->z7 P E.tBE=some 0/\qr P E.tU64=some .u64/\qr P E.tI64=some .i64/\Text P E.bU64 2 54 #[.tmp 4] (c_bU64 E)/\Text P E.rU64 1 31 #[.tmp 2] (c_rU64 E)/\Text P E.rI64 1 6 #[.tmp 2] (c_rI64 E)
 rUvar:E.rUvar≠0->qr P E.tW=some .u32/\Text P E.kUv 1 87 #[.tmp 2,.tmp 3] (c_kUv E)/\Text P E.rUvar 1 31 #[.tmp 2] (c_rUvar E)
 rSpan:E.rSpan≠0->Text P E.rSpan 2 40 #[.tmp 4] (c_rSpan E)
 rStr:E.rStr≠0->strB P E.tStr=true/\E.rI16≠0/\E.rSpan≠0/\Text P E.rStr 1 11 #[.tmp 2] (c_rStr E)
 rCStr:E.rCStr≠0->strB P E.tStr=true/\E.rUvar≠0/\E.rSpan≠0/\Text P E.rCStr 1 12 #[.tmp 2] (c_rCStr E)
 rNStr:E.rNStr≠0->strB P E.tStr=true/\qQ P E.tStr=true/\qK P E.tStr=some (.string ⟨#[]⟩)/\E.rI16≠0/\E.rSpan≠0/\Text P E.rNStr 1 14 #[.tmp 2] (c_rNStr E)
 rCNStr:E.rCNStr≠0->strB P E.tStr=true/\qQ P E.tStr=true/\qK P E.tStr=some (.string ⟨#[]⟩)/\E.rUvar≠0/\E.rSpan≠0/\Text P E.rCNStr 1 15 #[.tmp 2] (c_rCNStr E)
 rBytes:E.rBytes≠0->E.rI32≠0/\E.rSpan≠0/\Text P E.rBytes 1 13 #[.tmp 2] (c_rBytes E)
 rCBytes:E.rCBytes≠0->E.rUvar≠0/\E.rSpan≠0/\Text P E.rCBytes 1 14 #[.tmp 2] (c_rCBytes E)
 rNBytes:E.rNBytes≠0->E.rI32≠0/\E.rSpan≠0/\Text P E.rNBytes 1 14 #[.tmp 2] (c_rNBytes E)
 rCNBytes:E.rCNBytes≠0->E.rUvar≠0/\E.rSpan≠0/\Text P E.rCNBytes 1 15 #[.tmp 2] (wl E)
 rLen:E.rLen≠0->E.rI32≠0/\Text P E.rLen 1 21 #[.tmp 2] (c_rLen E)
 rCLen:E.rCLen≠0->E.rUvar≠0/\Text P E.rCLen 1 23 #[.tmp 2] (c_rCLen E)
section
variable {P : Program} {E : Env}
theorem RTexts.env (K:RTexts P E):REnv P E:=⟨K.row,K.u8,K.int,K.oBytes,K.oBool,K.oU8,K.f0,K.f1⟩
theorem RTexts.c16 (K:RTexts P E) (h:E.rI16≠0):CI16 P E:=fun rb sb st W hr=>by
 obtain ⟨h1,h2,h3,h4,h5⟩:=K.rI16 h
 exact k_rI16 K.env K.mixed h1 h2 h3 h4 h5 hr
theorem RTexts.c32 (K:RTexts P E) (h:E.rI32≠0):CI32 P E:=fun rb sb st W hr=>by
 obtain ⟨h1,h2,h4,h5⟩:=K.rI32 h
 exact k_rI32 K.env K.mixed h1 h2 K.i32 h4 h5 hr
theorem RTexts.cU (K:RTexts P E) (h:E.rUvar≠0):CUv P E:=fun rb sb st W hr=>by
 obtain ⟨h1,h2,h3⟩:=K.rUvar h
 exact k_rUvar K.env h1 h2 h3 hr
theorem RTexts.cS (K:RTexts P E) (h:E.rSpan≠0):yz P E:=fun rb sb st l W hr=>k_rSpan K.env (K.rSpan h) hr
theorem RdC.rdv {F:FuncId} {rb sb:Nat} {st':RSt} {v:Value} {W:World} {S:Value->World->Prop} (h:RdC P F rb sb st' v W) (hS:∀ w',S v w'):RdV P F rb sb W st' S :=
 h.mono fun x w' ⟨h1,h2,h3,_⟩=>⟨by rw[h1];exact hS w',h2,h3⟩
def UuidR (P:Program) (E:Env):Prop:=E.rUuid≠0->∀ rb sb st W,RdS W rb sb st->RdV P E.rUuid rb sb W (qq 16 st).2 fun x _=>∃ l:List UInt8,l.length=16/\x=.agg (l.map bv).toArray/\((qq 16 st).2.2=false->l=(qq 16 st).1)
def TagsR (P:Program) (E:Env) (T:List (Nat × List UInt8)->Prop):Prop:=E.rTags≠0->∀ rb sb st W,RdS W rb sb st->RdV P E.rTags rb sb W (zd st).2 fun x w'=>∃ v tags,x=.agg #[v]/\v.oneCell'=true/\xR w' ⟨sb,T⟩ W.heap.size v tags/\((zd st).2.2=false->tags=(zd st).1)
theorem envR (K:RTexts P E) (hF:E.rF64=0) {T:List (Nat × List UInt8)->Prop} (hU:UuidR P E) (hT:TagsR P E T):EnvR P E T where
 i32:=K.i32
 scal:=by
  intro k hk rb sb st W hr
  cases k with
  | bool=>exact (k_rBool K.env (K.rBool hk) hr).rdv fun _=>⟨by simp only[Scal.rd,Scal.val];cases (rdN 1 st).1 != 0<;>rfl,by simp only[Scal.rd,Scal.ok];split<;>simp⟩
  | i8 =>
   obtain ⟨h1,h2⟩:=K.rI8 hk
   have hrg:=zF 1 st
   exact (k_rI8 K.env h1 h2 hr).rdv fun _=>⟨rfl,by simp only[Scal.rd,Scal.ok,sgn];split<;>omega⟩
  | i16=>exact (K.c16 hk rb sb st W hr).rdv fun _=>⟨rfl,yH st⟩
  | u16 =>
   obtain ⟨h1,h2,h3,h4⟩:=K.rU16 hk
   have hrg:=zF 2 st
   exact (k_rU16 K.env K.mixed h1 h2 h3 h4 hr).rdv fun _=>⟨rfl,by simp only[Scal.rd,Scal.ok];omega⟩
  | i32=>exact (K.c32 hk rb sb st W hr).rdv fun _=>⟨rfl,kS st⟩
  | i64 =>
   obtain ⟨h1,h2,h3,h4,h5,h6⟩:=K.rI64 hk
   have hrg:=zF 8 st
   refine (k_rI64 h2 h3 (fun rb sb st W hr=>k_rU64 K.env K.mixed h1 h2 h4 h5 hr) h6 hr).rdv fun _=>⟨rfl,?_⟩
   simp only[Scal.rd,Scal.ok,sgn]
   split<;>omega
  | f64=>exact absurd hF hk
 uuid:=hU
 str:=by
  intro fx hk rb sb st W hr
  cases fx with
  | false =>
   obtain ⟨h1,h2,h3,h4⟩:=K.rStr hk
   exact (k_rStr K.env (K.rI16 h2).2.2.1 h1 (K.c16 h2) (K.cS h3) h4 hr).rdv fun _=>rfl
  | true =>
   obtain ⟨h1,h2,h3,h4⟩:=K.rCStr hk
   exact (k_rCStr K.env (K.rUvar h2).1 h1 (K.cU h2) (K.cS h3) h4 z9 hr).rdv fun _=>rfl
 nstr:=by
  intro fx hk rb sb st W hr
  cases fx with
  | false =>
   obtain ⟨h1,h2,h3,h4,h5,h6⟩:=K.rNStr hk
   exact (k_rNStr K.env (K.rI16 h4).2.2.1 h1 h2 h3 rfl (K.c16 h4) (K.cS h5) h6 hr).mono fun x w' ⟨g1,g2,g3,_⟩=>⟨g1,g2,g3⟩
  | true =>
   obtain ⟨h1,h2,h3,h4,h5,h6⟩:=K.rCNStr hk
   exact (k_rCNStr K.env (K.rUvar h4).1 h1 h2 h3 rfl (K.cU h4) (K.cS h5) h6 hr).mono fun x w' ⟨g1,g2,g3,_⟩=>⟨g1,g2,g3⟩
 octs:=by
  intro fx hk rb sb st W hr
  cases fx with
  | false =>
   obtain ⟨h1,h2,h3⟩:=K.rBytes hk
   exact (k_rBytes K.env K.i32 (K.c32 h1) (K.cS h2) h3 hr).mono fun x w' ⟨g1,g2,g3,_⟩=>⟨g1,g2,g3⟩
  | true =>
   obtain ⟨h1,h2,h3⟩:=K.rCBytes hk
   exact (k_rCBytes K.env (K.rUvar h1).1 (K.cU h1) (K.cS h2) h3 hr).mono fun x w' ⟨g1,g2,g3,_⟩=>⟨g1,g2,g3⟩
 nocts:=by
  intro fx hk rb sb st W hr
  cases fx with
  | false =>
   obtain ⟨h1,h2,h3⟩:=K.rNBytes hk
   exact (k_rNBytes K.env K.i32 (K.c32 h1) (K.cS h2) h3 hr).mono fun x w' ⟨g1,g2,g3,_⟩=>⟨g1,g2,g3⟩
  | true =>
   obtain ⟨h1,h2,h3⟩:=K.rCNBytes hk
   exact (k_rCNBytes K.env (K.rUvar h1).1 (K.cU h1) (K.cS h2) h3 hr).mono fun x w' ⟨g1,g2,g3,_⟩=>⟨g1,g2,g3⟩
 len:=by
  intro fx hk rb sb st W hr
  cases fx with
  | false =>
   obtain ⟨h1,h2⟩:=K.rLen hk
   exact (k_rLen K.env K.i32 (K.c32 h1) h2 hr).rdv fun _=>rfl
  | true =>
   obtain ⟨h1,h2⟩:=K.rCLen hk
   exact (k_rCLen K.env (K.rUvar h1).1 K.i32 (K.cU h1) h2 hr).rdv fun _=>rfl
 ok:=fun rb sb st W hr=>k_rOk K.env K.rOk hr
 complete:=fun rb sb st W ev hr he=>k_rComplete K.env K.oE K.rComplete he hr
 tags:=hT
end
end Go.Km
namespace Go.Km
open Go Go.RowKit
attribute [local irreducible] vc rO_ qz qJ qF
def Ty.Val (w:World) (a:Act) (s:Nat) (ty:Ty) (cs:List Value):Prop:=if ty.arr then ∃ q,a.eval (.tmp s)=.pointer (some ⟨q,0,none⟩)/\qb w q 0 cs else cs=[a.eval (.tmp s)]
def Ty.RVal (P:Program) (E:Env) (T:List (Nat × List UInt8)->Prop) (ty:Ty):Prop :=
 ∀ (x:Cx) (ver:Nat) (fx:Bool) (L TP TU s f n t b rb sb:Nat) (ev:Value) (a:Act) (w:World) (st:RSt) (Q:Exit->Act->World->Prop),
  ty.okR P E x=true->ty.txR P E->RSl x L n t fx->n+1+ty.rn<=L->t+ty.rt x<=a.tmps.size->RSta E x ver fx rb sb ev a w st →
  (ty.isList=true->∃ pb po off,a.eval (.tmp s)=.pointer (some ⟨pb,po,none⟩)/\s<n/\qk P TU f=some off/\w.cell? ⟨pb,po+off,none⟩=some (.slice none 0 0)) →
  (∀ a' w' cs d,Fr (KR L n t) a a'->RSta E x ver fx rb sb ev a' w' (ty.rd fx ver st).2->ty.Val w' a' (n+ty.rslot) cs->ty.Rep w' ⟨sb,T⟩ w.heap.size cs d->Eff (RM rb) w w'->((ty.rd fx ver st).2.2=false->d=(ty.rd fx ver st).1)->Q .normal a' w') →
  (∀ a' w',a'.defers=a.defers->a'.tmps.size=a.tmps.size->a'.eval (.tmp 6)=ev->Eff (RM rb) w w'->(ty.rd fx ver st).2.2=true->Q .ret a' w') →
  vc P (sq (ty.rc E x TP TU s f n t b)) Q a w
theorem Cx.ok_fx {x:Cx} {FC F:FuncId} {fx:Bool} (h:x.ok FC F=true) (hno:x.fl=none->fx=false):(if fx then FC else F)≠0:=by
 unfold Cx.ok at h
 simp only[Bool.and_eq_true,bne_iff_ne,Bool.or_eq_true] at h
 cases fx with
 | false=>simpa using h.1
 | true =>
  simp only[if_true]
  rcases h.2 with h | h
  ·cases hf:x.fl with
   | none=>exact absurd (hno hf) zS
   | some f=>rw[hf] at h;cases h
  ·exact h
section
variable {P : Program} {E : Env} {T : List (Nat × List UInt8) → Prop}
theorem rv_scal (H:EnvR P E T) (k:Scal) (df:Int):(Ty.scal k df).RVal P E T:=by
 intro x ver fx L TP TU s f n t b rb sb ev a w st Q hok htx hs hn ht hst hl kn kr
 have h2:=hs.nL;have h3:=hs.Lt;have h7:=hs.seven;have hrd:=hs.rd
 simp only[Ty.okR,Bool.and_eq_true,bne_iff_ne] at hok
 simp only[Ty.rt] at ht
 simp only[Ty.rn] at hn
 simp only[Ty.rc]
 refine vS (j6 (K:=KR L n t) hst.p7 (H.scal k hok.1 rb sb st w hst.rd) hs.kt (hs.kn n (Nat.le_refl _) zH) zH ht ?_)
 rintro a1 v w1 hf he ⟨⟨hv,hvo⟩,hr,hE⟩
 refine vN (kn a1 w1 [v] (.int (k.rd st).1) hf (hst.step hs hf hr hE) ?_ ?_ hE (fun _=>rfl))
 ·simp only[Ty.Val,Ty.arr,Ty.rslot,Bool.false_eq_true,if_false,Nat.add_zero,he]
 ·rw[hv];exact ⟨rfl,hvo⟩
theorem rv_uuid (H:EnvR P E T):Ty.uuid.RVal P E T:=by
 intro x ver fx L TP TU s f n t b rb sb ev a w st Q hok htx hs hn ht hst hl kn kr
 have h2:=hs.nL;have h3:=hs.Lt;have h7:=hs.seven;have hrd:=hs.rd
 simp only[Ty.okR,Bool.and_eq_true,bne_iff_ne,beq_iff_eq] at hok
 obtain ⟨⟨hok,hagg⟩,hz⟩:=hok
 obtain ⟨z,hz,hzl⟩:=zeroAgg_inv hz
 simp only[Ty.rt] at ht
 simp only[Ty.rn] at hn
 simp only[Ty.rc]
 refine vX ?_
 refine q8 (args:=#[.pointer (some ⟨rb,0,none⟩)]) ?_ (H.uuid hok rb sb st w hst.rd) ?_
 ·simp only[lM]
  simp (disch:=(try simp only[sP]);omega) only[eV,hst.p7]
 rintro v w1 ⟨⟨l,hl16,rfl,hlv⟩,hr,hE⟩
 refine qI hz ?_
 have hfree:∀ i,i<(l.map bv).length->qt (w1.alloc (.cells (Value.agg z.toArray).cells E.tUuid)) w1.heap.size (0+i):=by
  exact fun i hi=>qm w1 _ E.tUuid (by simp[Value.cells];simp at hi;omega)
 refine qu (b:=w1.heap.size) (o:=0) (cs:=l.map bv) zE zE (xm l) (by rw[List.length_map,hl16];exact hagg) hfree ?_
 refine dn ?_
 have hg:Eff (RM rb) w1 (setCells (w1.alloc (.cells (Value.agg z.toArray).cells E.tUuid)) w1.heap.size 0 (l.map bv)):=by
  refine ((Eff.refl _ w1).alloc _).trans' (qe _ _ _ _) ?_
  rintro k i hk ⟨rfl,_⟩
  omega
 have hb:Below w1.heap.size w1 (setCells (w1.alloc (.cells (Value.agg z.toArray).cells E.tUuid)) w1.heap.size 0 (l.map bv)):=by
  refine Eff.below (M:=fun k i=>k=w1.heap.size) ?_ (Nat.le_refl _) (by rintro k i hk rfl;omega)
  refine ((Eff.refl _ w1).alloc _).trans' (qe _ _ _ _) ?_
  rintro k i hk ⟨rfl,_⟩
  rfl
 have hfr:Fr (KR L n t) a ((a.put (some t) (.agg (l.map bv).toArray)).put (some n) (.pointer (some ⟨w1.heap.size,0,none⟩))):=((Fr.refl _ a).put _ (hs.kt _ zH)).put _ (hs.kn n (Nat.le_refl _) zH)
 refine vN (kn _ _ (l.map bv) (.bytes (some l)) hfr (hst.step hs hfr (hr.below hb hr.rb_lt hr.lt) (hE.trans hg)) ?_ ?_ (hE.trans hg) ?_)
 ·simp only[Ty.Val,Ty.arr,if_true,Ty.rslot,Nat.add_zero]
  refine ⟨w1.heap.size,zE,?_⟩
  intro i v hv
  exact qg _ _ _ _ (fun j hj=>(hfree j hj).1) i v hv
 ·exact ⟨hl16,rfl⟩
 ·intro h
  rw[hlv (by simpa only[Ty.rd] using h)]
  rfl
theorem rv_named (H:EnvR P E T) (k:Scal) (N:TypeId) (df:Int):(Ty.named k N df).RVal P E T:=by
 intro x ver fx L TP TU s f n t b rb sb ev a w st Q hok htx hs hn ht hst hl kn kr
 have h2:=hs.nL;have h3:=hs.Lt;have h7:=hs.seven;have hrd:=hs.rd
 simp only[Ty.okR,Bool.and_eq_true,bne_iff_ne] at hok
 simp only[Ty.rt] at ht
 simp only[Ty.rn] at hn
 simp only[Ty.rc]
 refine vX (rA (dn ?_))
 have hf0:∀ v,Fr (KR L n t) a (a.put (some n) v):=fun v=>(Fr.refl _ a).put _ (hs.kn n (Nat.le_refl _) zH)
 refine vS (vS (j6 (K:=KR L n t) ((hst.fr hs (hf0 _)).p7) (H.scal k hok.1 rb sb st w hst.rd) hs.kt (hs.kn (n+1) zH zH) zH (by rw[zP];omega) ?_))
 rintro a1 v w1 hf he ⟨⟨hv,hvo⟩,hr,hE⟩
 have hf1:=(hf0 _).trans hf
 have hz1:=hf1.size
 refine vX (rM (rA (dn (vN (vX (rM (rA (dn ?_))))))))
 have hf2:∀ u1 u2 u3 u4,Fr (KR L n t) a ((((a1.put (some (t+1)) u1).put (some n) u2).put (some (t+2)) u3).put (some (n+2)) u4):=fun _ _ _ _ =>
  (((hf1.put _ (hs.kt _ zH)).put _ (hs.kn n (Nat.le_refl _) zH)).put _ (hs.kt _ zH)).put _ (hs.kn (n+2) zH zH)
 refine vN (kn _ w1 [v] (.int (k.rd st).1) (hf2 _ _ _ _) (hst.step hs (hf2 _ _ _ _) hr hE) ?_ ?_ hE (fun _=>rfl))
 ·simp only[Ty.Val,Ty.arr,Ty.rslot,Bool.false_eq_true,if_false]
  rw[← he]
  exact zE
 ·rw[hv];exact ⟨rfl,hvo⟩
theorem m_way1 {x:Cx} {ver:Nat} {fx:Bool} {L n t rb sb:Nat} {ev:Value} {a:Act} {w:World} {st:RSt} {Q:Exit->Act->World->Prop} {FC F:FuncId} {T0:TypeId} {S:Value->World->Prop} (hs:RSl x L n t fx) (hn:n+1<=L) (hst:RSta E x ver fx rb sb ev a w st) (ht:t+(match x.fl with | none=>1 | some _=>3)<=a.tmps.size)
  (hc:qa P (if fx then FC else F) #[.pointer (some ⟨rb,0,none⟩)] w S) (k:∀ a' v w',Fr (KR L n t) a a'->a'.eval (.tmp n)=v->S v w'->Q .normal a' w') :
  vc P (match x.fl with | none=>qU E x F T0 n t | some fl=>rIf E t fl (qU E x FC T0 n (t+1)) (qU E x F T0 n (t+2))) Q a w:=by
 have h2:=hs.nL;have h3:=hs.Lt;have h7:=hs.seven;have hrd:=hs.rd
 cases hx:x.fl with
 | none =>
  simp only[hx] at ht ⊢
  have hfx:=hs.no hx
  subst hfx
  exact j6 (K:=KR L n t) hst.p7 hc hs.kt (hs.kn n (Nat.le_refl _) zH) zH ht k
 | some fl =>
  simp only[hx] at ht ⊢
  have hfl:=hs.fl fl hx
  exact m_rflex (K:=KR L n t) hst.p7 (hst.fl fl hx) hc hs.kt (hs.kn n (Nat.le_refl _) zH) zH zH zH zH zH zH zH k
theorem m_way2 {x:Cx} {ver:Nat} {fx:Bool} {L n t rb sb:Nat} {ev:Value} {a:Act} {w:World} {st:RSt} {Q:Exit->Act->World->Prop} {FC F U1 U2 U3:FuncId} {T0:TypeId} {S:Value->World->Prop} (hs:RSl x L n t fx) (hn:n+1<=L) (hst:RSta E x ver fx rb sb ev a w st) (ht:t+(match x.fl with | none=>3 | some _=>7)<=a.tmps.size)
  (hc:qa P (if fx then FC else F) #[.pointer (some ⟨rb,0,none⟩)] w S) (k:∀ a' v w',Fr (KR L n t) a a'->a'.eval (.tmp n)=v->S v w'->Q .normal a' w') :
  vc P (match x.fl with
   | none=>rIf E t 2 (qU E x U1 T0 n (t+1)) (qU E x F T0 n (t+2))
   | some fl=>rIf E t 2 (rIf E (t+1) fl (qU E x U2 T0 n (t+2)) (qU E x U3 T0 n (t+3))) (rIf E (t+4) fl (qU E x FC T0 n (t+5)) (qU E x F T0 n (t+6)))) Q a w:=by
 have h2:=hs.nL;have h3:=hs.Lt;have h7:=hs.seven;have hrd:=hs.rd
 have hkn:=hs.kn n (Nat.le_refl _) zH
 cases hx:x.fl with
 | none =>
  simp only[hx] at ht ⊢
  have hfx:=hs.no hx
  subst hfx
  refine yR (K:=KR L n t) hst.us (hs.kt _ (Nat.le_refl _)) zH zH (fun h=>by cases h) (fun _ a' hf he=>?_)
  exact j6 (K:=KR L n t) (by rw[he x.rd zH];exact hst.p7) hc (fun d hd=>hs.kt d zH) hkn zH (by rw[hf.size];omega) (fun a2 v w' hf2=>k a2 v w' (hf.trans hf2))
 | some fl =>
  simp only[hx] at ht ⊢
  have hfl:=hs.fl fl hx
  refine yR (K:=KR L n t) hst.us (hs.kt _ (Nat.le_refl _)) zH zH (fun h=>by cases h) (fun _ a' hf he=>?_)
  exact m_rflex (K:=KR L n t) (by rw[he x.rd zH];exact hst.p7) (by rw[he fl zH];exact hst.fl fl hx) hc (fun d hd=>hs.kt d zH) hkn zH zH zH zH zH (by rw[hf.size];omega) (by rw[hf.size];omega) (fun a2 v w' hf2=>k a2 v w' (hf.trans hf2))
theorem m_way3 {x:Cx} {ver:Nat} {fx:Bool} {L n t rb sb:Nat} {ev:Value} {a:Act} {w:World} {st:RSt} {Q:Exit->Act->World->Prop} {FC F U1 U2 U3:FuncId} {T0:TypeId} {S:Value->World->Prop} (hs:RSl x L n t fx) (hn:n+1<=L) (hst:RSta E x ver fx rb sb ev a w st) (ht:t+(match x.fl with | none=>3 | some _=>7)<=a.tmps.size)
  (hc:qa P (if fx then FC else F) #[.pointer (some ⟨rb,0,none⟩)] w S) (k:∀ a' v w',Fr (KR L n t) a a'->a'.eval (.tmp n)=v->S v w'->Q .normal a' w') :
  vc P (match x.fl with
   | none=>rIf E t 2 (qU E x U1 T0 n (t+1)) (qU E x F T0 n (t+2))
   | some fl=>rIf E t fl (rIf E (t+1) 2 (qU E x U2 T0 n (t+2)) (qU E x FC T0 n (t+3))) (rIf E (t+4) 2 (qU E x U3 T0 n (t+5)) (qU E x F T0 n (t+6)))) Q a w:=by
 have h2:=hs.nL;have h3:=hs.Lt;have h7:=hs.seven;have hrd:=hs.rd
 have hkn:=hs.kn n (Nat.le_refl _) zH
 cases hx:x.fl with
 | none =>
  simp only[hx] at ht ⊢
  have hfx:=hs.no hx
  subst hfx
  refine yR (K:=KR L n t) hst.us (hs.kt _ (Nat.le_refl _)) zH zH (fun h=>by cases h) (fun _ a' hf he=>?_)
  exact j6 (K:=KR L n t) (by rw[he x.rd zH];exact hst.p7) hc (fun d hd=>hs.kt d zH) hkn zH (by rw[hf.size];omega) (fun a2 v w' hf2=>k a2 v w' (hf.trans hf2))
 | some fl =>
  simp only[hx] at ht ⊢
  have hfl:=hs.fl fl hx
  refine yR (K:=KR L n t) (hst.fl fl hx) (hs.kt _ (Nat.le_refl _)) zH zH ?_ ?_
  ·intro h a' hf he
   subst h
   refine yR (K:=KR L n t) (b:=false) (by rw[he 2 zH];exact hst.us) (hs.kt _ zH) zH (by rw[hf.size];omega) (fun h=>by cases h) (fun _ a2 hf2 he2=>?_)
   exact j6 (K:=KR L n t) (by rw[he2 x.rd zH,he x.rd zH];exact hst.p7) hc (fun d hd=>hs.kt d zH) hkn zH (by rw[hf2.size,hf.size];omega) (fun a3 v w' hf3=>k a3 v w' ((hf.trans hf2).trans hf3))
  ·intro h a' hf he
   subst h
   refine yR (K:=KR L n t) (b:=false) (by rw[he 2 zH];exact hst.us) (hs.kt _ zH) zH (by rw[hf.size];omega) (fun h=>by cases h) (fun _ a2 hf2 he2=>?_)
   exact j6 (K:=KR L n t) (by rw[he2 x.rd zH,he x.rd zH];exact hst.p7) hc (fun d hd=>hs.kt d zH) hkn zH (by rw[hf2.size,hf.size];omega) (fun a3 v w' hf3=>k a3 v w' ((hf.trans hf2).trans hf3))
theorem rv_text (H:EnvR P E T):Ty.text.RVal P E T:=by
 intro x ver fx L TP TU s f n t b rb sb ev a w st Q hok htx hs hn ht hst hl kn kr
 have h2:=hs.nL;have h3:=hs.Lt;have h7:=hs.seven;have hrd:=hs.rd
 simp only[Ty.okR,Bool.and_eq_true] at hok
 have hF:=Cx.ok_fx hok.1 hs.no
 simp only[Ty.rn] at hn
 simp only[Ty.rt] at ht
 have hf0:∀ v,Fr (KR L n t) a (a.put (some n) v):=fun v=>(Fr.refl _ a).put _ (hs.kn n (Nat.le_refl _) zH)
 have fin:∀ a1 v w1,Fr (KR L n t) a a1->a1.eval (.tmp n)=v->((v=.string ⟨(zp (rdL fx st)).1.toArray⟩)/\RdS w1 rb sb (zp (rdL fx st)).2/\Eff (RM rb) w w1)->Q .normal a1 w1:=by
  rintro a1 v w1 hf he ⟨hv,hr,hE⟩
  refine kn a1 w1 [v] (.bytes (some (zp (rdL fx st)).1)) hf (hst.step hs hf hr hE) ?_ ?_ hE (fun _=>rfl)
  ·simp only[Ty.Val,Ty.arr,Ty.rslot,Bool.false_eq_true,if_false,Nat.add_zero,he]
  ·rw[hv];rfl
 simp only[Ty.rc]
 refine vX (rA (dn ?_))
 exact vS (m_way2 hs zH (hst.fr hs (hf0 _)) (by rw[zP];exact ht) (H.str fx hF rb sb st w hst.rd) (fun a1 v w1 hf he hS=>vN (fin a1 v w1 ((hf0 _).trans hf) he hS)))
theorem rv_ntext (H:EnvR P E T):Ty.ntext.RVal P E T:=by
 intro x ver fx L TP TU s f n t b rb sb ev a w st Q hok htx hs hn ht hst hl kn kr
 have h2:=hs.nL;have h3:=hs.Lt;have h7:=hs.seven;have hrd:=hs.rd
 simp only[Ty.okR,Bool.and_eq_true] at hok
 have hF:=Cx.ok_fx hok.1 hs.no
 simp only[Ty.rn] at hn
 simp only[Ty.rt] at ht
 have hf0:∀ v,Fr (KR L n t) a (a.put (some n) v):=fun v=>(Fr.refl _ a).put _ (hs.kn n (Nat.le_refl _) zH)
 have fin:∀ a1 v w1,Fr (KR L n t) a a1->a1.eval (.tmp n)=v->((PStr w1 w.heap.size v (qP (rdL fx st)).1)/\RdS w1 rb sb (qP (rdL fx st)).2/\Eff (RM rb) w w1)->Q .normal a1 w1:=by
  rintro a1 v w1 hf he ⟨hv,hr,hE⟩
  refine kn a1 w1 [v] (.bytes (qP (rdL fx st)).1) hf (hst.step hs hf hr hE) ?_ ?_ hE (fun _=>rfl)
  ·simp only[Ty.Val,Ty.arr,Ty.rslot,Bool.false_eq_true,if_false,Nat.add_zero,he]
  ·revert hv
   generalize (qP (rdL fx st)).1=o
   intro hv
   cases o with
   | none=>simp only[PStr] at hv;rw[hv];rfl
   | some l =>
    obtain ⟨q,h1,h2,h3⟩:=hv
    exact ⟨q,by rw[h1],h2,h3⟩
 simp only[Ty.rc]
 refine vX (rA (dn ?_))
 exact vS (m_way3 hs zH (hst.fr hs (hf0 _)) (by rw[zP];exact ht) (H.nstr fx hF rb sb st w hst.rd) (fun a1 v w1 hf he hS=>vN (fin a1 v w1 ((hf0 _).trans hf) he hS)))
theorem rv_bytes (H:EnvR P E T):Ty.bytes.RVal P E T:=by
 intro x ver fx L TP TU s f n t b rb sb ev a w st Q hok htx hs hn ht hst hl kn kr
 have h2:=hs.nL;have h3:=hs.Lt;have h7:=hs.seven;have hrd:=hs.rd
 simp only[Ty.okR,Bool.and_eq_true] at hok
 have hF:=Cx.ok_fx hok.1 hs.no
 simp only[Ty.rn] at hn
 simp only[Ty.rt] at ht
 have hf0:∀ v,Fr (KR L n t) a (a.put (some n) v):=fun v=>(Fr.refl _ a).put _ (hs.kn n (Nat.le_refl _) zH)
 have fin:∀ a1 v w1,Fr (KR L n t) a a1->a1.eval (.tmp n)=v->((∃ o,OctV w1 sb w.heap.size v o/\((xL (xX fx st)).2.2=false->o=(xL (xX fx st)).1))/\RdS w1 rb sb (xL (xX fx st)).2/\Eff (RM rb) w w1)->Q .normal a1 w1:=by
  rintro a1 v w1 hf he ⟨⟨o,hv,ho⟩,hr,hE⟩
  refine kn a1 w1 [v] (.bytes o) hf (hst.step hs hf hr hE) ?_ ?_ hE (fun h=>by rw[ho (by simpa only[Ty.rd] using h)];rfl)
  ·simp only[Ty.Val,Ty.arr,Ty.rslot,Bool.false_eq_true,if_false,Nat.add_zero,he]
  ·cases o with
   | none=>simp only[OctV] at hv;rw[hv];rfl
   | some l =>
    obtain ⟨q,o,cap,h1,h2,h3,h4⟩:=hv
    exact ⟨q,o,cap,by rw[h1],h2,h3,h4⟩
 have hgo:=m_way1 (P:=P) (Q:=Exit.then (vc P (sq []) Q) Q) (T0:=E.tB) hs zH (hst.fr hs (hf0 (.slice none 0 0))) (by rw[zP];exact ht) (H.octs fx hF rb sb st w hst.rd) (fun a1 v w1 hf he hS=>vN (fin a1 v w1 ((hf0 _).trans hf) he hS))
 simp only[Ty.rc]
 cases hx:x.fl with
 | none =>
  simp only[hx] at hgo ⊢
  refine vX (rA (dn ?_))
  exact vS hgo
 | some fl =>
  simp only[hx] at hgo ⊢
  refine vX (rA (dn ?_))
  exact vS hgo
theorem rv_nbytes (H:EnvR P E T):Ty.nbytes.RVal P E T:=by
 intro x ver fx L TP TU s f n t b rb sb ev a w st Q hok htx hs hn ht hst hl kn kr
 have h2:=hs.nL;have h3:=hs.Lt;have h7:=hs.seven;have hrd:=hs.rd
 simp only[Ty.okR,Bool.and_eq_true] at hok
 have hF:=Cx.ok_fx hok.1 hs.no
 simp only[Ty.rn] at hn
 simp only[Ty.rt] at ht
 have hf0:∀ v,Fr (KR L n t) a (a.put (some n) v):=fun v=>(Fr.refl _ a).put _ (hs.kn n (Nat.le_refl _) zH)
 have fin:∀ a1 v w1,Fr (KR L n t) a a1->a1.eval (.tmp n)=v->((∃ o,OctV w1 sb w.heap.size v o/\((qP (xX fx st)).2.2=false->o=(qP (xX fx st)).1))/\RdS w1 rb sb (qP (xX fx st)).2/\Eff (RM rb) w w1)->Q .normal a1 w1:=by
  rintro a1 v w1 hf he ⟨⟨o,hv,ho⟩,hr,hE⟩
  refine kn a1 w1 [v] (.bytes o) hf (hst.step hs hf hr hE) ?_ ?_ hE (fun h=>by rw[ho (by simpa only[Ty.rd] using h)];rfl)
  ·simp only[Ty.Val,Ty.arr,Ty.rslot,Bool.false_eq_true,if_false,Nat.add_zero,he]
  ·cases o with
   | none=>simp only[OctV] at hv;rw[hv];rfl
   | some l =>
    obtain ⟨q,o,cap,h1,h2,h3,h4⟩:=hv
    exact ⟨q,o,cap,by rw[h1],h2,h3,h4⟩
 have hgo:=m_way1 (P:=P) (Q:=Exit.then (vc P (sq []) Q) Q) (T0:=E.tB) hs zH (hst.fr hs (hf0 (.slice none 0 0))) (by rw[zP];exact ht) (H.nocts fx hF rb sb st w hst.rd) (fun a1 v w1 hf he hS=>vN (fin a1 v w1 ((hf0 _).trans hf) he hS))
 simp only[Ty.rc]
 cases hx:x.fl with
 | none =>
  simp only[hx] at hgo ⊢
  refine vX (rA (dn ?_))
  exact vS hgo
 | some fl =>
  simp only[hx] at hgo ⊢
  refine vX (rA (dn ?_))
  exact vS hgo
end
end Go.Km
namespace Go.Km
open Go Go.RowKit
attribute [local irreducible] vc rO_ qz qJ qF
theorem RdS.keep {M:Nat->Nat->Prop} {W W':World} {rb sb:Nat} {st:RSt} (h:RdS W rb sb st) (he:Eff M W W') (h1:∀ i,¬ M rb i) (h2:∀ i,¬ M sb i):RdS W' rb sb st:=by
 obtain ⟨v,h3,h4⟩:=h.cells
 exact ⟨h.ne,Nat.lt_of_lt_of_le h.lt he.size,⟨v,h3.eff he (fun i _=>h1 _),h4.heap (he.blockEq h.lt h2)⟩,h.f0.eff he,h.f1.eff he,h.len⟩
theorem RSta.keep {E:Env} {x:Cx} {ver:Nat} {fx:Bool} {rb sb:Nat} {ev:Value} {a a':Act} {w w':World} {st:RSt} {L n t:Nat} {M:Nat->Nat->Prop}
  (h:RSta E x ver fx rb sb ev a w st) (hs:RSl x L n t fx) (hf:Fr (KR L n t) a a') (he:Eff M w w') (h1:∀ i,¬ M rb i) (h2:∀ i,¬ M sb i) (h3:∀ i,¬ M E.vErr i):RSta E x ver fx rb sb ev a' w' st :=
 ⟨h.rd.keep he h1 h2,(h.fr hs hf).p7,(h.fr hs hf).us,(h.fr hs hf).ver,(h.fr hs hf).fl,he.cellSome h.err (h3 _),h.evr,h.evi⟩
section
variable {P : Program} {E : Env} {T : List (Nat × List UInt8) → Prop}
theorem m_rcallSt {x:Cx} {F:FuncId} {T0:TypeId} {y t q:Nat} {S:Value->World->Prop} {p:Value} {K:Nat->Prop} {a:Act} {w:World} {Q:Exit->Act->World->Prop} (hp:a.eval (.tmp x.rd)=p) (hq:a.eval (.tmp y)=.pointer (some ⟨q,0,none⟩)) (hc:qa P F #[p] w S) (h1:qQ P T0=true) (hS:∀ v w',S v w'->v.oneCell'=true/\qt w' q 0) (ht:∀ d,t<=d->¬ K d) (hyt:y<t) (hsz:t+1<=a.tmps.size)
  (k:∀ a' v w',Fr K a a'->(∀ k:Nat,k<t->a'.eval (.tmp k)=a.eval (.tmp k))->S v w'->Q .normal a' (setCells w' q 0 [v])):vc P (j4 E x F T0 y t) Q a w:=by
 refine vR zS ?_
 refine q8 (args:=#[p]) ?_ hc ?_
 ·simp only[lM]
  simp (disch:=(try simp only[sP]);omega) only[eV,hp]
 intro v w' hs
 obtain ⟨hv,hf⟩:=hS v w' hs
 refine xq (b:=q) (o:=0) (v:=v) zA zE hv h1 hf ?_
 refine dn ?_
 exact k _ v w' ((Fr.refl K a).put _ (ht _ zH)) (fun k hk=>qi _ _ _ _ zH) hs
theorem m_way4 {x:Cx} {ver:Nat} {fx:Bool} {L n y t rb sb q:Nat} {ev:Value} {a:Act} {w:World} {st:RSt} {Q:Exit->Act->World->Prop} {FC F U1 U2 U3:FuncId} {T0:TypeId} {S:Value->World->Prop} (hs:RSl x L n t fx) (hy:y<n) (hst:RSta E x ver fx rb sb ev a w st) (ht:t+x.r3<=a.tmps.size)
  (hq:a.eval (.tmp y)=.pointer (some ⟨q,0,none⟩)) (hc:qa P (if fx then FC else F) #[.pointer (some ⟨rb,0,none⟩)] w S) (h1:qQ P T0=true) (hS:∀ v w',S v w'->v.oneCell'=true/\qt w' q 0) (k:∀ a' v w',Fr (KR L n t) a a'->(∀ k:Nat,k<t->a'.eval (.tmp k)=a.eval (.tmp k))->S v w'->Q .normal a' (setCells w' q 0 [v])) :
  vc P (match x.fl with
   | none=>rIf E t 2 (j4 E x U1 T0 y (t+1)) (j4 E x F T0 y (t+2))
   | some fl=>rIf E t fl (rIf E (t+1) 2 (j4 E x U2 T0 y (t+2)) (j4 E x FC T0 y (t+3))) (rIf E (t+4) 2 (j4 E x U3 T0 y (t+5)) (j4 E x F T0 y (t+6)))) Q a w:=by
 have h2:=hs.nL;have h3:=hs.Lt;have h7:=hs.seven;have hrd:=hs.rd
 unfold Cx.r3 at ht
 cases hx:x.fl with
 | none =>
  simp only[hx] at ht ⊢
  have hfx:=hs.no hx
  subst hfx
  refine yR (K:=KR L n t) hst.us (hs.kt _ (Nat.le_refl _)) zH zH (fun h=>by cases h) (fun _ a' hf he=>?_)
  exact m_rcallSt (K:=KR L n t) (by rw[he x.rd zH];exact hst.p7) (by rw[he y zH];exact hq) hc h1 hS (fun d hd=>hs.kt d zH) zH (by rw[hf.size];omega) (fun a2 v w' hf2 he2=>k a2 v w' (hf.trans hf2) (fun j hj=>by rw[he2 j zH,he j zH]))
 | some fl =>
  simp only[hx] at ht ⊢
  have hfl:=hs.fl fl hx
  refine yR (K:=KR L n t) (hst.fl fl hx) (hs.kt _ (Nat.le_refl _)) zH zH ?_ ?_
  ·intro h a' hf he
   subst h
   refine yR (K:=KR L n t) (b:=false) (by rw[he 2 zH];exact hst.us) (hs.kt _ zH) zH (by rw[hf.size];omega) (fun h=>by cases h) (fun _ a2 hf2 he2=>?_)
   exact m_rcallSt (K:=KR L n t) (by rw[he2 x.rd zH,he x.rd zH];exact hst.p7) (by rw[he2 y zH,he y zH];exact hq) hc h1 hS (fun d hd=>hs.kt d zH) zH (by rw[hf2.size,hf.size];omega) (fun a3 v w' hf3 he3=>k a3 v w' ((hf.trans hf2).trans hf3) (fun j hj=>by rw[he3 j zH,he2 j zH,he j zH]))
  ·intro h a' hf he
   subst h
   refine yR (K:=KR L n t) (b:=false) (by rw[he 2 zH];exact hst.us) (hs.kt _ zH) zH (by rw[hf.size];omega) (fun h=>by cases h) (fun _ a2 hf2 he2=>?_)
   exact m_rcallSt (K:=KR L n t) (by rw[he2 x.rd zH,he x.rd zH];exact hst.p7) (by rw[he2 y zH,he y zH];exact hq) hc h1 hS (fun d hd=>hs.kt d zH) zH (by rw[hf2.size,hf.size];omega) (fun a3 v w' hf3 he3=>k a3 v w' ((hf.trans hf2).trans hf3) (fun j hj=>by rw[he3 j zH,he2 j zH,he j zH]))
set_option maxHeartbeats 1000000 in
theorem rv_ntextFrom (H:EnvR P E T) (N:Nat):(Ty.ntextFrom N).RVal P E T:=by
 intro x ver fx L TP TU s f n t b rb sb ev a w st Q hok htx hs hn ht hst hl kn kr
 have h2:=hs.nL;have h3:=hs.Lt;have h7:=hs.seven;have hrd:=hs.rd;have hvs:=hs.vs
 simp only[Ty.okR,Bool.and_eq_true] at hok
 obtain ⟨⟨⟨⟨hok1,hok2⟩,hP⟩,hS⟩,hZ⟩:=hok
 obtain ⟨z,hz,hzc⟩:=zero1_inv hZ
 have hF1:=Cx.ok_fx hok1 hs.no
 have hF2:=Cx.ok_fx hok2 hs.no
 simp only[Ty.rn] at hn
 simp only[Ty.rt] at ht
 simp only[Ty.rc]
 refine vX (rA (dn ?_))
 generalize ha1:Act.put a (some n) _=a1
 have hf1:Fr (KR L n t) a a1:=by subst ha1;exact (Fr.refl _ a).put _ (hs.kn n (Nat.le_refl _) zH)
 clear ha1
 have hz1:=hf1.size
 have hst1:=hst.fr hs hf1
 refine vS (m_ifLss (K:=KR L n t) hst1.ver zH hs.kt zH ?_ ?_)
 ·intro hlt a2 hf2 he2
  simp only[Ty.rd,if_pos hlt] at kn
  have hf2':=hf1.trans hf2
  have hz2:=hf2'.size
  refine vX ?_
  refine qI hz ?_
  refine dn ?_
  generalize ha3:Act.put a2 (some (n+1)) _=a3
  have hf3:Fr (KR L n t) a a3:=by subst ha3;exact hf2'.put _ (hs.kn (n+1) zH zH)
  have he3:a3.eval (.tmp (n+1))=.pointer (some ⟨w.heap.size,0,none⟩):=by subst ha3;exact zE
  clear ha3
  have hz3:=hf3.size
  have hfree:qt (w.alloc (.cells z.cells E.tStr)) w.heap.size 0:=qm w _ _ zH
  have hb0:Below w.heap.size w (w.alloc (.cells z.cells E.tStr)):=(Below.refl w.heap.size w).alloc (o:=.cells _ _) (Nat.le_refl _)
  have hE0:Eff (RM rb) w (w.alloc (.cells z.cells E.tStr)):=(Eff.refl _ w).alloc _
  generalize w.alloc (.cells z.cells E.tStr)=w0 at *
  have hst3:RSta E x ver fx rb sb ev a3 w0 st:=hst.step hs hf3 (hst.rd.below hb0 hst.rd.rb_lt hst.rd.lt) hE0
  refine vS (m_way4 (n:=n+2) (L:=L) (hs.up zH zH zH) zH hst3 zH he3 (H.str fx hF1 rb sb st w0 hst3.rd) hS ?_ ?_)
  ·rintro v w1 ⟨rfl,hr1,hE1⟩
   exact ⟨rfl,hfree.eff hE1⟩
  rintro a4 v w1 hf4 he4 ⟨rfl,hr1,hE1⟩
  have hfree1:=hfree.eff hE1
  have hf4':Fr (KR L n t) a a4:=hf3.trans (hf4.mono (KR.mono zH zH))
  have hz4:=hf4'.size
  have he44:a4.eval (.tmp (n+1))=.pointer (some ⟨w.heap.size,0,none⟩):=by rw[he4 _ zH];exact he3
  have hg:Eff (fun k _=>k=w.heap.size) w1 (setCells w1 w.heap.size 0 [.string ⟨(zp (rdL fx st)).1.toArray⟩]):=(qe _ _ _ _).mono (fun k i _ h=>h.1)
  have hlt1:=hst.rd.lt
  have hlt2:=hst.rd.rb_lt
  have hr2:RdS (setCells w1 w.heap.size 0 [.string ⟨(zp (rdL fx st)).1.toArray⟩]) rb sb (zp (rdL fx st)).2:=hr1.keep hg (by intro i h;omega) (by intro i h;omega)
  have hE2:Eff (RM rb) w (setCells w1 w.heap.size 0 [.string ⟨(zp (rdL fx st)).1.toArray⟩]):=(hE0.trans hE1).trans' hg (by rintro k i hk rfl;omega)
  have hcell:(setCells w1 w.heap.size 0 [.string ⟨(zp (rdL fx st)).1.toArray⟩]).cell? ⟨w.heap.size,0,none⟩=some (.string ⟨(zp (rdL fx st)).1.toArray⟩) :=
   qg _ _ _ _ (fun j hj=>by
    have:j=0:=by simpa using hj
    subst this
    exact hfree1.1) 0 _ rfl
  refine vX (rA (dn ?_))
  have hf5:∀ v,Fr (KR L n t) a (a4.put (some n) v):=fun v=>hf4'.put _ (hs.kn n (Nat.le_refl _) zH)
  refine vN (vN (kn _ _ [.pointer (some ⟨w.heap.size,0,none⟩)] (.bytes (some (zp (rdL fx st)).1)) (hf5 _) (hst.step hs (hf5 _) hr2 hE2) ?_ ?_ hE2 (fun _=>rfl)))
  ·simp only[Ty.Val,Ty.arr,Ty.rslot,Bool.false_eq_true,if_false,Nat.add_zero]
   simp (disch:=(try simp only[sP]);omega) only[eV,he44]
  ·exact ⟨w.heap.size,rfl,Nat.le_refl _,hcell⟩
 ·intro hlt a2 hf2 he2
  simp only[Ty.rd,if_neg hlt] at kn
  have hf2':=hf1.trans hf2
  have hz2:=hf2'.size
  have hst2:=hst.fr hs hf2'
  have fin:∀ a1 v w1,Fr (KR L n t) a a1->a1.eval (.tmp n)=v->((PStr w1 w.heap.size v (qP (rdL fx st)).1)/\RdS w1 rb sb (qP (rdL fx st)).2/\Eff (RM rb) w w1)->Q .normal a1 w1:=by
   rintro a1 v w1 hf he ⟨hv,hr,hE⟩
   refine kn a1 w1 [v] (.bytes (qP (rdL fx st)).1) hf (hst.step hs hf hr hE) ?_ ?_ hE (fun _=>rfl)
   ·simp only[Ty.Val,Ty.arr,Ty.rslot,Bool.false_eq_true,if_false,Nat.add_zero,he]
   ·revert hv
    generalize (qP (rdL fx st)).1=o
    intro hv
    cases o with
    | none=>simp only[PStr] at hv;rw[hv];rfl
    | some l =>
     obtain ⟨q,h1,h2,h3⟩:=hv
     exact ⟨q,by rw[h1],h2,h3⟩
  refine m_way3 (n:=n) (L:=L) (t:=t+2+x.r3) (hs.up (Nat.le_refl _) zH zH) zH hst2 (by rw[hz2];show t+2+x.r3+x.r3<=_;omega) (H.nstr fx hF2 rb sb st w hst2.rd) ?_
  exact fun a3 v w1 hf3 he3 hS3=>vN (fin a3 v w1 (hf2'.trans (hf3.mono (KR.mono zH zH))) he3 hS3)
end
def leafV (e:Ty) (cs:List Value):Value:=if e.arr then .agg cs.toArray else cs.headD undef
def Ty.okS (P:Program) (E:Env) (e:Ty):Prop:=if e.arr then z7 P (e.T E)=some e.size else qQ P (e.T E)=true/\e.size=1
theorem Ty.okR_okS {P:Program} {E:Env} {x:Cx} (e:Ty) (h:e.okR P E x=true) (ht:e.tp=none):e.okS P E:=by
 cases e<;>simp_all [Ty.okR,Ty.okS,Ty.arr,Ty.T,Ty.size,Ty.tp]
theorem Ty.Rep.leaf {w:World} {sb:Sb} {B:Nat} (e:Ty) {cs:List Value} {d:D} (ht:e.tp=none) (h:e.Rep w sb B cs d):cs.length=e.size/\∀ v ∈ cs,v.oneCell'=true:=by
 cases e with
 | struct _ _ _ _=>cases ht
 | scal k _ | named k _ _ =>
  cases d<;>simp only[Ty.Rep] at h
  obtain ⟨rfl,_⟩:=h
  simp[Ty.size,Scal.val_one]
 | uuid =>
  cases d with
  | bytes o =>
   cases o<;>simp only[Ty.Rep] at h
   obtain ⟨h1,rfl⟩:=h
   exact ⟨by simp[h1,Ty.size],xm _⟩
  | _=>simp only[Ty.Rep] at h
 | text =>
  cases d with
  | bytes o =>
   cases o<;>simp only[Ty.Rep] at h
   subst h
   simp[Ty.size,Value.oneCell']
  | _=>simp only[Ty.Rep] at h
 | ntext | ntextFrom _ =>
  cases d with
  | bytes o =>
   cases o<;>simp only[Ty.Rep] at h
   ·subst h;simp[Ty.size,Value.oneCell']
   ·obtain ⟨q,rfl,_⟩:=h;simp[Ty.size,Value.oneCell']
  | _=>simp only[Ty.Rep] at h
 | bytes | nbytes =>
  cases d with
  | bytes o =>
   cases o<;>simp only[Ty.Rep] at h
   ·subst h;simp[Ty.size,Value.oneCell']
   ·obtain ⟨q,o,cap,rfl,_⟩:=h;simp[Ty.size,Value.oneCell']
  | _=>simp only[Ty.Rep] at h
 | list _ _ _ =>
  cases d with
  | list o =>
   cases o<;>simp only[Ty.Rep] at h
   ·subst h;simp[Ty.size,Value.oneCell']
   ·obtain ⟨q,cap,rfl,_⟩:=h;simp[Ty.size,Value.oneCell']
  | _=>simp only[Ty.Rep] at h
 | nstruct _ _ _ _ _ =>
  cases d with
  | list o =>
   rcases o with _ | ⟨_ | ⟨d0,_ | ⟨d1,r⟩⟩⟩
   ·simp only[Ty.Rep] at h;subst h;simp[Ty.size,Value.oneCell']
   ·simp only[Ty.Rep] at h
   ·cases d0<;>simp only[Ty.Rep] at h
    obtain ⟨q,c,rfl,_⟩:=h;simp[Ty.size,Value.oneCell']
   ·cases d0<;>simp only[Ty.Rep] at h
  | _=>simp only[Ty.Rep] at h
section
variable {P : Program} {E : Env} {a : Act} {w : World} {r : List Oper} {Q : Exit → Act → World → Prop}
theorem r_leafLoad {e:Ty} {d s:Nat} {cs:List Value} (hS:e.okS P E) (hl:cs.length=e.size) (hv:e.Val w a s cs)
  (h:rO_ P Q r (a.put (some d) (leafV e cs)) w):rO_ P Q ((if e.arr then kZ d (e.T E) (.tmp s) else qd d (.tmp s) (e.T E))::r) a w:=by
 unfold Ty.Val at hv
 unfold Ty.okS at hS
 unfold leafV at h
 cases ha:e.arr with
 | true =>
  simp only[ha,if_true] at *
  obtain ⟨q,h1,h2⟩:=hv
  exact qf (b:=q) (o:=0) h1 (by rw[hl];exact hS) h2 h
 | false =>
  simp only[ha,Bool.false_eq_true,if_false] at *
  subst hv
  exact rM h
theorem r_leafStore {e:Ty} {x y:Operand} {b o:Nat} {cs:List Value} (hS:e.okS P E) (hl:cs.length=e.size) (h1:∀ v ∈ cs,v.oneCell'=true) (hx:a.eval x=.pointer (some ⟨b,o,none⟩)) (hy:a.eval y=leafV e cs) (hf:∀ i,i<e.size->qt w b (o+i))
  (h:rO_ P Q r a (setCells w b o cs)):rO_ P Q (zf (e.T E) x y::r) a w:=by
 unfold Ty.okS at hS
 unfold leafV at hy
 cases ha:e.arr with
 | true =>
  simp only[ha,if_true] at *
  exact qu (b:=b) (o:=o) (cs:=cs) hx hy h1 (by rw[hl];exact hS) (by rw[hl];exact hf) h
 | false =>
  simp only[ha,Bool.false_eq_true,if_false] at *
  obtain ⟨hS,hz⟩:=hS
  match cs,hl with
  | [],hl=>rw[hz] at hl;cases hl
  | [v],hl=>exact xq (b:=b) (o:=o) (v:=v) hx hy (h1 v zS) hS (by simpa using hf 0 zH) h
  | _::_::_,hl=>rw[hz] at hl;simp at hl
end
def FM (rb pb lo n:Nat):Nat->Nat->Prop:=fun k i=>RM rb k i\/(k=pb/\lo<=i/\i<lo+n)
def Flds.RVal (P:Program) (E:Env) (T:List (Nat × List UInt8)->Prop) (fs:Flds):Prop :=
 ∀ (x:Cx) (ver:Nat) (fx:Bool) (L:Nat) (TP TU:TypeId) (s idx off n t b rb sb pb po B:Nat) (ev:Value) (a:Act) (w:World) (st:RSt) (Q:Exit->Act->World->Prop),
  fs.okR P E x TU idx off=true->fs.txR P E->RSl x L n t fx->n+fs.rn<=L->t+fs.rt x<=a.tmps.size->RSta E x ver fx rb sb ev a w st →
  a.eval (.tmp s)=.pointer (some ⟨pb,po,none⟩)->s<n->qb w pb (po+off) fs.dz->(∀ i,i<fs.size->qt w pb (po+off+i))->pb≠rb->pb≠sb->pb≠E.vErr->pb<B->rb<B->B<=w.heap.size →
  (∀ a' w' cs ds tags,Fr (KR L n t) a a'->RSta E x ver fx rb sb ev a' w' (fs.rd fx ver noK st).2.2->cs.length=fs.size->qb w' pb (po+off) cs->fs.Rep w' ⟨sb,T⟩ B cs ds tags->Eff (FM rb pb (po+off) fs.size) w w' →
   ((fs.rd fx ver noK st).2.2.2=false->ds=(fs.rd fx ver noK st).1/\tags=(fs.rd fx ver noK st).2.1)->Q .normal a' w') →
  (∀ a' w',a'.defers=a.defers->a'.tmps.size=a.tmps.size->a'.eval (.tmp 6)=ev->Eff (FM rb pb (po+off) fs.size) w w'->(fs.rd fx ver noK st).2.2.2=true->Q .ret a' w') →
  vc P (sq (Flds.rc E x TP TU s idx [] n t b fs)) Q a w
section
variable {P : Program} {E : Env} {T : List (Nat × List UInt8) → Prop}
theorem m_struct {TP TU:TypeId} {FD:FuncId} {fs:Flds} (hF:fs.RVal P E T) {x:Cx} {ver:Nat} {fx:Bool} {L n t b rb sb pb po B:Nat} {ev:Value} {a:Act} {w:World} {st:RSt} {Q:Exit->Act->World->Prop} {cs0:List Value}
  (hok:(Ty.struct TP TU FD fs).okR P E x=true) (htx:(Ty.struct TP TU FD fs).txR P E) (hs:RSl x L n t fx) (hn:n+2+fs.rn<=L) (ht:t+(3+fs.rt x)<=a.tmps.size) (hst:RSta E x ver fx rb sb ev a w st)
  (hp:a.eval (.tmp n)=.pointer (some ⟨pb,po,none⟩)) (hc0:cs0.length=fs.size) (hov:fs.over cs0=fs.dz) (hc:qb w pb po cs0) (hf:∀ i,i<fs.size->qt w pb (po+i)) (h1:pb≠rb) (h2:pb≠sb) (h3:pb≠E.vErr) (hB:pb<B) (hrB:rb<B) (hBw:B<=w.heap.size)
  (kn:∀ a' w' cs ds tags,Fr (KR L n t) a a'->RSta E x ver fx rb sb ev a' w' (fs.rd fx ver noK st).2.2->cs.length=fs.size->qb w' pb po cs->fs.Rep w' ⟨sb,T⟩ B cs ds tags->Eff (FM rb pb po fs.size) w w' →
   ((fs.rd fx ver noK st).2.2.2=false->ds=(fs.rd fx ver noK st).1/\tags=(fs.rd fx ver noK st).2.1)->Q .normal a' w')
  (kr:∀ a' w',a'.defers=a.defers->a'.tmps.size=a.tmps.size->a'.eval (.tmp 6)=ev->Eff (FM rb pb po fs.size) w w'->(fs.rd fx ver noK st).2.2.2=true->Q .ret a' w') :
  vc P (sq (Ty.rc E x 0 0 0 0 n t b (.struct TP TU FD fs))) Q a w:=by
 have hnL:=hs.nL;have hLt:=hs.Lt;have h7:=hs.seven;have hrd:=hs.rd
 simp only[Ty.okR,Bool.and_eq_true] at hok
 simp only[Ty.txR] at htx
 obtain ⟨⟨np,nt,htxt,hnt⟩,htx⟩:=htx
 simp only[Ty.rc,List.cons_append,List.nil_append]
 refine vX (rM ?_)
 refine q8 (args:=#[.pointer (some ⟨pb,po,none⟩)]) ?_ (c_dflt (b:=pb) (o:=po) (off:=0) (cs:=cs0) htxt hnt hok.2 hc0 (by rw[Nat.add_zero];exact hc) (by rw[Nat.add_zero];exact hf)) ?_
 ·simp only[lM]
  simp (disch:=(try simp only[sP]);omega) only[eV,hp]
 rintro v w1 ⟨hE1,hc1⟩
 rw[Nat.add_zero] at hE1 hc1
 rw[hov] at hc1
 refine dn (vX (rM (rA (dn ?_))))
 generalize ha1:((((a.put (some t) (a.eval (.tmp n))).put (some (t+1)) v).put (some (t+2)) _).put (some (n+1)) _)=a1
 have hfr:Fr (KR L n t) a a1:=by
  subst ha1
  exact ((((Fr.refl _ a).put _ (hs.kt _ zH)).put _ (hs.kt _ zH)).put _ (hs.kt _ zH)).put _ (hs.kn (n+1) zH zH)
 have hp1:a1.eval (.tmp (n+1))=.pointer (some ⟨pb,po,none⟩):=by
  subst ha1
  exact zA
 have hsz:=hfr.size
 have hE1':Eff (FM rb pb po fs.size) w w1:=hE1.mono (fun k i _ h=>.inr h)
 refine hF x ver fx L TP TU (n+1) 0 0 (n+2) (t+3) b rb sb pb po B ev a1 w1 st Q hok.1 htx (hs.up zH zH zH) hn (by rw[hsz];omega)
  (hst.keep hs hfr hE1 (by rintro i ⟨h,_⟩;exact h1 h.symm) (by rintro i ⟨h,_⟩;exact h2 h.symm) (by rintro i ⟨h,_⟩;exact h3 h.symm)) hp1 zH hc1 (fun i hi=>(hf i hi).eff hE1) h1 h2 h3 hB hrB (Nat.le_trans hBw hE1.size) ?_ ?_
 ·intro a' w' cs ds tags b1 b2 b3 b4 b5 b6 b7
  exact kn a' w' cs ds tags (hfr.trans (b1.mono (KR.mono zH zH))) b2 b3 b4 b5 (hE1'.trans b6) b7
 ·intro a' w' b1 b2 b3 b4 b5
  exact kr a' w' (by rw[b1,hfr.defers]) (by rw[b2,hsz]) b3 (hE1'.trans b4) b5
end
end Go.Km
namespace Go.Km
open Go Go.RowKit
attribute [local irreducible] vc rO_ qz qJ qF
theorem wv:∀ (vs:List Value) (w:World) (b o:Nat),World.setCells w b o vs=setCells w b o vs
 | [],_,_,_=>rfl
 | v::r,w,b,o=>by
  simp only[World.setCells,setCells]
  exact wv r _ b (o+1)
section
variable {P : Program} {a : Act} {w : World} {r : List Oper} {Q : Exit → Act → World → Prop}
theorem r_copySrc {d x y t ty p af g e b n sv sb} {l:List UInt8} (hB:xe P t e 1=true) (hx:a.eval x=.slice (some ⟨b,0,none⟩) n n) (hy:a.eval y=sv) (hs:j0 w sb sv l) (hl:l.length<=n) (hf:∀ j,j<n->qt w b (0+j))
  (h:rO_ P Q r (a.put (some d) (.int .i64 (l.length:Nat))) (setCells w b 0 (l.map bv))) :
  rO_ P Q (⟨some d,.call { callee:=.builtin .copy,args:=#[x,y],argTypes:=#[t,t] },ty,p,af,g⟩::r) a w:=by
 refine st ?_
 obtain ⟨hu,i,z,hi,hz,_⟩:=xQ hB
 have hsz:(P.info? e).map (·.size)=some 1:=by rw[hi];simp[hz]
 have hr:(Builtin.copy_ #[t,t] ty #[.slice (some ⟨b,0,none⟩) n n,sv]).run P w=.ok (.int .i64 (l.length:Nat)) (setCells w b 0 (l.map bv)):=by
  rcases hs with ⟨rfl,rfl⟩ | ⟨o,cap,rfl,hc,hcs⟩
  ·have:=run_copy_none (P:=P) w t t ty e (some ⟨b,0,none⟩) none n n 0 0 hu hsz zS
   simpa [goInt,setCells] using this
  ·have:=run_copy_cells (P:=P) w t t ty e b 0 n n ⟨sb,o,none⟩ l.length cap (l.map bv) hu hsz (by rw[List.length_map];exact (Nat.min_eq_left hl).symm) (fun j v hv=>by rw[Addr.add_lit];exact hcs j v hv) (fun j hj=>(hf j (by simp at hj;omega)).1) (fun j hj=>(hf j (by simp at hj;omega)).2) (xm l)
   rw[this,wv]
   simp[goInt]
 simp only[Oper.wp,execOp,resolve,invoke,builtin,Sem.run_bind,Sem.run_pure,Result.andThen_ok,List.map_toArray,List.map_cons,List.map_nil,hx,hy,hr,Oper.upon_value]
 exact h
end
section
variable {P : Program} {E : Env}
theorem rdSpan_lens (n:Nat) (st:RSt):(qq (n:Int) st).1.length<=n/\((qq (n:Int) st).2.2=false->(qq (n:Int) st).1.length=n)/\((qq (n:Int) st).1=[]\/(qq (n:Int) st).1.length=n):=by
 unfold qq
 split
 ·simp
 ·rename_i h
  have h1:n<=st.1.length:=by omega
  simp only[Int.toNat_natCast,List.length_take]
  omega
theorem uuidR (H:REnv P E) (hm:P.follows .mixedOrders=true) (ha:arrB P E.tUuid E.tU8 16=true) (hg:z7 P E.tUuid=some 16) (hz:qK P E.tUuid=some (.agg (List.replicate 16 (bv 0)).toArray)) (cS:E.rUuid≠0->yz P E) (ht:E.rUuid≠0->Text P E.rUuid 1 9 #[.cell 2 E.tUuid] (c_rUuid E)):UuidR P E:=by
 intro hne rb sb st W hr
 have cS:=cS hne
 have ht:=ht hne
 have hrlt:=hr.rb_lt
 have hslt:=hr.lt
 have hau:=arrB_inv ha
 have hs8:(P.info? E.tU8).map (·.size)=some 1:=by
  obtain ⟨hu,i,z,hi,hz,_⟩:=xQ H.row
  rw[hi];simp[hz]
 refine qa.enter ht zS ?_
 intro a hsz hdf harg
 have e0:=harg 0 (.pointer (some ⟨rb,0,none⟩)) zS
 unfold c_rUuid
 refine vX ?_
 refine qI hz ?_
 refine dn (vX ?_)
 refine qI hz ?_
 refine dn ?_
 have hzc:(Value.agg (List.replicate 16 (bv 0)).toArray).cells=(List.replicate 16 (bv 0)).toArray:=rfl
 rw[hzc]
 have hb0:Below W.heap.size W ((W.alloc (.cells (List.replicate 16 (bv 0)).toArray E.tUuid)).alloc (.cells (List.replicate 16 (bv 0)).toArray E.tUuid)) :=
  ((Below.refl W.heap.size W).alloc (o:=.cells _ _) (Nat.le_refl _)).alloc (o:=.cells _ _) zS
 have hf2:∀ j,j<16->qt ((W.alloc (.cells (List.replicate 16 (bv 0)).toArray E.tUuid)).alloc (.cells (List.replicate 16 (bv 0)).toArray E.tUuid)) W.heap.size (0+j):=fun j hj =>
  (qm W _ E.tUuid (by simpa using hj)).eff ((Eff.refl (fun _ _=>False) _).alloc _)
 have hf3:∀ j,j<16->qt ((W.alloc (.cells (List.replicate 16 (bv 0)).toArray E.tUuid)).alloc (.cells (List.replicate 16 (bv 0)).toArray E.tUuid)) (W.heap.size+1) (0+j):=fun j hj=>by
  have:=qm (W.alloc (.cells (List.replicate 16 (bv 0)).toArray E.tUuid)) (List.replicate 16 (bv 0)).toArray E.tUuid (i:=0+j) (by simpa using hj)
  simpa using this
 have hc3:qb ((W.alloc (.cells (List.replicate 16 (bv 0)).toArray E.tUuid)).alloc (.cells (List.replicate 16 (bv 0)).toArray E.tUuid)) (W.heap.size+1) 0 (List.replicate 16 (bv 0)):=by
  intro j v hv
  have:=qs (W.alloc (.cells (List.replicate 16 (bv 0)).toArray E.tUuid)) (List.replicate 16 (bv 0)).toArray E.tUuid (i:=0+j) (v:=v) (by simpa using hv)
  simpa using this
 have hz0:((W.alloc (.cells (List.replicate 16 (bv 0)).toArray E.tUuid)).alloc (.cells (List.replicate 16 (bv 0)).toArray E.tUuid)).heap.size=W.heap.size+2:=by simp
 have hsz1:(W.alloc (.cells (List.replicate 16 (bv 0)).toArray E.tUuid)).heap.size=W.heap.size+1:=by simp
 generalize ha1:Act.put (Act.put a _ _) _ _=a1
 have hfr1:Fr (fun k=>k<2) a a1:=by
  subst ha1
  exact ((Fr.refl _ a).put _ zH).put _ zH
 have h10:a1.eval (.tmp 0)=.pointer (some ⟨rb,0,none⟩):=by rw[hfr1.slot 0 zH];exact e0
 have h12:a1.eval (.tmp 2)=.pointer (some ⟨W.heap.size,0,none⟩):=by subst ha1;exact zE
 have h13:a1.eval (.tmp 3)=.pointer (some ⟨W.heap.size+1,0,none⟩):=by subst ha1;rw[← hsz1];exact zE
 have hs1:a1.tmps.size=9:=by rw[hfr1.size];exact hsz
 have hd1:a1.defers=[]:=by rw[hfr1.defers];exact hdf
 clear ha1
 generalize (W.alloc (.cells (List.replicate 16 (bv 0)).toArray E.tUuid)).alloc (.cells (List.replicate 16 (bv 0)).toArray E.tUuid)=w0 at *
 have hr0:RdS w0 rb sb st:=hr.below hb0 zH zH
 obtain ⟨hlen1,hlen2,hlen3⟩:=rdSpan_lens 16 st
 have hS:(fun _:World=>True) { w0 with drawn:=w0.drawn+1 }:=trivial
 have hbd:Below W.heap.size W { w0 with drawn:=w0.drawn+1 }:=hb0.trans ⟨rfl,rfl,rfl,Nat.le_refl _,fun _ _=>rfl⟩
 have hrd:RdS { w0 with drawn:=w0.drawn+1 } rb sb st:=hr.below hbd zH zH
 refine vS (xd [(0,true),(1,true),(2,false),(3,false)] (fun _=>True) hm (by kernel_rfl) rfl (by kernel_rfl) (fun _ _ _ _ h=>False.elim h) ?_)
 refine dP rfl rfl rfl (wN rfl) (by simp only[zP,hs1];decide) hS (fun w' _=>r_sliceArr (b:=W.heap.size+1) (n:=16) (s:=1) hau hs8 zA (dn ⟨rfl,rfl,rfl⟩)) ?_
 refine dP rfl rfl rfl (wN rfl) (by simp only[zP,hs1];decide) hS (fun w' _=>rM (dn ⟨rfl,rfl,rfl⟩)) ?_
 refine qx rfl (wN rfl) ?_
 refine q8 (args:=#[.pointer (some ⟨rb,0,none⟩),.int .i64 (16:Nat)]) ?_ (cS rb sb st (16:Nat) _ hrd) ?_
 ·simp only[lM]
  simp (disch:=(try simp only[sP]);omega) only[eV,h10]
  rfl
 rintro sv w1 ⟨hsv,hr1,hE1,_⟩
 refine dn (qw trivial ?_)
 refine qx rfl (wN rfl) ?_
 have hne3:W.heap.size+1≠rb:=by omega
 have hf31:∀ j,j<16->qt w1 (W.heap.size+1) (0+j):=fun j hj=>(show qt { w0 with drawn:=w0.drawn+1 } (W.heap.size+1) (0+j) from hf3 j hj).eff hE1
 have hf21:∀ j,j<16->qt w1 W.heap.size (0+j):=fun j hj=>(show qt { w0 with drawn:=w0.drawn+1 } W.heap.size (0+j) from hf2 j hj).eff hE1
 have hc31:qb w1 (W.heap.size+1) 0 (List.replicate 16 (bv 0)):=fun j v hv=>hE1.cellSome (show World.cell? { w0 with drawn:=w0.drawn+1 } _=some v from hc3 j v hv) (by rintro ⟨e,_⟩;exact hne3 e)
 generalize hp:qq ((16:Nat):Int) st=p at *
 refine r_copySrc (n:=16) (b:=W.heap.size+1) H.row zE zE hsv zH hf31 ?_
 refine dn (qw trivial ?_)
 refine xC ?_
 have hEc:=qe (W.heap.size+1) (p.1.map bv) w1 0
 obtain ⟨l,hl16,hlb,hcl⟩:∃ l:List UInt8,l.length=16/\(p.2.2=false->l=p.1)/\qb (setCells w1 (W.heap.size+1) 0 (p.1.map bv)) (W.heap.size+1) 0 (l.map bv):=by
  rcases hlen3 with h0 | h16
  ·refine ⟨List.replicate 16 0,by simp,fun h=>?_,?_⟩
   ·have:=hlen2 h
    rw[h0] at this
    simp at this
   ·rw[h0]
    simp only[List.map_nil,setCells,List.map_replicate]
    exact hc31
  ·exact ⟨p.1,h16,fun _=>rfl,fun j v hv=>qg _ _ _ _ (fun j hj=>(hf31 j (by simp at hj;omega)).1) j v hv⟩
 have hf22:∀ j,j<16->qt (setCells w1 (W.heap.size+1) 0 (p.1.map bv)) W.heap.size (0+j):=fun j hj=>(hf21 j hj).eff hEc
 have hz1:=hE1.size
 have hEW1:Eff (RM rb) W w1:=(Eff.of_below hbd).trans hE1
 have hE2:Eff (RM rb) W (setCells w1 (W.heap.size+1) 0 (p.1.map bv)):=by
  refine hEW1.trans' hEc ?_
  rintro k j hk ⟨e,_⟩
  omega
 have hr2:RdS (setCells w1 (W.heap.size+1) 0 (p.1.map bv)) rb sb p.2:=by
  refine hr1.keep hEc ?_ ?_
  ·rintro i ⟨e,_⟩;omega
  ·rintro i ⟨e,_⟩;omega
 generalize setCells w1 (W.heap.size+1) 0 (p.1.map bv)=w2 at *
 refine vX ?_
 refine qf (b:=W.heap.size+1) (o:=0) (cs:=l.map bv) zA (by rw[hg];simp[hl16]) hcl ?_
 refine qu (b:=W.heap.size) (o:=0) (cs:=l.map bv) zA zE (xm l) (by rw[hg];simp[hl16]) (fun i hi=>hf22 i (by simp at hi;omega)) ?_
 refine dn ?_
 have hE3:=qe W.heap.size (l.map bv) w2 0
 refine vS (vT ?_)
 have hc4:qb (setCells w2 W.heap.size 0 (l.map bv)) W.heap.size 0 (l.map bv):=fun j u hu=>qg _ _ _ _ (fun j hj=>(hf22 j (by simp at hj;omega)).1) j u hu
 refine ⟨by simp only[dF];exact hd1,.agg (l.map bv).toArray,z8 (b:=W.heap.size) (o:=0) (cs:=l.map bv) zA (by rw[hg];simp[hl16]) hc4,⟨l,hl16,rfl,hlb⟩,?_,?_⟩
 ·refine hr2.keep hE3 ?_ ?_
  ·rintro i ⟨e,_⟩;omega
  ·rintro i ⟨e,_⟩;omega
 ·refine hE2.trans' hE3 ?_
  rintro k j hk ⟨e,_⟩
  omega
end
end Go.Km
namespace Go.Km
open Go Go.RowKit
attribute [local irreducible] vc rO_ qz qJ qF
section
variable {P : Program} {E : Env} {T : List (Nat × List UInt8) → Prop} {K : Nat → Prop} {a : Act} {w : World} {Q : Exit → Act → World → Prop}
theorem m_listNull {TS te:TypeId} {sz N ver vs y z t:Nat} {l:Int} (hB:xe P TS te sz=true) (hy:a.eval (.tmp y)=.slice none 0 0) (hz:a.eval (.tmp z)=.int .i32 l) (hv:a.eval (.tmp vs)=.int .i16 (ver:Int))
  (hky:¬ K y) (ht:∀ d,t<=d->¬ K d) (hyt:y<t) (hzt:z<t) (hvt:vs<t) (hsz:t+7<=a.tmps.size)
  (k:∀ a' w' base,Fr K a a'->Below w.heap.size w w'->a'.eval (.tmp y)=.slice base 0 0->(if (decide (ver<N)||l==0)=true then ∃ q,base=some ⟨q,0,none⟩/\w.heap.size<=q/\q<w'.heap.size else base=none)->Q .normal a' w') :
  vc P (sq [rg [qd t (.tmp vs) E.tI16,zL (t+1) .lss E.tI16 (.tmp t) (i16 N) E.tI16 E.tO,qd (t+2) (.tmp (t+1)) E.tO,
    ⟨some (t+3),.move (.tmp z),E.tI32,"",#[],some (2,false)⟩,
    ⟨some (t+4),.binOp .eql E.tI32 (.tmp (t+3)) (i32 0) E.tI32,E.tO,"",#[],some (2,false)⟩,
    (oQ (t+5) (.pick (.tmp (t+2)) (.const (.bool true)) (.tmp (t+4))) E.tO)],
    .cond (.tmp (t+5)) (rg [zb (t+6) TS 0 #[],qc y (.tmp (t+6)) TS]) .skip]) Q a w:=by
 have hfr:∀ v0 v1 v2 v3 v4 v5,Fr K a ((((((a.put (some t) v0).put (some (t+1)) v1).put (some (t+2)) v2).put (some (t+3)) v3).put (some (t+4)) v4).put (some (t+5)) v5):=fun _ _ _ _ _ _ =>
  ((((((Fr.refl K a).put _ (ht _ zH)).put _ (ht _ zH)).put _ (ht _ zH)).put _ (ht _ zH)).put _ (ht _ zH)).put _ (ht _ zH)
 have fin:∀ (a1:Act),Fr K a a1->a1.eval (.tmp y)=.slice none 0 0->a1.eval (.tmp (t+5))=.bool (decide (ver<N)||l==0)->vc P (sq [.cond (.tmp (t+5)) (rg [zb (t+6) TS 0 #[],qc y (.tmp (t+6)) TS]) .skip]) Q a1 w:=by
  intro a1 hf hy1 h5
  have hs1:=hf.size
  refine vS (vC h5 ?_ ?_)
  ·intro h
   refine vR zS ?_
   refine jF hB ?_
   refine rA (dn (vN ?_))
   refine k _ _ (some ⟨w.heap.size,0,none⟩) ((hf.put _ (ht _ zH)).put _ hky) ((Below.refl w.heap.size w).alloc (o:=.cells _ _) (Nat.le_refl _)) zE ?_
   rw[if_pos h]
   exact ⟨w.heap.size,rfl,Nat.le_refl _,by simp⟩
  ·intro h
   refine vK (vN ?_)
   refine k a1 w none hf (Below.refl _ _) hy1 ?_
   rw[if_neg (by rw[h];decide)]
 refine vS (vc_runG (dj:=t+2) zS rfl ?_)
 refine g_mv ?_
 refine g_lss (k:=.i16) (m:=ver) (n:=N) zA rfl ?_
 refine g_mv ?_
 by_cases h:(ver:Int)<N
 ·refine g_skip (b:=decide ((ver:Int)<N)) zE (by simpa using h) ?_
  refine g_skip (b:=decide ((ver:Int)<N)) zE (by simpa using h) ?_
  refine g_pick (b:=decide ((ver:Int)<N)) (v:=.bool true) zE (by rw[if_pos (by simpa using h)];rfl) ?_
  refine g_dn ?_
  refine fin _ (hfr _ _ _ _ _ _) zA ?_
  have:(ver<N):=by omega
  rw[qD _ _ _ (by simp only[zP];omega)]
  simp[this]
 ·refine g_want (b:=decide ((ver:Int)<N)) zE (by simpa using h) ?_
  refine g_mv ?_
  refine g_want (b:=decide ((ver:Int)<N)) zE (by simpa using h) ?_
  refine g_eql (k:=.i32) (m:=l) (n:=0) zA rfl ?_
  refine g_pick (b:=decide ((ver:Int)<N)) (v:=.bool (l==0)) zE (by rw[if_neg (by simpa using h)];exact zE) ?_
  refine g_dn ?_
  refine fin _ (hfr _ _ _ _ _ _) zA ?_
  have:¬ (ver<N):=by omega
  rw[qD _ _ _ (by simp only[zP];omega)]
  simp[this]
theorem m_listOk (H:EnvR P E T) {x:Cx} {rb sb t:Nat} {st:RSt} {ev:Value} (hr:RdS w rb sb st) (he:w.cell? ⟨E.vErr,0,none⟩=some ev) (hp:a.eval (.tmp x.rd)=.pointer (some ⟨rb,0,none⟩)) (ht:∀ d,t<=d->¬ K d) (h7:7<t) (hx:x.rd<t) (hsz:t+3<=a.tmps.size)
  (kn:st.2=false->∀ a',Fr K a a'->Q .normal a' w) (kr:st.2=true->∀ a',a'.defers=a.defers->a'.tmps.size=a.tmps.size->a'.eval (.tmp 6)=ev->Q .ret a' w) :
  vc P (sq [rg [xi (some t) E.rOk #[.tmp x.rd] #[E.tRd] E.tO,oUn (t+1) .not E.tO (.tmp t) E.tO],
   .cond (.tmp (t+1)) (sq [qU E x E.rComplete E.tErr 6 (t+2),.ret]) .skip]) Q a w:=by
 refine vX ?_
 refine q8 (args:=#[.pointer (some ⟨rb,0,none⟩)]) ?_ (H.ok rb sb st w hr) ?_
 ·simp only[lM]
  simp (disch:=(try simp only[sP]);omega) only[eV,hp]
 rintro v w1 ⟨rfl,rfl⟩
 refine zq (b:=!st.2) zE ?_
 refine dn ?_
 refine vS (vC (t:=st.2) (by rw[qD _ _ _ (by simp only[zP];omega)];simp) ?_ ?_)
 ·intro h
  refine vX ?_
  refine q8 (args:=#[.pointer (some ⟨rb,0,none⟩)]) ?_ (H.complete rb sb st w1 ev hr he) ?_
  ·simp only[lM]
   simp (disch:=(try simp only[sP]);omega) only[eV,hp]
  rintro v w2 ⟨rfl,rfl⟩
  refine rA (dn (vS (vT ?_)))
  refine kr h _ (by simp only[dF]) (by simp only[zP]) ?_
  rw[if_pos h]
  exact zE
 ·intro h
  refine vK (vN (kn h _ ?_))
  exact ((Fr.refl K a).put _ (ht _ zH)).put _ (ht _ zH)
theorem m_listGrow (H:EnvR P E T) {TS te:TypeId} {sz y z t:Nat} {l:Int} {base:Option Addr} {zv:Value} {rest:List Code} (hB:xe P TS te sz=true) (hzt:qK P te=some zv) (hy:a.eval (.tmp y)=.slice base 0 0) (hz:a.eval (.tmp z)=.int .i32 l) (hl:l<=big)
  (hky:¬ K y) (ht:∀ d,t<=d->¬ K d) (hyt:y<t) (hzt2:z<t) (hsz:t+7<=a.tmps.size)
  (k:∀ a' w',Fr K a a'->Below w.heap.size w w'->((l<=0/\a'.eval (.tmp y)=.slice base 0 0/\w'=w) ∨
   (0<l/\∃ cap,a'.eval (.tmp y)=.slice (some ⟨w.heap.size,0,none⟩) l.toNat cap/\w.heap.size<w'.heap.size/\(∀ j,j<l.toNat->qb w' w.heap.size (j*sz) zv.cells.toList)/\∀ i,i<l.toNat*sz->qt w' w.heap.size i))->vc P (sq rest) Q a' w') :
  vc P (sq (rg [qd t (.tmp y) TS,oSlice (t+1) TS (.tmp t) none (some (i64 0)) none,qc y (.tmp (t+1)) TS] ::
   sq [rg [qd (t+2) (.tmp z) E.tI32,zL (t+3) .gtr E.tI32 (.tmp (t+2)) (i32 0) E.tI32 E.tO],
   .cond (.tmp (t+3)) (rg [qd (t+4) (.tmp y) TS,qd (t+5) (.tmp z) E.tI32,xH (t+6) .append #[.tmp (t+4),.tmp (t+5)] #[TS,E.tI32] TS,qc y (.tmp (t+6)) TS]) .skip]::rest)) Q a w:=by
 by_cases hyz:y=z
 ·subst hyz;rw[hy] at hz;cases hz
 refine vX (rM ?_)
 refine r_slice0 (ad:=base) (len:=0) (cap:=0) (k:=.i64) (rB hB) zA rfl ?_
 refine rA (dn (vS (vX (rM ?_))))
 refine ji (k:=.i32) (m:=l) (n:=0) zA rfl ?_
 refine dn ?_
 generalize ha1:Act.put (Act.put (Act.put (Act.put (Act.put a _ _) _ _) _ _) _ _) _ _=a1
 have hfr:Fr K a a1:=by
  subst ha1
  exact (((((Fr.refl K a).put _ (ht _ zH)).put _ (ht _ zH)).put _ hky).put _ (ht _ zH)).put _ (ht _ zH)
 have hy1:a1.eval (.tmp y)=.slice base 0 0:=by subst ha1;exact zA
 have hz1:a1.eval (.tmp z)=.int .i32 l:=by subst ha1;exact zA
 have hc1:a1.eval (.tmp (t+3))=.bool (decide (l>0)):=by subst ha1;exact zE
 have hs1:=hfr.size
 clear ha1
 refine vS (vC hc1 ?_ ?_)
 ·intro h
  have hl0:0<l:=by simpa using h
  obtain ⟨n,rfl⟩:∃ n:Nat,l=(n:Int):=⟨l.toNat,by omega⟩
  refine vR zS ?_
  refine rM (rM ?_)
  refine r_appendMake (base:=base) (n:=n) (k:=.i32) hB H.i32 hzt zA zA zH zH ?_
  intro cap w' h1 h2 h3 h4
  refine rA ?_
  refine dn (vN (k _ w' ?_ h1 (.inr ⟨hl0,cap,?_,h2,?_,?_⟩)))
  ·exact (((hfr.put _ (ht _ zH)).put _ (ht _ zH)).put _ (ht _ zH)).put _ hky
  ·rw[Int.toNat_natCast]
   exact zE
  ·rw[Int.toNat_natCast];exact h3
  ·rw[Int.toNat_natCast];exact h4
 ·intro h
  have hl0:l<=0:=by simp at h;omega
  exact vK (vN (k a1 w hfr (Below.refl _ _) (.inl ⟨hl0,hy1,rfl⟩)))
end
end Go.Km
namespace Go.Km
open Go Go.RowKit
attribute [local irreducible] vc rO_ qz qJ qF
theorem rdCn_le {fx:Bool} {st:RSt} (h:(xp fx st).2.2=false):(xp fx st).1<=((xp fx st).2.1.length:Int):=by
 unfold xp at h ⊢
 cases fx<;>simp only[Bool.false_eq_true,if_false,if_true,rdC4,rdCc] at h ⊢<;>(unfold z5 at h ⊢;split at h<;>first | (cases h;done) | (rename_i hh;rw[if_neg hh];omega))
theorem jK (f:RSt->D × RSt):∀ (n:Nat) (st:RSt),xf f (n+1) st=((xf f n st).1++[(f (xf f n st).2).1],(f (xf f n st).2).2)
 | 0,st=>rfl
 | n+1,st=>by
  rw[xf,jK f n (f st).2]
  simp only[xf,List.cons_append]
theorem rdMany_bad {f:RSt->D × RSt} (hf:∀ st,(f st).2.2=false->st.2=false) (n:Nat) (st:RSt):∀ k,(xf f n st).2.2=true->(xf f (n+k) st).2.2=true
 | 0,h=>h
 | k+1,h=>by
  have ih:=rdMany_bad hf n st k h
  rw[← Nat.add_assoc,jK]
  cases hh:(f (xf f (n+k) st).2).2.2 with
  | true=>rfl
  | false=>rw[hf _ hh] at ih;cases ih
def ListV (null:Option Nat) (ver sz:Nat) (zc:List Value) (l:Int) (w w':World) (v:Value):Prop :=
 (l<=0/\∃ base,v=.slice base 0 0/\(if jB null ver l=true then ∃ q,base=some ⟨q,0,none⟩/\w.heap.size<=q/\q<w'.heap.size else base=none)) ∨
 (0<l/\∃ q cap,v=.slice (some ⟨q,0,none⟩) l.toNat cap/\w.heap.size<=q/\q<w'.heap.size/\(∀ j,j<l.toNat->qb w' q (j*sz) zc)/\∀ i,i<l.toNat*sz->qt w' q i)
def rNull (E:Env) (x:Cx) (TS:TypeId) (null:Option Nat) (n t:Nat):List Code :=
 match null with
 | none=>[]
 | some N=>[sq [rg [qd t (.tmp x.vs) E.tI16,zL (t+1) .lss E.tI16 (.tmp t) (i16 N) E.tI16 E.tO,qd (t+2) (.tmp (t+1)) E.tO,
    ⟨some (t+3),.move (.tmp (n+2)),E.tI32,"",#[],some (2,false)⟩,
    ⟨some (t+4),.binOp .eql E.tI32 (.tmp (t+3)) (i32 0) E.tI32,E.tO,"",#[],some (2,false)⟩,
    (oQ (t+5) (.pick (.tmp (t+2)) (.const (.bool true)) (.tmp (t+4))) E.tO)],
    .cond (.tmp (t+5)) (rg [zb (t+6) TS 0 #[],qc (n+1) (.tmp (t+6)) TS]) .skip]]
section
variable {P : Program} {E : Env} {T : List (Nat × List UInt8) → Prop}
theorem m_listTail (H:EnvR P E T) {TS te:TypeId} {sz:Nat} {null:Option Nat} {x:Cx} {ver:Nat} {fx:Bool} {L n t t0 rb sb:Nat} {ev:Value} {a0 a:Act} {w0 w:World} {st:RSt} {Q:Exit->Act->World->Prop} {rest:List Code} {zv:Value} {l:Int}
  (hB:xe P TS te sz=true) (hzt:qK P te=some zv) (hs:RSl x L n t0 fx) (hn:n+3<=L) (h0t:t0<=t) (ht:t+(if null.isSome then 7 else 0)+3+2+5<=a.tmps.size) (hst:RSta E x ver fx rb sb ev a w st)
  (hf0:Fr (KR L n t0) a0 a) (hE0:Eff (RM rb) w0 w) (hy:a.eval (.tmp (n+1))=.slice none 0 0) (hz:a.eval (.tmp (n+2))=.int .i32 l) (hl:st.2=false->l<=big)
  (kn:∀ a' w' v,Fr (KR L n t0) a0 a'->RSta E x ver fx rb sb ev a' w' st->st.2=false->a'.eval (.tmp (n+1))=v->a'.eval (.tmp (n+2))=.int .i32 l->Eff (RM rb) w0 w'->ListV null ver sz zv.cells.toList l w0 w' v->vc P (sq rest) Q a' w')
  (kr:∀ a' w',a'.defers=a0.defers->a'.tmps.size=a0.tmps.size->a'.eval (.tmp 6)=ev->Eff (RM rb) w0 w'->st.2=true->Q .ret a' w') :
  vc P (sq (rNull E x TS null n t ++
   (sq [rg [xi (some (t+(if null.isSome then 7 else 0))) E.rOk #[.tmp x.rd] #[E.tRd] E.tO,oUn (t+(if null.isSome then 7 else 0)+1) .not E.tO (.tmp (t+(if null.isSome then 7 else 0))) E.tO],
    .cond (.tmp (t+(if null.isSome then 7 else 0)+1)) (sq [qU E x E.rComplete E.tErr 6 (t+(if null.isSome then 7 else 0)+2),.ret]) .skip] ::
    rg [qd (t+(if null.isSome then 7 else 0)+3) (.tmp (n+1)) TS,oSlice (t+(if null.isSome then 7 else 0)+4) TS (.tmp (t+(if null.isSome then 7 else 0)+3)) none (some (i64 0)) none,qc (n+1) (.tmp (t+(if null.isSome then 7 else 0)+4)) TS] ::
    sq [rg [qd (t+(if null.isSome then 7 else 0)+5) (.tmp (n+2)) E.tI32,zL (t+(if null.isSome then 7 else 0)+6) .gtr E.tI32 (.tmp (t+(if null.isSome then 7 else 0)+5)) (i32 0) E.tI32 E.tO],
    .cond (.tmp (t+(if null.isSome then 7 else 0)+6)) (rg [qd (t+(if null.isSome then 7 else 0)+7) (.tmp (n+1)) TS,qd (t+(if null.isSome then 7 else 0)+8) (.tmp (n+2)) E.tI32,xH (t+(if null.isSome then 7 else 0)+9) .append #[.tmp (t+(if null.isSome then 7 else 0)+7),.tmp (t+(if null.isSome then 7 else 0)+8)] #[TS,E.tI32] TS,qc (n+1) (.tmp (t+(if null.isSome then 7 else 0)+9)) TS]) .skip]::rest))) Q a w:=by
 have hnL:=hs.nL;have hLt:=hs.Lt;have h7:=hs.seven;have hrd:=hs.rd;have hvs:=hs.vs
 have hkt:∀ d,t0<=d->¬ KR L n t0 d:=hs.kt
 have hky:¬ KR L n t0 (n+1):=hs.kn _ zH zH
 have e0:=hE0.size
 -- behind the null part
 have fin:∀ (t2:Nat) (a1:Act) (w1:World) (base:Option Addr),t<=t2->t2+3+2+5<=a.tmps.size->Fr (fun k=>KR L n t0 k\/k=n+2) a a1->Below w.heap.size w w1->a1.eval (.tmp (n+1))=.slice base 0 0 →
   (if jB null ver l=true then ∃ q,base=some ⟨q,0,none⟩/\w.heap.size<=q/\q<w1.heap.size else base=none) →
   vc P (sq (sq [rg [xi (some t2) E.rOk #[.tmp x.rd] #[E.tRd] E.tO,oUn (t2+1) .not E.tO (.tmp t2) E.tO],
    .cond (.tmp (t2+1)) (sq [qU E x E.rComplete E.tErr 6 (t2+2),.ret]) .skip] ::
    rg [qd (t2+3) (.tmp (n+1)) TS,oSlice (t2+4) TS (.tmp (t2+3)) none (some (i64 0)) none,qc (n+1) (.tmp (t2+4)) TS] ::
    sq [rg [qd (t2+5) (.tmp (n+2)) E.tI32,zL (t2+6) .gtr E.tI32 (.tmp (t2+5)) (i32 0) E.tI32 E.tO],
    .cond (.tmp (t2+6)) (rg [qd (t2+7) (.tmp (n+1)) TS,qd (t2+8) (.tmp (n+2)) E.tI32,xH (t2+9) .append #[.tmp (t2+7),.tmp (t2+8)] #[TS,E.tI32] TS,qc (n+1) (.tmp (t2+9)) TS]) .skip]::rest)) Q a1 w1:=by
  intro t2 a1 w1 base htt hsz hf hb hy1 hbase
  have hfk:=hf.mono (fun k h=>Or.inl h:∀ k,KR L n t0 k->_)
  have hz1:a1.eval (.tmp (n+2))=.int .i32 l:=by rw[hf.slot _ (.inr rfl)];exact hz
  have hst1:RSta E x ver fx rb sb ev a1 w1 st:=(hst.step hs hfk (hst.rd.below hb hst.rd.rb_lt hst.rd.lt) (Eff.of_below hb))
  have hs1:=hf.size
  have hE1:Eff (RM rb) w0 w1:=hE0.trans (Eff.of_below hb)
  refine vS (m_listOk (K:=fun k=>KR L n t0 k\/k=n+1\/k=n+2) H hst1.rd hst1.err hst1.p7 (by rintro d hd (h | h | h);exact hkt d zH h;omega;omega) zH zH (by rw[hs1];omega) ?_ ?_)
  ·intro hb0 a2 hf2
   have hs2:=hf2.size
   refine m_listGrow (K:=fun k=>KR L n t0 k\/k=n+2) (t:=t2+3) (base:=base) (l:=l) H hB hzt (by rw[hf2.slot _ (.inr (.inl rfl))];exact hy1) (by rw[hf2.slot _ (.inr (.inr rfl))];exact hz1) (hl hb0)
    (by rintro (h | h);exact hky h;omega) (by rintro d hd (h | h);exact hkt d zH h;omega) zH zH (by rw[hs2,hs1];omega) ?_
   intro a3 w3 hf3 hb3 hcase
   have hfk3:Fr (KR L n t0) a a3:=(hfk.trans (hf2.mono (fun k h=>.inl h))).trans (hf3.mono (fun k h=>.inl h))
   have hE3:Eff (RM rb) w1 w3:=Eff.of_below hb3
   have hst3:RSta E x ver fx rb sb ev a3 w3 st:=hst1.step hs ((hf2.mono (fun k h=>.inl h)).trans (hf3.mono (fun k h=>.inl h))) (hst1.rd.below hb3 hst1.rd.rb_lt hst1.rd.lt) hE3
   refine kn a3 w3 _ (hf0.trans hfk3) hst3 hb0 rfl (by rw[hf3.slot _ (.inr rfl),hf2.slot _ (.inr (.inr rfl))];exact hz1) (hE1.trans hE3) ?_
   rcases hcase with ⟨hl0,hy3,rfl⟩ | ⟨hl0,cap,hy3,h4,h5,h6⟩
   ·refine .inl ⟨hl0,base,hy3,?_⟩
    split at hbase
    ·rename_i hh
     rw[if_pos hh]
     obtain ⟨q,h1,h2,h3⟩:=hbase
     exact ⟨q,h1,by omega,h3⟩
    ·rename_i hh
     rw[if_neg hh]
     exact hbase
   ·refine .inr ⟨hl0,w1.heap.size,cap,hy3,hE1.size,h4,h5,h6⟩
  ·intro hb1 a2 h1 h2 h3
   exact kr a2 w1 (by rw[h1,hf.defers,hf0.defers]) (by rw[h2,hf.size,hf0.size]) h3 hE1 hb1
 cases null with
 | none =>
  simp only[rNull,Option.isSome_none,Bool.false_eq_true,if_false,Nat.add_zero,List.nil_append] at ht ⊢
  refine fin t a w none (Nat.le_refl _) ht (Fr.refl _ _) (Below.refl _ _) hy ?_
  rw[if_neg (by simp[jB])]
 | some N =>
  simp only[rNull,Option.isSome_some,if_true,List.cons_append,List.nil_append] at ht ⊢
  refine vS (m_listNull (K:=fun k=>KR L n t0 k\/k=n+2) (ver:=ver) hB hy hz hst.ver (by rintro (h | h);exact hky h;omega) (by rintro d hd (h | h);exact hkt d zH h;omega) zH zH zH zH ?_)
  intro a1 w1 base hf hb hy1 hbase
  exact fin (t+7) a1 w1 base zH ht hf hb hy1 hbase
end
end Go.Km
namespace Go.Km
open Go Go.RowKit
attribute [local irreducible] vc rO_ qz qJ qF
def rTail (E:Env) (x:Cx) (TS:TypeId) (null:Option Nat) (n t:Nat):List Code :=
 rNull E x TS null n t ++
   [sq [rg [xi (some (t+(if null.isSome then 7 else 0))) E.rOk #[.tmp x.rd] #[E.tRd] E.tO,oUn (t+(if null.isSome then 7 else 0)+1) .not E.tO (.tmp (t+(if null.isSome then 7 else 0))) E.tO],
    .cond (.tmp (t+(if null.isSome then 7 else 0)+1)) (sq [qU E x E.rComplete E.tErr 6 (t+(if null.isSome then 7 else 0)+2),.ret]) .skip],
    rg [qd (t+(if null.isSome then 7 else 0)+3) (.tmp (n+1)) TS,oSlice (t+(if null.isSome then 7 else 0)+4) TS (.tmp (t+(if null.isSome then 7 else 0)+3)) none (some (i64 0)) none,qc (n+1) (.tmp (t+(if null.isSome then 7 else 0)+4)) TS],
    sq [rg [qd (t+(if null.isSome then 7 else 0)+5) (.tmp (n+2)) E.tI32,zL (t+(if null.isSome then 7 else 0)+6) .gtr E.tI32 (.tmp (t+(if null.isSome then 7 else 0)+5)) (i32 0) E.tI32 E.tO],
    .cond (.tmp (t+(if null.isSome then 7 else 0)+6)) (rg [qd (t+(if null.isSome then 7 else 0)+7) (.tmp (n+1)) TS,qd (t+(if null.isSome then 7 else 0)+8) (.tmp (n+2)) E.tI32,xH (t+(if null.isSome then 7 else 0)+9) .append #[.tmp (t+(if null.isSome then 7 else 0)+7),.tmp (t+(if null.isSome then 7 else 0)+8)] #[TS,E.tI32] TS,qc (n+1) (.tmp (t+(if null.isSome then 7 else 0)+9)) TS]) .skip]]
theorem rListHead_eq (E:Env) (x:Cx) (TP TU TS:TypeId) (null:Option Nat) (n s f t:Nat):vp E x TP TU TS null n s f t =
  [yD TP TU TS n s f t,rg [qd (t+4) (.tmp n) TS,qc (n+1) (.tmp (t+4)) TS],rg [qc (n+2) (i32 0) E.tI32],
   (match x.fl with
   | none=>qU E x E.rLen E.tI32 (n+2) (t+5)
   | some fl=>rIf E (t+5) fl (qU E x E.rCLen E.tI32 (n+2) (t+6)) (qU E x E.rLen E.tI32 (n+2) (t+7)))]++rTail E x TS null n (t+5+(match x.fl with | none=>1 | some _=>3)):=by
 cases null<;>rfl
section
variable {P : Program} {E : Env} {T : List (Nat × List UInt8) → Prop}
theorem m_listHead (H:EnvR P E T) {TP TU TS te:TypeId} {sz:Nat} {null:Option Nat} {x:Cx} {ver:Nat} {fx:Bool} {L s f n t rb sb pb po off:Nat} {ev:Value} {a:Act} {w:World} {st:RSt} {Q:Exit->Act->World->Prop} {rest:List Code} {zv:Value}
  (hlen:x.ok E.rCLen E.rLen=true) (hTS:qQ P TS=true) (hB:xe P TS te sz=true) (hzt:qK P te=some zv) (hs:RSl x L n t fx) (hn:n+3<=L)
  (ht:t+5+(match x.fl with | none=>1 | some _=>3)+(if null.isSome then 7 else 0)+3+2+5<=a.tmps.size) (hst:RSta E x ver fx rb sb ev a w st)
  (hp:a.eval (.tmp s)=.pointer (some ⟨pb,po,none⟩)) (hsn:s<n) (hfo:qk P TU f=some off) (hc:w.cell? ⟨pb,po+off,none⟩=some (.slice none 0 0))
  (kn:∀ a' w' v,Fr (KR L n t) a a'->RSta E x ver fx rb sb ev a' w' (xp fx st).2->(xp fx st).2.2=false->a'.eval (.tmp (n+1))=v->a'.eval (.tmp (n+2))=.int .i32 (xp fx st).1->Eff (RM rb) w w'->ListV null ver sz zv.cells.toList (xp fx st).1 w w' v->vc P (sq rest) Q a' w')
  (kr:∀ a' w',a'.defers=a.defers->a'.tmps.size=a.tmps.size->a'.eval (.tmp 6)=ev->Eff (RM rb) w w'->(xp fx st).2.2=true->Q .ret a' w') :
  vc P (sq (vp E x TP TU TS null n s f t++rest)) Q a w:=by
 have hnL:=hs.nL;have hLt:=hs.Lt;have h7:=hs.seven;have hrd:=hs.rd
 have hF:=Cx.ok_fx hlen hs.no
 have hkt:=hs.kt
 rw[rListHead_eq]
 simp only[List.append_assoc,List.cons_append,List.nil_append]
 refine vS (m_load (K:=KR L n t) hp hfo hTS hc (hs.kn n (Nat.le_refl _) zH) hkt zH zH ?_)
 intro a1 hf1 hv1
 have hs1:=hf1.size
 refine vX (rM (rA (dn (vX (rA (dn ?_))))))
 generalize ha2:Act.put (Act.put (Act.put a1 _ _) _ _) _ _=a2
 have hf2:Fr (KR L n t) a a2:=by
  subst ha2
  exact ((hf1.put _ (hkt _ zH)).put _ (hs.kn (n+1) zH zH)).put _ (hs.kn (n+2) zH zH)
 have hy2:a2.eval (.tmp (n+1))=.slice none 0 0:=by subst ha2;exact zA
 have hs2:=hf2.size
 clear ha2
 have hst2:=hst.fr hs hf2
 have hs':RSl x L (n+2) (t+5) fx:=hs.up zH zH zH
 have hgo:=fun (t1:Nat) (r1:List Code) (h1:t+5<=t1) (hk:∀ a3 w3,Fr (KR L (n+2) (t+5)) a2 a3->a3.eval (.tmp (n+2))=.int .i32 (xp fx st).1->RdS w3 rb sb (xp fx st).2->Eff (RM rb) w w3->vc P (sq r1) Q a3 w3) =>
  m_way1 (P:=P) (Q:=Exit.then (vc P (sq r1) Q) Q) (T0:=E.tI32) hs' zH hst2 (by rw[hs2];cases hx:x.fl<;>simp only[hx] at ht ⊢<;>omega) (H.len fx hF rb sb st w hst2.rd) (fun a3 v w3 hf he hS=>hk a3 w3 hf (by rw[he,hS.1]) hS.2.1 hS.2.2)
 have tail:∀ (t1:Nat) (a3:Act) (w3:World),t+5<=t1->t1+(if null.isSome then 7 else 0)+3+2+5<=a.tmps.size->Fr (KR L (n+2) (t+5)) a2 a3->a3.eval (.tmp (n+2))=.int .i32 (xp fx st).1->RdS w3 rb sb (xp fx st).2->Eff (RM rb) w w3->vc P (sq (rTail E x TS null n t1++rest)) Q a3 w3:=by
  intro t1 a3 w3 h1 hsz hf he hr hE
  unfold rTail
  simp only[List.append_assoc,List.cons_append,List.nil_append]
  exact m_listTail H (Q:=Q) (rest:=rest) (null:=null) (t:=t1) hB hzt hs hn zH (by rw[hf.size,hs2];exact hsz) (hst2.step hs' hf hr hE) (hf2.trans (hf.mono (KR.mono zH zH))) hE (by rw[hf.slot _ (.inl zH)];exact hy2) he
    (fun h=>by have h1:=rdCn_le h;have h2:=hr.len;omega) kn kr
 cases hx:x.fl with
 | none =>
  simp only[hx] at hgo ht ⊢
  exact vS (hgo (t+5+1) _ zH (fun a3 w3 hf he hr hE=>tail (t+5+1) a3 w3 zH ht hf he hr hE))
 | some fl =>
  simp only[hx] at hgo ht ⊢
  exact vS (hgo (t+5+3) _ zH (fun a3 w3 hf he hr hE=>tail (t+5+3) a3 w3 zH ht hf he hr hE))
theorem m_rloop {x:Cx} {ver:Nat} {fx:Bool} {L n t b len rb sb:Nat} {ev:Value} {a:Act} {w:World} {Q:Exit->Act->World->Prop} {body:Code} {l:Int} {S:Nat->RSt} {J:Nat->World->Prop} {R:World->Prop}
  (hs:RSl x L n t fx) (hn:n+4<=L) (ht:t+5<=a.tmps.size) (hz:a.eval (.tmp (n+2))=.int .i32 l) (hlen:len=l.toNat) (hl:l<=big) (hst:RSta E x ver fx rb sb ev a w (S 0)) (h0:J 0 w)
  (step:∀ i a1 w1,i<len->Fr (KR L (n+3) t) a a1->RSta E x ver fx rb sb ev a1 w1 (S i)->a1.eval (.tmp (n+3))=.int .i32 (i:Int)->J i w1->∀ Q1:Exit->Act->World->Prop,
   (∀ a2 w2,Fr (KR L (n+4) (t+5)) a1 a2->RSta E x ver fx rb sb ev a2 w2 (S (i+1))->J (i+1) w2->Q1 .normal a2 w2) →
   (∀ a2 w2,a2.defers=a1.defers->a2.tmps.size=a1.tmps.size->a2.eval (.tmp 6)=ev->R w2->Q1 .ret a2 w2)->vc P body Q1 a1 w1)
  (kn:∀ a' w',Fr (KR L (n+3) t) a a'->RSta E x ver fx rb sb ev a' w' (S len)->J len w'->Q .normal a' w')
  (kr:∀ a' w',a'.defers=a.defers->a'.tmps.size=a.tmps.size->a'.eval (.tmp 6)=ev->R w'->Q .ret a' w'):vc P (rLoop E n t b body) Q a w:=by
 have hnL:=hs.nL;have hLt:=hs.Lt;have h7:=hs.seven;have hrd:=hs.rd
 have hs3:RSl x L (n+3) t fx:=hs.up zH zH (Nat.le_refl _)
 have hkt:=hs3.kt
 have hkn:=hs3.kn (n+3) (Nat.le_refl _) zH
 have hbig:big<=2147483000:=Nat.le_refl _
 unfold rLoop
 refine vX (rA (dn ?_))
 refine vS (qh ?_)
 refine zI (fun a' w'=>∃ i,i<=len/\Fr (KR L (n+3) t) a a'/\RSta E x ver fx rb sb ev a' w' (S i)/\a'.eval (.tmp (n+3))=.int .i32 (i:Int)/\J i w')
  (fun a' _=>len-(intOf (a'.eval (.tmp (n+3)))).toNat) ?_ ?_
 ·have hf:Fr (KR L (n+3) t) a (a.put (some (n+3)) (a.eval (i32 0))):=(Fr.refl _ a).put _ hkn
  refine ⟨0,Nat.zero_le _,hf,hst.fr hs3 hf,?_,h0⟩
  rw[qD _ _ _ zH]
  rfl
 rintro a1 w1 ⟨i,hi,hf,hst1,h3,hJ⟩
 have hsz:=hf.size
 refine vS (vX (rM (rM ?_)))
 refine qV (k:=.i32) (m:=i) (n:=l) zA (by rw[← hf.slot (n+2) (.inl zH)] at hz;exact zA) ?_
 refine dn ?_
 generalize ha2:Act.put (Act.put (Act.put a1 _ _) _ _) _ _=a2
 have hf2:Fr (KR L (n+4) t) a1 a2:=by
  subst ha2
  have hs4:RSl x L (n+4) t fx:=hs.up zH zH (Nat.le_refl _)
  exact (((Fr.refl _ a1).put _ (hs4.kt _ zH)).put _ (hs4.kt _ zH)).put _ (hs4.kt _ zH)
 have hc2:a2.eval (.tmp (t+2))=.bool (decide ((i:Int)<l)):=by subst ha2;exact zE
 have h32:a2.eval (.tmp (n+3))=.int .i32 (i:Int):=by rw[hf2.slot _ (.inl zH)];exact h3
 have hf2':Fr (KR L (n+3) t) a a2:=hf.trans (hf2.mono (KR.mono zH (Nat.le_refl _)))
 have hst2:RSta E x ver fx rb sb ev a2 w1 (S i):=hst1.fr hs3 (hf2.mono (KR.mono zH (Nat.le_refl _)))
 have hsz2:=hf2'.size
 clear ha2
 refine vS (vC hc2 ?_ ?_)
 ·intro hlt
  have hlt':i<len:=by
   have:(i:Int)<l:=by simpa using hlt
   omega
  refine vK (vN ?_)
  refine vS (qh ?_)
  refine step i a2 w1 hlt' hf2' hst2 h32 hJ _ ?_ ?_
  ·intro a3 w3 hf3 hst3 hJ3
   have hf3':Fr (KR L (n+3) t) a a3:=hf2'.trans (hf3.mono (KR.mono zH zH))
   have hsz3:=hf3'.size
   have h33:a3.eval (.tmp (n+3))=.int .i32 (i:Int):=by rw[hf3.slot _ (.inl zH)];exact h32
   show vc P (sq [rg _]) _ a3 w3
   refine vX (rM ?_)
   refine xN (k:=.i32) (m:=i) (n:=1) zA rfl ?_
   refine rA (dn (vN ?_))
   have hw:IntKind.i32.wrap ((i:Int)+1)=((i+1:Nat):Int):=by rw[IntWalk.i32_in _ ⟨by omega,by omega⟩];omega
   generalize ha4:Act.put (Act.put (Act.put a3 _ _) _ _) _ _=a4
   have e4:a4.eval (.tmp (n+3))=.int .i32 ((i+1:Nat):Int):=by
    subst ha4
    rw[qD _ _ _ (by simp only[zP];omega),qD _ _ _ (by simp only[zP];omega),hw]
   have hf4:Fr (KR L (n+3) t) a3 a4:=by
    subst ha4
    exact (((Fr.refl _ a3).put _ (hkt _ zH)).put _ (hkt _ zH)).put _ hkn
   refine ⟨⟨i+1,hlt',hf3'.trans hf4,hst3.fr hs3 hf4,e4,hJ3⟩,?_⟩
   show len-(intOf _).toNat<len-(intOf _).toNat
   rw[e4,h3]
   simp only[intOf,Int.toNat_natCast]
   omega
  ·intro a3 w3 h4 h5 h6 h7
   exact kr a3 w3 (by rw[h4,hf2'.defers]) (by rw[h5,hsz2]) h6 h7
 ·intro hge
  have hi':i=len:=by
   have:¬ ((i:Int)<l):=by simpa using hge
   omega
  subst hi'
  refine xb ?_
  simp only[Exit.then,Exit.inBlock,if_true]
  exact vN (kn a2 w1 hf2' hst2 hJ)
end
end Go.Km
