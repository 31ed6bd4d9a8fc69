/- What kbin's functions that write do: texts, octets, counts. What kbin's AppendUvarint does. Tags: how many; the writing of none. All of kbin's writing together. What the small functions of the spec do. What the small functions of the spec do: Uvarint, width, counted, version. The trees and the fields of the spec in memory; has, null, whole, things, at, Same. whole, things, at, Same. Same. The reader: its state; what its methods have in common. binary.BigEndian. The reader's methods for numbers. Bodies that jump forward to a label. kbin.Uvarint, and the reader's Uvarint. -/
import Derived.Test.YtlcamogfjoneiaaDoorKb00
import Derived.Test.YtlcamogfjoneiaaDoorKb01
import Derived.Laws.Tables
set_option maxHeartbeats 4000000
set_option linter.unusedSimpArgs false
set_option linter.unusedVariables false
namespace Go.Km
open Go Go.RowKit
attribute [local irreducible] vc rO_ qz qI qF
section
variable {P : Program} {a : Act} {w : World} {r : List Oper} {Q : Exit → Act → World → Prop}
theorem gf {d T x ty p af g ad} {e:TypeId} (hT:P.underlying T=some (.pointer e)) (hx:a.eval x=.pointer ad) (h:rO_ P Q r (a.put (some d) (.bool ad.isNone)) w) :
  rO_ P Q (⟨some d,.binOp .eql T x (.const (.pointer none)) T,ty,p,af,g⟩::r) a w:=by
 refine st ?_
 have hb:(binOp .eql T (.pointer ad) (.pointer none)).run P w=.ok (.bool ad.isNone) w:=by
  have h0:∀ k:Nat,(Op.equalIn (k+1) T (.pointer ad) (.pointer none)).run P w=.ok ad.isNone w:=fun k=>by
   cases ad<;>simp[Op.equalIn,run_underlying hT]
  simp only[binOp]
  simp[Op.equal,Op.maxDepth,h0 9999]
 have hg:(eqGuard .eql T x (.const (.pointer none)) (.pointer ad) (.pointer none))=pure ():=by cases ad<;>rfl
 simp only[Oper.wp,execOp,hx,xi,hg,hb,Sem.run_bind,Sem.run_pure,Result.andThen_ok,Oper.upon_value]
 exact h
theorem r_sliceArr {d t x ty p af g b n s} {e:TypeId} (hu:P.underlying t=some (.array n e)) (hs:(P.info? e).map (·.size)=some s) (hx:a.eval x=.pointer (some ⟨b,0,none⟩)) (h:rO_ P Q r (a.put (some d) (.slice (some ⟨b,0,none⟩) n n)) w) :
  rO_ P Q (⟨some d,.slice t x none none none,ty,p,af,g⟩::r) a w:=by
 refine st ?_
 cases hi:P.info? e with
 | none=>simp[hi] at hs
 | some i =>
  have hr:(Instr.sliceAt t (a.eval x) none none none).run P w=.ok (.slice (some ⟨b,0,none⟩) n n) w:=by
   rw[hx]
   by_cases hn:n=0
   ·simp[Instr.sliceAt,run_underlying hu,Instr.sureAddr,Instr.sliceBounds,sizeOf,typeInfo,hi,hn]
   ·simp[Instr.sliceAt,run_underlying hu,Instr.sureAddr,Instr.sliceBounds,sizeOf,typeInfo,hi,hn,Addr.add_zero']
  simp only[Oper.wp,execOp,Sem.run_bind,Option.map_none,hr,Sem.run_pure,Result.andThen_ok,Oper.upon_value]
  exact h
theorem yu {d t x i ty p af g k} {s:ByteArray} {j:Nat} {b:UInt8} (ht:P.underlying t=some .string) (hx:a.eval x=.string s) (hi:a.eval i=.int k (j:Int)) (hb:s[j]? = some b)
  (h:rO_ P Q r (a.put (some d) (.int .u8 b.toNat)) w):rO_ P Q (⟨some d,.index t x i,ty,p,af,g⟩::r) a w:=by
 refine st ?_
 have hr:(Instr.index t (a.eval x) (a.eval i)).run P w=.ok (.int .u8 b.toNat) w:=by
  rw[hx,hi]
  simp[Instr.index,asIntOf,run_underlying ht,hb]
 simp only[Oper.wp,execOp,Sem.run_bind,hr,Sem.run_pure,Result.andThen_ok,Oper.upon_value]
 exact h
end
section
variable {P : Program} {E : Env} {w : World} {U : Gd}
theorem z7 (l:List UInt8):(⟨l.toArray⟩:ByteArray).size=l.length:=by simp[ByteArray.size]
theorem wrap_id16 (n:Int):be 2 (IntKind.i16.wrap n)=be 2 n:=by
 rw[be2,be2,wrap_i16,show ((n+32768) % 65536-32768) / 256 % 256=n / 256 % 256 by omega,show ((n+32768) % 65536-32768) % 256=n % 256 by omega]
theorem wrap_id32 {n:Nat} (h:n<=big):IntKind.i32.wrap (n:Int)=n:=by rw[wrap_i32];unfold big at h;omega
theorem yf {n:Nat} (h:n<=big):IntKind.u32.wrap (1+IntKind.u32.wrap (n:Int))=((n+1:Nat):Int):=by rw[jM,jM];unfold big at h;omega
theorem k_str (ht:Text P E.wStr 2 13 #[.tmp 4] (c_wStr E)) (hB:xd P E.tB E.tU8 1=true) (i16:qs P E.tI16=some .i16) (ii:qs P E.tI=some .i64) (hs9:P.underlying E.tStr=some .string) (hc:∀ n (U:Gd) w,Wr1 P E E.wI16 U [.int .i16 n] (be 2 n) w) {l:List UInt8}:Wr1 P E E.wStr U [.string ⟨l.toArray⟩] (xS false l) w:=by
 intro dv xs hown hU hb
 refine qa.enter ht (by simp) ?_
 intro a hsz hdf harg
 have e0:=harg 0 dv (by simp)
 have e1:=harg 1 (.string ⟨l.toArray⟩) (by simp)
 unfold c_wStr
 refine vX (rA (dn ?_))
 have hl:l.length<=2147483000:=by simp only[xS,List.length_append] at hb;unfold big at hb;omega
 have hw:be 2 (IntKind.i16.wrap ((⟨l.toArray⟩:ByteArray).size:Nat))=be 2 l.length:=by rw[z7];exact wrap_id16 _
 have hb2:xs.length+(be 2 l.length).length+l.length<=big:=by simp only[xS,List.length_append,Bool.false_eq_true,if_false] at hb;omega
 refine vX (rM (rM ?_))
 refine j2 (by assumption) (by (try simp (disch:=(try simp only[sP]);omega) only[eV,e1])<;>(first | rfl | assumption)) ?_
 refine qM (by assumption) (by assumption) (by (try simp (disch:=(try simp only[sP]);omega) only[eV])<;>(first | rfl | assumption)) ?_
 refine q8 (args:=#[dv,.int .i16 (IntKind.i16.wrap ((⟨l.toArray⟩:ByteArray).size:Nat))]) ?_ (hc _ U w dv xs hown hU (by rw[hw];omega)) ?_
 ·simp only[lM]
  simp (disch:=(try simp only[sP]);omega) only[eV,e0]
 intro v' w' hs
 rw[hw] at hs
 have hU':U.u<=w'.heap.size:=Nat.le_trans hU hs.2.size
 refine rA (dn (vX (rM (rM ?_))))
 refine jE (sz:=1) (U:=U) (m:=l.length) (news:=l.map bv) hB (by simp (disch:=(try simp only[sP]);omega) only[eV]) (by simp (disch:=(try simp only[sP]);omega) only[eV,e1]) hs.1 hU' (wT hs9 l) (by simp only[List.length_append];omega) ?_
 intro v' w2 h1 h2
 rw[show (xs++be 2 ↑l.length).length+l.length=(xs++(be 2 ↑l.length++l)).length by simp only[List.length_append];omega,← List.map_append,List.append_assoc] at h1
 refine rA (dn (vS (vT ?_)))
 exact ⟨by simp only[dF];exact hdf,v',rO (by simp (disch:=(try simp only[sP]);omega) only[eV]),⟨h1,hs.2.trans h2⟩⟩
theorem k_cstr (ht:Text P E.wCStr 2 14 #[.tmp 4] (c_wCStr E)) (hB:xd P E.tB E.tU8 1=true) (iu:qs P E.tW=some .u32) (ii:qs P E.tI=some .i64) (hs9:P.underlying E.tStr=some .string) (hc:∀ (n:Nat) (U:Gd) w,n<4294967296->Wr1 P E E.wUvarint U [.int .u32 n] (Go.Km.uvar n) w) {l:List UInt8}:Wr1 P E E.wCStr U [.string ⟨l.toArray⟩] (xS true l) w:=by
 intro dv xs hown hU hb
 refine qa.enter ht (by simp) ?_
 intro a hsz hdf harg
 have e0:=harg 0 dv (by simp)
 have e1:=harg 1 (.string ⟨l.toArray⟩) (by simp)
 unfold c_wCStr
 refine vX (rA (dn ?_))
 have hl:l.length<=big:=by simp only[xS,List.length_append] at hb;omega
 have hw:IntKind.u32.wrap (1+IntKind.u32.wrap (((⟨l.toArray⟩:ByteArray).size:Nat):Int))=((l.length+1:Nat):Int):=by rw[z7];exact yf hl
 have hb2:xs.length+(Go.Km.uvar (l.length+1)).length+l.length<=big:=by simp only[xS,List.length_append,if_true] at hb;omega
 refine vX (rM (rM ?_))
 refine j2 (by assumption) (by (try simp (disch:=(try simp only[sP]);omega) only[eV,e1])<;>(first | rfl | assumption)) ?_
 refine qM (by assumption) (by assumption) (by (try simp (disch:=(try simp only[sP]);omega) only[eV])<;>(first | rfl | assumption)) ?_
 refine xP (by (try simp (disch:=(try simp only[sP]);omega) only[eV])<;>(first | rfl | assumption)) (by (try simp (disch:=(try simp only[sP]);omega) only[eV])<;>(first | rfl | assumption)) ?_
 refine q8 (args:=#[dv,.int .u32 (IntKind.u32.wrap (1+IntKind.u32.wrap ((⟨l.toArray⟩:ByteArray).size:Nat)))]) ?_ (by rw[hw];exact hc (l.length+1) U w (by unfold big at hl;omega) dv xs hown hU (by omega)) ?_
 ·simp only[lM]
  simp (disch:=(try simp only[sP]);omega) only[eV,e0]
 intro v' w' hs
 have hU':U.u<=w'.heap.size:=Nat.le_trans hU hs.2.size
 refine rA (dn (vX (rM (rM ?_))))
 refine jE (sz:=1) (U:=U) (m:=l.length) (news:=l.map bv) hB (by simp (disch:=(try simp only[sP]);omega) only[eV]) (by simp (disch:=(try simp only[sP]);omega) only[eV,e1]) hs.1 hU' (wT hs9 l) (by simp only[List.length_append];omega) ?_
 intro v' w2 h1 h2
 rw[show (xs++Go.Km.uvar (l.length+1)).length+l.length=(xs++(Go.Km.uvar (l.length+1)++l)).length by simp only[List.length_append];omega,← List.map_append,List.append_assoc] at h1
 refine rA (dn (vS (vT ?_)))
 exact ⟨by simp only[dF];exact hdf,v',rO (by simp (disch:=(try simp only[sP]);omega) only[eV]),⟨h1,hs.2.trans h2⟩⟩
theorem oct_src {T e:TypeId} {v:Value} {o:Option (List UInt8)} (hT:xw P T=some (e,1)) (hv:jp w U.u v o) (hU:U.u<=w.heap.size) :
  ∃ ad cap,v=.slice ad (o.getD []).length cap/\∀ w',Below U.u w w'->Src P 1 T v (o.getD []).length ((o.getD []).map bv) w':=by
 cases o with
 | none =>
  simp only[jp] at hv
  subst hv
  exact ⟨none,0,rfl,fun w' _=>wV hT⟩
 | some l =>
  obtain ⟨q,o,cap,rfl,hq,hc⟩:=hv
  exact ⟨_,cap,rfl,fun w' hw=>xW hT (hc.below hw hq) (by simp) (xo l)⟩
theorem k_octs (ht:Text P E.wBytes 2 13 #[.tmp 4] (c_wBytes E)) (hB:xd P E.tB E.tU8 1=true) (i32:qs P E.tI32=some .i32) (ii:qs P E.tI=some .i64) {v:Value} {o:Option (List UInt8)} (hv:jp w U.u v o) (hc:∀ n (U:Gd) w,Wr1 P E E.wI32 U [.int .i32 n] (be 4 n) w):Wr1 P E E.wBytes U [v] (xb false (o.getD [])) w:=by
 intro dv xs hown hU hb
 refine qa.enter ht (by simp) ?_
 intro a hsz hdf harg
 have e0:=harg 0 dv (by simp)
 have e1:=harg 1 (v) (by simp)
 unfold c_wBytes
 refine vX (rA (dn ?_))
 have hsl:=rB hB
 obtain ⟨ad,cap,hve,hsrc⟩:=oct_src hsl hv hU
 generalize hlo:o.getD []=l at *
 subst hve
 have hl:l.length<=big:=by simp only[xb,List.length_append] at hb;omega
 have hw:IntKind.i32.wrap (l.length:Int)=l.length:=wrap_id32 hl
 have hb2:xs.length+(be 4 l.length).length+l.length<=big:=by simp only[xb,List.length_append,Bool.false_eq_true,if_false] at hb;omega
 refine vX (rM (rM ?_))
 refine qY (by assumption) (by (try simp (disch:=(try simp only[sP]);omega) only[eV,e1])<;>(first | rfl | assumption)) ?_
 refine qM (by assumption) (by assumption) (by (try simp (disch:=(try simp only[sP]);omega) only[eV])<;>(first | rfl | assumption)) ?_
 refine q8 (args:=#[dv,.int .i32 (IntKind.i32.wrap (l.length:Int))]) ?_ (by rw[hw];exact hc _ U w dv xs hown hU (by omega)) ?_
 ·simp only[lM]
  simp (disch:=(try simp only[sP]);omega) only[eV,e0]
 intro v' w' hs
 have hU':U.u<=w'.heap.size:=Nat.le_trans hU hs.2.size
 refine rA (dn (vX (rM (rM ?_))))
 refine jE (sz:=1) (U:=U) (m:=l.length) (news:=l.map bv) hB (by simp (disch:=(try simp only[sP]);omega) only[eV]) (by simp (disch:=(try simp only[sP]);omega) only[eV,e1]) hs.1 hU' (hsrc _ hs.2) (by simp only[List.length_append];omega) ?_
 intro v' w2 h1 h2
 rw[show (xs++be 4 ↑l.length).length+l.length=(xs++(be 4 ↑l.length++l)).length by simp only[List.length_append];omega,← List.map_append,List.append_assoc] at h1
 refine rA (dn (vS (vT ?_)))
 exact ⟨by simp only[dF];exact hdf,v',rO (by simp (disch:=(try simp only[sP]);omega) only[eV]),⟨h1,hs.2.trans h2⟩⟩
theorem k_cocts (ht:Text P E.wCBytes 2 14 #[.tmp 4] (c_wCBytes E)) (hB:xd P E.tB E.tU8 1=true) (iu:qs P E.tW=some .u32) (ii:qs P E.tI=some .i64) {v:Value} {o:Option (List UInt8)} (hv:jp w U.u v o) (hc:∀ (n:Nat) (U:Gd) w,n<4294967296->Wr1 P E E.wUvarint U [.int .u32 n] (Go.Km.uvar n) w):Wr1 P E E.wCBytes U [v] (xb true (o.getD [])) w:=by
 intro dv xs hown hU hb
 refine qa.enter ht (by simp) ?_
 intro a hsz hdf harg
 have e0:=harg 0 dv (by simp)
 have e1:=harg 1 (v) (by simp)
 unfold c_wCBytes
 refine vX (rA (dn ?_))
 have hsl:=rB hB
 obtain ⟨ad,cap,hve,hsrc⟩:=oct_src hsl hv hU
 generalize hlo:o.getD []=l at *
 subst hve
 have hl:l.length<=big:=by simp only[xb,List.length_append] at hb;omega
 have hw:IntKind.u32.wrap (1+IntKind.u32.wrap (l.length:Int))=((l.length+1:Nat):Int):=by skip;exact yf hl
 have hb2:xs.length+(Go.Km.uvar (l.length+1)).length+l.length<=big:=by simp only[xb,List.length_append,if_true] at hb;omega
 refine vX (rM (rM ?_))
 refine qY (by assumption) (by (try simp (disch:=(try simp only[sP]);omega) only[eV,e1])<;>(first | rfl | assumption)) ?_
 refine qM (by assumption) (by assumption) (by (try simp (disch:=(try simp only[sP]);omega) only[eV])<;>(first | rfl | assumption)) ?_
 refine xP (by (try simp (disch:=(try simp only[sP]);omega) only[eV])<;>(first | rfl | assumption)) (by (try simp (disch:=(try simp only[sP]);omega) only[eV])<;>(first | rfl | assumption)) ?_
 refine q8 (args:=#[dv,.int .u32 (IntKind.u32.wrap (1+IntKind.u32.wrap (l.length:Int)))]) ?_ (by rw[hw];exact hc (l.length+1) U w (by unfold big at hl;omega) dv xs hown hU (by omega)) ?_
 ·simp only[lM]
  simp (disch:=(try simp only[sP]);omega) only[eV,e0]
 intro v' w' hs
 have hU':U.u<=w'.heap.size:=Nat.le_trans hU hs.2.size
 refine rA (dn (vX (rM (rM ?_))))
 refine jE (sz:=1) (U:=U) (m:=l.length) (news:=l.map bv) hB (by simp (disch:=(try simp only[sP]);omega) only[eV]) (by simp (disch:=(try simp only[sP]);omega) only[eV,e1]) hs.1 hU' (hsrc _ hs.2) (by simp only[List.length_append];omega) ?_
 intro v' w2 h1 h2
 rw[show (xs++Go.Km.uvar (l.length+1)).length+l.length=(xs++(Go.Km.uvar (l.length+1)++l)).length by simp only[List.length_append];omega,← List.map_append,List.append_assoc] at h1
 refine rA (dn (vS (vT ?_)))
 exact ⟨by simp only[dF];exact hdf,v',rO (by simp (disch:=(try simp only[sP]);omega) only[eV]),⟨h1,hs.2.trans h2⟩⟩
theorem k_len (ht:Text P E.wLen 2 9 #[.tmp 4] (c_wLen E)) (i32:qs P E.tI32=some .i32) (ii:qs P E.tI=some .i64) {n:Nat} (hn:n<=big) (hc:∀ n (U:Gd) w,Wr1 P E E.wI32 U [.int .i32 n] (be 4 n) w):Wr1 P E E.wLen U [.int .i64 n] (zk false n) w:=by
 intro dv xs hown hU hb
 refine qa.enter ht (by simp) ?_
 intro a hsz hdf harg
 have e0:=harg 0 dv (by simp)
 have e1:=harg 1 (.int .i64 n) (by simp)
 unfold c_wLen
 refine vX (rA (dn ?_))
 have hw:IntKind.i32.wrap (n:Int)=n:=wrap_id32 hn
 refine vX (rM (rM ?_))
 refine qM (by assumption) (by assumption) (by (try simp (disch:=(try simp only[sP]);omega) only[eV,e1])<;>(first | rfl | assumption)) ?_
 refine q8 (args:=#[dv,.int .i32 (IntKind.i32.wrap (n:Int))]) ?_ (by rw[hw];exact hc _ U w dv xs hown hU hb) ?_
 ·simp only[lM]
  simp (disch:=(try simp only[sP]);omega) only[eV,e0]
 intro v' w' hs
 refine rA (dn (vS (vT ?_)))
 exact ⟨by simp only[dF];exact hdf,v',rO (by simp (disch:=(try simp only[sP]);omega) only[eV]),hs⟩
theorem k_clen (ht:Text P E.wCLen 2 10 #[.tmp 4] (c_wCLen E)) (iu:qs P E.tW=some .u32) (ii:qs P E.tI=some .i64) {n:Nat} (hn:n<=big) (hc:∀ (n:Nat) (U:Gd) w,n<4294967296->Wr1 P E E.wUvarint U [.int .u32 n] (Go.Km.uvar n) w):Wr1 P E E.wCLen U [.int .i64 n] (zk true n) w:=by
 intro dv xs hown hU hb
 refine qa.enter ht (by simp) ?_
 intro a hsz hdf harg
 have e0:=harg 0 dv (by simp)
 have e1:=harg 1 (.int .i64 n) (by simp)
 unfold c_wCLen
 refine vX (rA (dn ?_))
 have hw:IntKind.u32.wrap (1+IntKind.u32.wrap (n:Int))=((n+1:Nat):Int):=yf hn
 refine vX (rM (rM ?_))
 refine qM (by assumption) (by assumption) (by (try simp (disch:=(try simp only[sP]);omega) only[eV,e1])<;>(first | rfl | assumption)) ?_
 refine xP (by (try simp (disch:=(try simp only[sP]);omega) only[eV])<;>(first | rfl | assumption)) (by (try simp (disch:=(try simp only[sP]);omega) only[eV])<;>(first | rfl | assumption)) ?_
 refine q8 (args:=#[dv,.int .u32 (IntKind.u32.wrap (1+IntKind.u32.wrap (n:Int)))]) ?_ (by rw[hw];exact hc (n+1) U w (by unfold big at hn;omega) dv xs hown hU hb) ?_
 ·simp only[lM]
  simp (disch:=(try simp only[sP]);omega) only[eV,e0]
 intro v' w' hs
 refine rA (dn (vS (vT ?_)))
 exact ⟨by simp only[dF];exact hdf,v',rO (by simp (disch:=(try simp only[sP]);omega) only[eV]),hs⟩
theorem k_nlen (ht:Text P E.wNLen 3 14 #[.tmp 6] (c_wNLen E)) (i32:qs P E.tI32=some .i32) (ii:qs P E.tI=some .i64) {n:Nat} {b:Bool} (hn:n<=big) (hc:∀ n (U:Gd) w,Wr1 P E E.wI32 U [.int .i32 n] (be 4 n) w):Wr1 P E E.wNLen U [.int .i64 n,.bool b] (if b then jb false else zk false n) w:=by
 intro dv xs hown hU hb
 refine qa.enter ht (by simp) ?_
 intro a hsz hdf harg
 have e0:=harg 0 dv (by simp)
 have e1:=harg 1 (.int .i64 n) (by simp)
 have e2:=harg 2 (.bool b) (by simp)
 unfold c_wNLen
 refine vX (rA (dn (vS (vX (rM (dn ?_))))))
 refine vS (vC (t:=b) (by simp (disch:=(try simp only[sP]);omega) only[eV,e2]) ?_ ?_)
 ·intro hbt
  subst hbt
  simp only[if_true] at hb ⊢
  refine vX (rM ?_)
  refine q8 (args:=#[dv,.int .i32 (-1)]) ?_ (hc (-1) U w dv xs hown hU hb) ?_
  ·simp only[lM]
   simp (disch:=(try simp only[sP]);omega) only[eV,e0]
  intro v' w' hs
  refine rA (dn (vS (vT ?_)))
  exact ⟨by simp only[dF];exact hdf,v',rO (by simp (disch:=(try simp only[sP]);omega) only[eV]),hs⟩
 ·intro hbt
  subst hbt
  simp only[Bool.false_eq_true,if_false] at hb ⊢
  refine vK (vN ?_)
  have hw:IntKind.i32.wrap (n:Int)=n:=wrap_id32 hn
  refine vX (rM (rM ?_))
  refine qM (by assumption) (by assumption) (by (try simp (disch:=(try simp only[sP]);omega) only[eV,e1])<;>(first | rfl | assumption)) ?_
  refine q8 (args:=#[dv,.int .i32 (IntKind.i32.wrap (n:Int))]) ?_ (by rw[hw];exact hc _ U w dv xs hown hU hb) ?_
  ·simp only[lM]
   simp (disch:=(try simp only[sP]);omega) only[eV,e0]
  intro v' w' hs
  refine rA (dn (vS (vT ?_)))
  exact ⟨by simp only[dF];exact hdf,v',rO (by simp (disch:=(try simp only[sP]);omega) only[eV]),hs⟩
theorem k_cnlen (ht:Text P E.wCNLen 3 15 #[.tmp 6] (c_wCNLen E)) (iu:qs P E.tW=some .u32) (ii:qs P E.tI=some .i64) {n:Nat} {b:Bool} (hn:n<=big) (hc:∀ (n:Nat) (U:Gd) w,n<4294967296->Wr1 P E E.wUvarint U [.int .u32 n] (Go.Km.uvar n) w):Wr1 P E E.wCNLen U [.int .i64 n,.bool b] (if b then jb true else zk true n) w:=by
 intro dv xs hown hU hb
 refine qa.enter ht (by simp) ?_
 intro a hsz hdf harg
 have e0:=harg 0 dv (by simp)
 have e1:=harg 1 (.int .i64 n) (by simp)
 have e2:=harg 2 (.bool b) (by simp)
 unfold c_wCNLen
 refine vX (rA (dn (vS (vX (rM (dn ?_))))))
 refine vS (vC (t:=b) (by simp (disch:=(try simp only[sP]);omega) only[eV,e2]) ?_ ?_)
 ·intro hbt
  subst hbt
  simp only[if_true] at hb ⊢
  refine vX (rM ?_)
  refine q8 (args:=#[dv,.int .u32 0]) ?_ (hc 0 U w (by decide) dv xs hown hU hb) ?_
  ·simp only[lM]
   simp (disch:=(try simp only[sP]);omega) only[eV,e0]
  intro v' w' hs
  refine rA (dn (vS (vT ?_)))
  exact ⟨by simp only[dF];exact hdf,v',rO (by simp (disch:=(try simp only[sP]);omega) only[eV]),hs⟩
 ·intro hbt
  subst hbt
  simp only[Bool.false_eq_true,if_false] at hb ⊢
  refine vK (vN ?_)
  have hw:IntKind.u32.wrap (1+IntKind.u32.wrap (n:Int))=((n+1:Nat):Int):=yf hn
  refine vX (rM (rM ?_))
  refine qM (by assumption) (by assumption) (by (try simp (disch:=(try simp only[sP]);omega) only[eV,e1])<;>(first | rfl | assumption)) ?_
  refine xP (by (try simp (disch:=(try simp only[sP]);omega) only[eV])<;>(first | rfl | assumption)) (by (try simp (disch:=(try simp only[sP]);omega) only[eV])<;>(first | rfl | assumption)) ?_
  refine q8 (args:=#[dv,.int .u32 (IntKind.u32.wrap (1+IntKind.u32.wrap (n:Int)))]) ?_ (by rw[hw];exact hc (n+1) U w (by unfold big at hn;omega) dv xs hown hU hb) ?_
  ·simp only[lM]
   simp (disch:=(try simp only[sP]);omega) only[eV,e0]
  intro v' w' hs
  refine rA (dn (vS (vT ?_)))
  exact ⟨by simp only[dF];exact hdf,v',rO (by simp (disch:=(try simp only[sP]);omega) only[eV]),hs⟩
theorem k_nocts (ht:Text P E.wNBytes 2 12 #[.tmp 4] (c_wNBytes E)) (hB:xd P E.tB E.tU8 1=true) {v:Value} {o:Option (List UInt8)} (hv:jp w U.u v o) (hn:∀ n (U:Gd) w,Wr1 P E E.wI32 U [.int .i32 n] (be 4 n) w) (hc:∀ v o (U:Gd) w,jp w U.u v o->Wr1 P E E.wBytes U [v] (xb false (o.getD [])) w):Wr1 P E E.wNBytes U [v] (xm false o) w:=by
 intro dv xs hown hU hb
 refine qa.enter ht (by simp) ?_
 intro a hsz hdf harg
 have e0:=harg 0 dv (by simp)
 have e1:=harg 1 (v) (by simp)
 unfold c_wNBytes
 refine vX (rA (dn ?_))
 have hsl:=rB hB
 refine vS (vX (rM ?_))
 cases o with
 | none =>
  simp only[jp] at hv
  subst hv
  refine yv (ad:=none) (len:=0) (cap:=0) hsl (by simp (disch:=(try simp only[sP]);omega) only[eV,e1]) ?_
  refine dn ?_
  refine vS (vC (t:=true) (by (try simp (disch:=(try simp only[sP]);omega) only[eV])<;>(first | rfl | assumption)) ?_ (fun h=>by cases h))
  intro _
  refine vX (rM ?_)
  refine q8 (args:=#[dv,.int .i32 (-1)]) ?_ (hn (-1) U w dv xs hown hU hb) ?_
  ·simp only[lM]
   simp (disch:=(try simp only[sP]);omega) only[eV,e0]
  intro v' w' hs
  refine rA (dn (vS (vT ?_)))
  exact ⟨by simp only[dF];exact hdf,v',rO (by simp (disch:=(try simp only[sP]);omega) only[eV]),hs⟩
 | some l =>
  have hv0:=hv
  obtain ⟨q,o,cap,hve,hq,hcl⟩:=hv
  refine yv (ad:=some ⟨q,o,none⟩) (len:=l.length) (cap:=cap) hsl (by simp (disch:=(try simp only[sP]);omega) only[eV,e1,hve]) ?_
  refine dn ?_
  refine vS (vC (t:=false) (by (try simp (disch:=(try simp only[sP]);omega) only[eV])<;>(first | rfl | assumption)) (fun h=>by cases h) ?_)
  intro _
  refine vK (vN (vX (rM (rM ?_))))
  refine q8 (args:=#[dv,v]) ?_ (hc v (some l) U w hv0 dv xs hown hU hb) ?_
  ·simp only[lM]
   simp (disch:=(try simp only[sP]);omega) only[eV,e0,e1]
  intro v' w' hs
  refine rA (dn (vS (vT ?_)))
  exact ⟨by simp only[dF];exact hdf,v',rO (by simp (disch:=(try simp only[sP]);omega) only[eV]),hs⟩
theorem k_cnocts (ht:Text P E.wCNBytes 2 12 #[.tmp 4] (ww E)) (hB:xd P E.tB E.tU8 1=true) {v:Value} {o:Option (List UInt8)} (hv:jp w U.u v o) (hn:∀ (n:Nat) (U:Gd) w,n<4294967296->Wr1 P E E.wUvarint U [.int .u32 n] (Go.Km.uvar n) w) (hc:∀ v o (U:Gd) w,jp w U.u v o->Wr1 P E E.wCBytes U [v] (xb true (o.getD [])) w):Wr1 P E E.wCNBytes U [v] (xm true o) w:=by
 intro dv xs hown hU hb
 refine qa.enter ht (by simp) ?_
 intro a hsz hdf harg
 have e0:=harg 0 dv (by simp)
 have e1:=harg 1 (v) (by simp)
 unfold ww
 refine vX (rA (dn ?_))
 have hsl:=rB hB
 refine vS (vX (rM ?_))
 cases o with
 | none =>
  simp only[jp] at hv
  subst hv
  refine yv (ad:=none) (len:=0) (cap:=0) hsl (by simp (disch:=(try simp only[sP]);omega) only[eV,e1]) ?_
  refine dn ?_
  refine vS (vC (t:=true) (by (try simp (disch:=(try simp only[sP]);omega) only[eV])<;>(first | rfl | assumption)) ?_ (fun h=>by cases h))
  intro _
  refine vX (rM ?_)
  refine q8 (args:=#[dv,.int .u32 0]) ?_ (hn 0 U w (by decide) dv xs hown hU hb) ?_
  ·simp only[lM]
   simp (disch:=(try simp only[sP]);omega) only[eV,e0]
  intro v' w' hs
  refine rA (dn (vS (vT ?_)))
  exact ⟨by simp only[dF];exact hdf,v',rO (by simp (disch:=(try simp only[sP]);omega) only[eV]),hs⟩
 | some l =>
  have hv0:=hv
  obtain ⟨q,o,cap,hve,hq,hcl⟩:=hv
  refine yv (ad:=some ⟨q,o,none⟩) (len:=l.length) (cap:=cap) hsl (by simp (disch:=(try simp only[sP]);omega) only[eV,e1,hve]) ?_
  refine dn ?_
  refine vS (vC (t:=false) (by (try simp (disch:=(try simp only[sP]);omega) only[eV])<;>(first | rfl | assumption)) (fun h=>by cases h) ?_)
  intro _
  refine vK (vN (vX (rM (rM ?_))))
  refine q8 (args:=#[dv,v]) ?_ (hc v (some l) U w hv0 dv xs hown hU hb) ?_
  ·simp only[lM]
   simp (disch:=(try simp only[sP]);omega) only[eV,e0,e1]
  intro v' w' hs
  refine rA (dn (vS (vT ?_)))
  exact ⟨by simp only[dF];exact hdf,v',rO (by simp (disch:=(try simp only[sP]);omega) only[eV]),hs⟩
theorem k_nstr (ht:Text P E.wNStr 2 14 #[.tmp 4] (c_wNStr E)) {te:TypeId} (hp9:P.underlying E.tPStr=some (.pointer te)) (ho:qQ P E.tStr=true) {v:Value} {o:Option (List UInt8)} (hv:kW w U.u v o) (hn:∀ n (U:Gd) w,Wr1 P E E.wI16 U [.int .i16 n] (be 2 n) w) (hc:∀ l (U:Gd) w,Wr1 P E E.wStr U [.string ⟨l.toArray⟩] (xS false l) w):Wr1 P E E.wNStr U [v] (xL false o) w:=by
 intro dv xs hown hU hb
 refine qa.enter ht (by simp) ?_
 intro a hsz hdf harg
 have e0:=harg 0 dv (by simp)
 have e1:=harg 1 (v) (by simp)
 unfold c_wNStr
 refine vX (rA (dn (vS (vX (rM ?_)))))
 cases o with
 | none =>
  simp only[kW] at hv
  subst hv
  refine gf (ad:=none) hp9 (by simp (disch:=(try simp only[sP]);omega) only[eV,e1]) ?_
  refine dn ?_
  refine vS (vC (t:=true) (by (try simp (disch:=(try simp only[sP]);omega) only[eV])<;>(first | rfl | assumption)) ?_ (fun h=>by cases h))
  intro _
  refine vX (rM ?_)
  refine q8 (args:=#[dv,.int .i16 (-1)]) ?_ (hn (-1) U w dv xs hown hU hb) ?_
  ·simp only[lM]
   simp (disch:=(try simp only[sP]);omega) only[eV,e0]
  intro v' w' hs
  refine rA (dn (vS (vT ?_)))
  exact ⟨by simp only[dF];exact hdf,v',rO (by simp (disch:=(try simp only[sP]);omega) only[eV]),hs⟩
 | some l =>
  obtain ⟨q,hve,hq,hcl⟩:=hv
  refine gf (ad:=some ⟨q,0,none⟩) hp9 (by simp (disch:=(try simp only[sP]);omega) only[eV,e1,hve]) ?_
  refine dn ?_
  refine vS (vC (t:=false) (by (try simp (disch:=(try simp only[sP]);omega) only[eV])<;>(first | rfl | assumption)) (fun h=>by cases h) ?_)
  intro _
  refine vK (vN (vX (rM (rM ?_))))
  refine qV (ad:=⟨q,0,none⟩) (by simp (disch:=(try simp only[sP]);omega) only[eV,e1,hve]) ?_
  refine rL (b:=q) (o:=0) (by simp (disch:=(try simp only[sP]);omega) only[eV]) ho hcl ?_
  refine q8 (args:=#[dv,.string ⟨l.toArray⟩]) ?_ (hc l U w dv xs hown hU hb) ?_
  ·simp only[lM]
   simp (disch:=(try simp only[sP]);omega) only[eV,e0]
  intro v' w' hs
  refine rA (dn (vS (vT ?_)))
  exact ⟨by simp only[dF];exact hdf,v',rO (by simp (disch:=(try simp only[sP]);omega) only[eV]),hs⟩
theorem k_cnstr (ht:Text P E.wCNStr 2 14 #[.tmp 4] (c_wCNStr E)) {te:TypeId} (hp9:P.underlying E.tPStr=some (.pointer te)) (ho:qQ P E.tStr=true) {v:Value} {o:Option (List UInt8)} (hv:kW w U.u v o) (hn:∀ (n:Nat) (U:Gd) w,n<4294967296->Wr1 P E E.wUvarint U [.int .u32 n] (Go.Km.uvar n) w) (hc:∀ l (U:Gd) w,Wr1 P E E.wCStr U [.string ⟨l.toArray⟩] (xS true l) w):Wr1 P E E.wCNStr U [v] (xL true o) w:=by
 intro dv xs hown hU hb
 refine qa.enter ht (by simp) ?_
 intro a hsz hdf harg
 have e0:=harg 0 dv (by simp)
 have e1:=harg 1 (v) (by simp)
 unfold c_wCNStr
 refine vX (rA (dn (vS (vX (rM ?_)))))
 cases o with
 | none =>
  simp only[kW] at hv
  subst hv
  refine gf (ad:=none) hp9 (by simp (disch:=(try simp only[sP]);omega) only[eV,e1]) ?_
  refine dn ?_
  refine vS (vC (t:=true) (by (try simp (disch:=(try simp only[sP]);omega) only[eV])<;>(first | rfl | assumption)) ?_ (fun h=>by cases h))
  intro _
  refine vX (rM ?_)
  refine q8 (args:=#[dv,.int .u32 0]) ?_ (hn 0 U w (by decide) dv xs hown hU hb) ?_
  ·simp only[lM]
   simp (disch:=(try simp only[sP]);omega) only[eV,e0]
  intro v' w' hs
  refine rA (dn (vS (vT ?_)))
  exact ⟨by simp only[dF];exact hdf,v',rO (by simp (disch:=(try simp only[sP]);omega) only[eV]),hs⟩
 | some l =>
  obtain ⟨q,hve,hq,hcl⟩:=hv
  refine gf (ad:=some ⟨q,0,none⟩) hp9 (by simp (disch:=(try simp only[sP]);omega) only[eV,e1,hve]) ?_
  refine dn ?_
  refine vS (vC (t:=false) (by (try simp (disch:=(try simp only[sP]);omega) only[eV])<;>(first | rfl | assumption)) (fun h=>by cases h) ?_)
  intro _
  refine vK (vN (vX (rM (rM ?_))))
  refine qV (ad:=⟨q,0,none⟩) (by simp (disch:=(try simp only[sP]);omega) only[eV,e1,hve]) ?_
  refine rL (b:=q) (o:=0) (by simp (disch:=(try simp only[sP]);omega) only[eV]) ho hcl ?_
  refine q8 (args:=#[dv,.string ⟨l.toArray⟩]) ?_ (hc l U w dv xs hown hU hb) ?_
  ·simp only[lM]
   simp (disch:=(try simp only[sP]);omega) only[eV,e0]
  intro v' w' hs
  refine rA (dn (vS (vT ?_)))
  exact ⟨by simp only[dF];exact hdf,v',rO (by simp (disch:=(try simp only[sP]);omega) only[eV]),hs⟩
theorem k_uuid (ht:Text P E.wUuid 2 8 #[.tmp 4] (c_wUuid E)) (hB:xd P E.tB E.tU8 1=true) {l:List UInt8} (hl:l.length=16) (hu:P.underlying E.tUuid=some (.array 16 E.tU8)) (hu8:(P.info? E.tU8).map (·.size)=some 1):Wr1 P E E.wUuid U [.agg (l.map bv).toArray] l w:=by
 intro dv xs hown hU hb
 refine qa.enter ht (by simp) ?_
 intro a hsz hdf harg
 have e0:=harg 0 dv (by simp)
 have e1:=harg 1 (.agg (l.map bv).toArray) (by simp)
 unfold c_wUuid
 refine vX ?_
 refine xJ (v:=.agg (l.map bv).toArray) (by simp (disch:=(try simp only[sP]);omega) only[eV,e1]) ?_
 refine rA (dn (vX (rM ?_)))
 refine r_sliceArr (b:=w.heap.size) (n:=16) hu hu8 (by simp (disch:=(try simp only[sP]);omega) only[eV]) ?_
 refine jE (sz:=1) (U:=U) (v:=dv) (n:=xs.length) (xs:=xs.map bv) (u:=.slice (some ⟨w.heap.size,0,none⟩) 16 16) (m:=16) (news:=l.map bv) hB (by simp (disch:=(try simp only[sP]);omega) only[eV,e0]) (by simp (disch:=(try simp only[sP]);omega) only[eV]) (hown.alloc _) (by simp;omega) ?_ (by omega) ?_
 ·refine xW (rB hB) ?_ (by simp[hl]) (xo l)
  intro j u hu
  rw[Nat.zero_add]
  exact qt w _ _ (by simpa [Value.cells] using hu)
 intro v' w' h1 h2
 rw[show xs.length+16=(xs++l).length by simp[hl],← List.map_append] at h1
 refine rA (dn (vS (vT ?_)))
 exact ⟨by simp only[dF];exact hdf,v',rO (by simp (disch:=(try simp only[sP]);omega) only[eV]),⟨h1,((Below.refl U w).alloc (o:=.cells _ E.tUuid) hU).trans h2⟩⟩
end
end Go.Km
namespace Go.Km
open Go Go.RowKit
attribute [local irreducible] vc rO_ qz qI qF
def vm (n k:Nat):Prop:=n<2 ^ k/\(k=0\/2 ^ (k-1)<=n)
def tab8:List UInt8:=[0,1,2,2,3,3,3,3,4,4,4,4,4,4,4,4,5,5,5,5,5,5,5,5,5,5,5,5,5,5,5,5,6,6,6,6,6,6,6,6,6,6,6,6,6,6,6,6,6,6,6,6,6,6,6,6,6,6,6,6,6,6,6,6,7,7,7,7,7,7,7,7,7,7,7,7,7,7,7,7,7,7,7,7,7,7,7,7,7,7,7,7,7,7,7,7,7,7,7,7,7,7,7,7,7,7,7,7,7,7,7,7,7,7,7,7,7,7,7,7,7,7,7,7,7,7,7,7,8,8,8,8,8,8,8,8,8,8,8,8,8,8,8,8,8,8,8,8,8,8,8,8,8,8,8,8,8,8,8,8,8,8,8,8,8,8,8,8,8,8,8,8,8,8,8,8,8,8,8,8,8,8,8,8,8,8,8,8,8,8,8,8,8,8,8,8,8,8,8,8,8,8,8,8,8,8,8,8,8,8,8,8,8,8,8,8,8,8,8,8,8,8,8,8,8,8,8,8,8,8,8,8,8,8,8,8,8,8,8,8,8,8,8,8,8,8,8,8,8,8,8,8,8,8,8,8]
def tabU:List UInt8:=[1,1,1,1,1,1,1,1,2,2,2,2,2,2,2,3,3,3,3,3,3,3,4,4,4,4,4,4,4,5,5,5,5,5,5,5,6,6,6,6,6,6,6,7,7,7,7,7,7,7,8,8,8,8,8,8,8,9,9,9,9,9,9,9,10,0,0,0,0,0,0,0,0,0,0,0,0,0,0,0,0,0,0,0,0,0,0,0,0,0,0,0,0,0,0,0,0,0,0,0,0,0,0,0,0,0,0,0,0,0,0,0,0,0,0,0,0,0,0,0,0,0,0,0,0,0,0,0,0,0,0,0,0,0,0,0,0,0,0,0,0,0,0,0,0,0,0,0,0,0,0,0,0,0,0,0,0,0,0,0,0,0,0,0,0,0,0,0,0,0,0,0,0,0,0,0,0,0,0,0,0,0,0,0,0,0,0,0,0,0,0,0,0,0,0,0,0,0,0,0,0,0,0,0,0,0,0,0,0,0,0,0,0,0,0,0,0,0,0,0,0,0,0,0,0,0,0,0,0,0,0,0,0,0,0,0,0,0,0,0,0,0,0,0,0,0,0,0,0,0,0,0,0,0,0,0]
theorem tab_at (T:List UInt8) (h':(List.range 256).all (fun x=>match T[x]? with | some b=>decide (x<2 ^ b.toNat)&&(decide (b.toNat=0)||decide (2 ^ (b.toNat-1)<=x))&&decide (b.toNat<=8) | none=>false)=true) (x:Nat) (hx:x<256) :
  ∃ b,(⟨T.toArray⟩:ByteArray)[x]? = some b/\vm x b.toNat/\b.toNat<=8:=by
 have h2:=List.all_eq_true.1 h' x (List.mem_range.2 hx)
 cases hb:T[x]? with
 | none=>rw[hb] at h2;cases h2
 | some b =>
  rw[hb] at h2
  simp only[Bool.and_eq_true,Bool.or_eq_true,decide_eq_true_eq] at h2
  refine ⟨b,?_,h2.1,h2.2⟩
  have hs:x<T.length:=by
   rcases Nat.lt_or_ge x T.length with h | h
   ·exact h
   ·rw[List.getElem?_eq_none h] at hb;cases hb
  rw[getElem?_pos _ _ (by simpa [ByteArray.size] using hs)]
  rw[List.getElem?_eq_getElem hs] at hb
  exact hb
theorem tab8_at (x:Nat) (hx:x<256):∃ b,(⟨tab8.toArray⟩:ByteArray)[x]? = some b/\vm x b.toNat/\b.toNat<=8:=tab_at tab8 (by kernel_rfl) x hx
theorem tabV_at (T:List UInt8) (h':(List.range 33).all (fun k=>match T[k]? with | some b=>decide (b.toNat=if k<=7 then 1 else if k<=14 then 2 else if k<=21 then 3 else if k<=28 then 4 else 5) | none=>false)=true) (k:Nat) (hk:k<=32) :
  ∃ b,(⟨T.toArray⟩:ByteArray)[k]? = some b/\b.toNat=if k<=7 then 1 else if k<=14 then 2 else if k<=21 then 3 else if k<=28 then 4 else 5:=by
 have h2:=List.all_eq_true.1 h' k (List.mem_range.2 (by omega))
 cases hb:T[k]? with
 | none=>rw[hb] at h2;cases h2
 | some b =>
  rw[hb] at h2
  refine ⟨b,?_,of_decide_eq_true h2⟩
  have hs:k<T.length:=by
   rcases Nat.lt_or_ge k T.length with h | h
   ·exact h
   ·rw[List.getElem?_eq_none h] at hb;cases hb
  rw[getElem?_pos _ _ (by simpa [ByteArray.size] using hs)]
  rw[List.getElem?_eq_getElem hs] at hb
  exact hb
theorem tabU_at (k:Nat) (hk:k<=32):∃ b,(⟨tabU.toArray⟩:ByteArray)[k]? = some b/\b.toNat=if k<=7 then 1 else if k<=14 then 2 else if k<=21 then 3 else if k<=28 then 4 else 5:=tabV_at tabU (by kernel_rfl) k hk
def uvl (n:Nat):Nat:=if n<128 then 1 else if n<16384 then 2 else if n<2097152 then 3 else if n<268435456 then 4 else 5
theorem kh {n:Nat} (hn:n<4294967296):(uvl n=1/\n<128)\/(uvl n=2/\128<=n/\n<16384)\/(uvl n=3/\16384<=n/\n<2097152)\/(uvl n=4/\2097152<=n/\n<268435456)\/(uvl n=5/\268435456<=n/\n<4294967296):=by
 unfold uvl
 by_cases h1:n<128
 ·rw[if_pos h1];omega
 rw[if_neg h1]
 by_cases h2:n<16384
 ·rw[if_pos h2];omega
 rw[if_neg h2]
 by_cases h3:n<2097152
 ·rw[if_pos h3];omega
 rw[if_neg h3]
 by_cases h4:n<268435456
 ·rw[if_pos h4];omega
 rw[if_neg h4];omega
theorem uvl_bit {n k:Nat} (h:vm n k) (hk:k<=32):(if k<=7 then 1 else if k<=14 then 2 else if k<=21 then 3 else if k<=28 then 4 else 5)=uvl n:=by
 obtain ⟨h1,h2⟩:=h
 have hp:∀ i j:Nat,i<=j->(2:Nat) ^ i<=2 ^ j:=fun i j h=>Nat.pow_le_pow_right (by decide) h
 unfold uvl
 by_cases h7:k<=7
 ·have:=hp k 7 h7
  simp[h7,show n<128 by omega]
 ·have a1:=hp 7 (k-1) (by omega)
  by_cases h14:k<=14
  ·have:=hp k 14 h14
   simp[h7,h14,show ¬ n<128 by omega,show n<16384 by omega]
  ·have a2:=hp 14 (k-1) (by omega)
   by_cases h21:k<=21
   ·have:=hp k 21 h21
    simp[h7,h14,h21,show ¬ n<128 by omega,show ¬ n<16384 by omega,show n<2097152 by omega]
   ·have a3:=hp 21 (k-1) (by omega)
    by_cases h28:k<=28
    ·have:=hp k 28 h28
     simp[h7,h14,h21,h28,show ¬ n<128 by omega,show ¬ n<16384 by omega,show ¬ n<2097152 by omega,show n<268435456 by omega]
    ·have a4:=hp 28 (k-1) (by omega)
     simp[h7,h14,h21,h28,show ¬ n<128 by omega,show ¬ n<16384 by omega,show ¬ n<2097152 by omega,show ¬ n<268435456 by omega]
theorem bit_shift {n b m L:Nat} (hb:b<=24) (hm:m=n / 2 ^ b) (hL:vm m L) (h8:L<=8) (h1:b=0\/1<=m):vm n (b+L):=by
 obtain ⟨h2,h3⟩:=hL
 have hpos:0<2 ^ b:=Nat.pow_pos (by decide)
 refine ⟨?_,?_⟩
 ·rw[Nat.pow_add,Nat.mul_comm]
  rw[hm] at h2
  exact (Nat.div_lt_iff_lt_mul hpos).1 h2
 ·rcases h3 with h3 | h3
  ·subst h3
   rw[Nat.pow_zero] at h2
   rcases h1 with h1 | h1
   ·left;omega
   ·omega
  ·by_cases hL0:L=0
   ·subst hL0
    rw[Nat.pow_zero] at h2
    rcases h1 with h1 | h1
    ·left;omega
    ·omega
   ·right
    rw[show b+L-1=(L-1)+b by omega,Nat.pow_add]
    rw[hm] at h3
    exact (Nat.le_div_iff_mul_le hpos).1 h3
def noG (l:List Oper):Bool:=l.all fun o=>o.guard.isNone
theorem vc_rg' {P:Program} {Q:Exit->Act->World->Prop} {a:Act} {w:World} {l:List Oper} (hg:noG l=true) (h:rO_ P Q l a w):vc P (rg l) Q a w :=
 vR (fun o ho=>by have:=List.all_eq_true.1 hg o ho;simpa using this) h
section
variable {P : Program} {a : Act} {w : World} {r : List Oper} {Q : Exit → Act → World → Prop}
theorem r_andN {d xt x c yt ty p af g} {n:Nat} (hx:a.eval x=.int .u32 (n:Int)) (hc:c=.const (.int .u32 127)) (hn:n<4294967296) (h:rO_ P Q r (a.put (some d) (.int .u32 ((n % 128:Nat):Int))) w):rO_ P Q (⟨some d,.binOp .and xt x c yt,ty,p,af,g⟩::r) a w:=by
 subst hc
 refine yV (v:=.int .u32 ((n % 128:Nat):Int)) hx rfl (by simp) ?_ h
 have:=u32_and_nat n 127 hn (by decide)
 rw[show n &&& 127=n % 128 from Nat.and_two_pow_sub_one_eq_mod n 7] at this
 show (pure (Value.int .u32 (bits .and .u32 (n:Int) 127)):Sem Value)=_
 rw[show (127:Int)=((127:Nat):Int) from rfl,this]
theorem r_orN {d xt x c yt ty p af g} {n : Nat} (hx : a.eval x = .int .u32 (n : Int)) (hc : c = .const (.int .u32 128)) (hn : n < 128) (h : rO_ P Q r (a.put (some d) (.int .u32 ((n + 128 : Nat) : Int))) w) : rO_ P Q (⟨some d, .binOp .or xt x c yt, ty, p, af, g⟩ :: r) a w := by
  subst hc
  refine yV (v := .int .u32 ((n + 128 : Nat) : Int)) hx rfl (by simp) ?_ h
  have := u32_or_nat n 128 (by omega) (by decide)
  rw [show n ||| 128 = n + 128 by have : ∀ n, n < 128 → n ||| 128 = n + 128 := by decide
                                  exact this n hn] at this
  show (pure (Value.int .u32 (bits .or .u32 (n : Int) 128)) : Sem Value) = _
  rw [show (128 : Int) = ((128 : Nat) : Int) from rfl, this]
theorem jR {d xt x c yt ty p af g} {n k mm:Nat} (hx:a.eval x=.int .u32 (n:Int)) (hc:c=.const (.int .u64 (k:Int))) (hm:2 ^ (min k 32)=mm) (h:rO_ P Q r (a.put (some d) (.int .u32 ((n / mm:Nat):Int))) w):rO_ P Q (⟨some d,.binOp .shr xt x c yt,ty,p,af,g⟩::r) a w:=by
 subst hc
 subst hm
 refine r_shr hx rfl (by simp) ?_
 have:(n:Int).fdiv (2 ^ (min ((k:Int).toNat) IntKind.u32.bits))=((n / 2 ^ (min k 32):Nat):Int):=by
  rw[Int.fdiv_eq_ediv_of_nonneg _ (Int.le_of_lt (Int.pow_pos (by decide)))]
  simp[IntKind.bits]
 rw[this]
 exact h
end
section
variable {P : Program} {E : Env} {w : World} {U : Nat}
set_option maxRecDepth 20000 in
theorem k_len32 (ht:Text P E.len32 1 19 #[.tmp 2] (vF E)) (i8:qs P E.tU8=some .u8) (iu:qs P E.tW=some .u32) (ii:qs P E.tI=some .i64) (hs9:P.underlying E.tStr=some .string) {n:Nat} (hn:n<4294967296) :
  qa P E.len32 #[.int .u32 n] w fun v w'=>(∃ k:Nat,v=.int .i64 k/\k<=32/\vm n k)/\w'=w:=by
 refine qa.enter ht (by simp) ?_
 intro a hsz hdf harg
 have e0:=harg 0 (.int .u32 n) (by simp)
 unfold vF
 refine vX (rA (dn ?_))
 have t2:∀ (A:Act) (b m:Nat),A.tmps.size=19->A.defers=[]->A.eval (.tmp 0)=.int .u32 (m:Int)->A.eval (.tmp 2)=.int .i64 (b:Int)->b<=24->m=n / 2 ^ b->m<256->(b=0\/1<=m) →
   vc P (sq [(rg [(oQ 13 (.move (.tmp 2)) E.tI),(oQ 14 (.move (.tmp 0)) E.tW),(oQ 15 (.convert E.tW E.tU8 (.tmp 14)) E.tU8),(oQ 16 (.index E.tStr (.const (.string ⟨tab8.toArray⟩)) (.tmp 15)) E.tU8),
    (oQ 17 (.convert E.tU8 E.tI (.tmp 16)) E.tI),(oQ 18 (.binOp .add E.tI (.tmp 13) (.tmp 17) E.tI) E.tI),(oQ 2 (.assign (.tmp 18)) E.tI)]),.ret]) (Out P #[.tmp 2] fun v w'=>(∃ k:Nat,v=.int .i64 k/\k<=32/\vm n k)/\w'=w) A w:=by
  intro A b m hs hd h0 h2 hb hm h256 hb1
  obtain ⟨L,hL,hbl,hL8⟩:=tab8_at m h256
  refine vX (rM (rM ?_))
  refine qM (by assumption) (by assumption) (by (try simp (disch:=(try simp only[sP]);omega) only[eV,h0])<;>(first | rfl | assumption)) ?_
  refine yu (k:=.u8) (j:=m) (b:=L) (s:=⟨tab8.toArray⟩) hs9 (xi _ _) ?_ hL ?_
  ·simp (disch:=(try simp only[sP]);omega) only[eV]
   rw[kX]
   congr 1
   omega
  refine qM (by assumption) (by assumption) (by (try simp (disch:=(try simp only[sP]);omega) only[eV])<;>(first | rfl | assumption)) ?_
  refine xP (k:=.i64) (m:=b) (n:=(L.toNat:Int)) (by simp (disch:=(try simp only[sP]);omega) only[eV,h2]) ?_ ?_
  ·simp (disch:=(try simp only[sP]);omega) only[eV]
   rw[wrap_i64 (by omega) (by omega)]
  refine rA (dn (vS (vT ?_)))
  refine ⟨by simp only[dF];exact hd,.int .i64 ((b+L.toNat:Nat):Int),rO ?_,⟨b+L.toNat,rfl,by omega,bit_shift hb hm hbl hL8 hb1⟩,rfl⟩
  simp (disch:=(try simp only[sP]);omega) only[eV]
  rw[wrap_i64 (by omega) (by omega)]
  simp
 have t1:∀ (A:Act) (b m:Nat),A.tmps.size=19->A.defers=[]->A.eval (.tmp 0)=.int .u32 (m:Int)->A.eval (.tmp 2)=.int .i64 (b:Int)->(b=0\/b=16)->m=n / 2 ^ b->m<65536->(b=0\/1<=m) →
   vc P (sq (sq [(rg [(oQ 7 (.move (.tmp 0)) E.tW),(oQ 8 (.binOp .geq E.tW (.tmp 7) (.const (.int .u32 256)) E.tW) E.tO)]),
    (.cond (.tmp 8) (sq [(rg [(oQ 9 (.move (.tmp 0)) E.tW),(oQ 10 (.binOp .shr E.tW (.tmp 9) (.const (.int .u64 8)) E.tUint) E.tW),(oQ 0 (.assign (.tmp 10)) E.tW)]),
     (rg [(oQ 11 (.move (.tmp 2)) E.tI),(oQ 12 (.binOp .add E.tI (.tmp 11) (.const (.int .i64 8)) E.tI) E.tI),(oQ 2 (.assign (.tmp 12)) E.tI)])]) .skip)] ::
    [(rg [(oQ 13 (.move (.tmp 2)) E.tI),(oQ 14 (.move (.tmp 0)) E.tW),(oQ 15 (.convert E.tW E.tU8 (.tmp 14)) E.tU8),(oQ 16 (.index E.tStr (.const (.string ⟨tab8.toArray⟩)) (.tmp 15)) E.tU8),
    (oQ 17 (.convert E.tU8 E.tI (.tmp 16)) E.tI),(oQ 18 (.binOp .add E.tI (.tmp 13) (.tmp 17) E.tI) E.tI),(oQ 2 (.assign (.tmp 18)) E.tI)]),.ret])) (Out P #[.tmp 2] fun v w'=>(∃ k:Nat,v=.int .i64 k/\k<=32/\vm n k)/\w'=w) A w:=by
  intro A b m hs hd h0 h2 hb hm h16 hb1
  refine vS (vX (rM ?_))
  refine y6 (by (try simp (disch:=(try simp only[sP]);omega) only[eV,h0])<;>(first | rfl | assumption)) (by (try simp (disch:=(try simp only[sP]);omega) only[eV,h0])<;>(first | rfl | assumption)) ?_
  refine dn ?_
  refine vS (vC (t:=decide ((m:Int) ≥ 256)) (by (try simp (disch:=(try simp only[sP]);omega) only[eV])<;>(first | rfl | assumption)) ?_ ?_)
  ·intro hge
   simp only[decide_eq_true_eq] at hge
   refine vX (rM ?_)
   refine jR (n:=m) (k:=8) (mm:=256) (by simp (disch:=(try simp only[sP]);omega) only[eV,h0]) rfl (by decide) ?_
   refine rA (dn (vX (rM ?_)))
   refine xP (by (try simp (disch:=(try simp only[sP]);omega) only[eV,h2])<;>(first | rfl | assumption)) (by (try simp (disch:=(try simp only[sP]);omega) only[eV,h2])<;>(first | rfl | assumption)) ?_
   refine rA (dn (vN (vN ?_)))
   refine t2 _ (b+8) (m / 256) (by simp only[zP];exact hs) (by simp only[dF];exact hd) (by (try simp (disch:=(try simp only[sP]);omega) only[eV])<;>(first | rfl | assumption)) ?_ (by omega) ?_ (by omega) (by omega)
   ·simp (disch:=(try simp only[sP]);omega) only[eV]
    rw[wrap_i64 (by omega) (by omega)]
    rfl
   ·rw[hm,Nat.pow_add,Nat.div_div_eq_div_mul]
  ·intro hlt
   simp only[decide_eq_false_iff_not] at hlt
   refine vK (vN ?_)
   exact t2 _ b m (by simp only[zP];exact hs) (by simp only[dF];exact hd) (by simp (disch:=(try simp only[sP]);omega) only[eV,h0]) (by simp (disch:=(try simp only[sP]);omega) only[eV,h2]) (by omega) hm (by omega) hb1
 refine vS (vX (rM ?_))
 refine y6 (by (try simp (disch:=(try simp only[sP]);omega) only[eV,e0])<;>(first | rfl | assumption)) (by (try simp (disch:=(try simp only[sP]);omega) only[eV,e0])<;>(first | rfl | assumption)) ?_
 refine dn ?_
 refine vS (vC (t:=decide ((n:Int) ≥ 65536)) (by (try simp (disch:=(try simp only[sP]);omega) only[eV])<;>(first | rfl | assumption)) ?_ ?_)
 ·intro hge
  simp only[decide_eq_true_eq] at hge
  refine vX (rM ?_)
  refine jR (n:=n) (k:=16) (mm:=65536) (by simp (disch:=(try simp only[sP]);omega) only[eV,e0]) rfl (by decide) ?_
  refine rA (dn (vX (rA (dn (vN (vN ?_))))))
  exact t1 _ 16 (n / 65536) (by simp only[zP];exact hsz) (by simp only[dF];exact hdf) (by (try simp (disch:=(try simp only[sP]);omega) only[eV])<;>(first | rfl | assumption)) (by (try simp (disch:=(try simp only[sP]);omega) only[eV])<;>(first | rfl | assumption)) (by omega) rfl (by omega) (by omega)
 ·intro hlt
  simp only[decide_eq_false_iff_not] at hlt
  refine vK (vN ?_)
  exact t1 _ 0 n (by simp only[zP];exact hsz) (by simp only[dF];exact hdf) (by simp (disch:=(try simp only[sP]);omega) only[eV,e0]) (by (try simp (disch:=(try simp only[sP]);omega) only[eV])<;>(first | rfl | assumption)) (by omega) (by simp) (by omega) (by omega)
set_option maxRecDepth 20000 in
theorem k_uvLen (ht:Text P E.uvLen 1 8 #[.tmp 2] (gw E)) (hl:Text P E.len32 1 19 #[.tmp 2] (vF E)) (i8:qs P E.tU8=some .u8) (iu:qs P E.tW=some .u32) (ii:qs P E.tI=some .i64) (hs9:P.underlying E.tStr=some .string) {n:Nat} (hn:n<4294967296) :
  qa P E.uvLen #[.int .u32 n] w fun v w'=>v=.int .i64 (uvl n:Nat)/\w'=w:=by
 refine qa.enter ht (by simp) ?_
 intro a hsz hdf harg
 have e0:=harg 0 (.int .u32 n) (by simp)
 unfold gw
 refine vX (rA (dn ?_))
 refine vS (vc_rg' rfl ?_)
 refine rM ?_
 refine q8 (args:=#[.int .u32 n]) ?_ (k_len32 hl i8 iu ii hs9 hn) ?_
 ·simp only[lM]
  simp (disch:=(try simp only[sP]);omega) only[eV,e0]
 rintro v w' ⟨⟨k,rfl,hk,hbl⟩,rfl⟩
 obtain ⟨b,hb,hbv⟩:=tabU_at k hk
 rw[uvl_bit hbl hk] at hbv
 refine qM (by assumption) (by assumption) (by (try simp (disch:=(try simp only[sP]);omega) only[eV])<;>(first | rfl | assumption)) ?_
 refine yu (k:=.u8) (j:=k) (b:=b) (s:=⟨tabU.toArray⟩) hs9 (xi _ _) ?_ hb ?_
 ·simp (disch:=(try simp only[sP]);omega) only[eV]
  rw[kX]
  congr 1
  omega
 refine qM (by assumption) (by assumption) (by (try simp (disch:=(try simp only[sP]);omega) only[eV])<;>(first | rfl | assumption)) ?_
 refine rA (dn (vS (vT ?_)))
 refine ⟨by simp only[dF];exact hdf,.int .i64 (uvl n:Nat),rO ?_,rfl,rfl⟩
 have hu5:uvl n<=5:=by have:=kh hn;omega
 simp (disch:=(try simp only[sP]);omega) only[eV]
 rw[hbv,wrap_i64 (by omega) (by omega)]
theorem jx {f n:Nat} (h:n<128):uvF (f+1) n=[UInt8.ofNat n]:=by simp[uvF,h]
theorem jg {f n:Nat} (h:128<=n):uvF (f+1) n=UInt8.ofNat (n % 128+128)::uvF f (n / 128):=by
 simp[uvF,Nat.not_lt.2 h]
theorem o8_nat (n:Nat):o8 (IntKind.u8.wrap (n:Int))=UInt8.ofNat n:=by
 rw[kX]
 unfold o8
 apply UInt8.toNat_inj.1
 rw[UInt8.toNat_ofNat',UInt8.toNat_ofNat']
 omega
theorem uvar_1 {n:Nat} (h0:0<=n) (h1:n<128):Go.Km.uvar n=[IntKind.u8.wrap ((n:Nat):Int)].map o8:=by
 simp only[List.map_cons,List.map_nil,o8_nat]
 unfold Go.Km.uvar
 rw[jx (by omega)]
theorem uvar_2 {n:Nat} (h0:128<=n) (h1:n<16384):Go.Km.uvar n=[IntKind.u8.wrap ((n % 128+128:Nat):Int),IntKind.u8.wrap ((n / 128:Nat):Int)].map o8:=by
 simp only[List.map_cons,List.map_nil,o8_nat]
 unfold Go.Km.uvar
 rw[jg (by omega)]
 rw[jx (by omega)]
theorem uvar_3 {n:Nat} (h0:16384<=n) (h1:n<2097152):Go.Km.uvar n=[IntKind.u8.wrap ((n % 128+128:Nat):Int),IntKind.u8.wrap ((n / 128 % 128+128:Nat):Int),IntKind.u8.wrap ((n / 16384:Nat):Int)].map o8:=by
 simp only[List.map_cons,List.map_nil,o8_nat]
 unfold Go.Km.uvar
 rw[jg (by omega)]
 rw[jg (by omega)]
 rw[jx (by omega)]
 simp only[Nat.div_div_eq_div_mul]
theorem uvar_4 {n:Nat} (h0:2097152<=n) (h1:n<268435456):Go.Km.uvar n=[IntKind.u8.wrap ((n % 128+128:Nat):Int),IntKind.u8.wrap ((n / 128 % 128+128:Nat):Int),IntKind.u8.wrap ((n / 16384 % 128+128:Nat):Int),IntKind.u8.wrap ((n / 2097152:Nat):Int)].map o8:=by
 simp only[List.map_cons,List.map_nil,o8_nat]
 unfold Go.Km.uvar
 rw[jg (by omega)]
 rw[jg (by omega)]
 rw[jg (by omega)]
 rw[jx (by omega)]
 simp only[Nat.div_div_eq_div_mul]
theorem uvar_5 {n:Nat} (h0:268435456<=n) (h1:n<4294967296):Go.Km.uvar n=[IntKind.u8.wrap ((n % 128+128:Nat):Int),IntKind.u8.wrap ((n / 128 % 128+128:Nat):Int),IntKind.u8.wrap ((n / 16384 % 128+128:Nat):Int),IntKind.u8.wrap ((n / 2097152 % 128+128:Nat):Int),IntKind.u8.wrap ((n / 268435456:Nat):Int)].map o8:=by
 simp only[List.map_cons,List.map_nil,o8_nat]
 unfold Go.Km.uvar
 rw[jg (by omega)]
 rw[jg (by omega)]
 rw[jg (by omega)]
 rw[jg (by omega)]
 rw[jx (by omega)]
 simp only[Nat.div_div_eq_div_mul]
def Keep (w:World) (v v':Value) (w':World):Prop:=(∀ k,k<w.heap.size->v.ownBlock≠some k->w'.heap[k]? = w.heap[k]?)/\∀ g,v'.ownBlock=some g->v.ownBlock=some g\/w.heap.size<=g
def Wr1K (P:Program) (E:Env) (F:FuncId) (U:Nat) (args:List Value) (bs:List UInt8) (w:World):Prop :=
 ∀ dv (xs:List UInt8),w.ownsRow U E.tU8 1 dv xs.length (xs.map bv)->U<=w.heap.size->xs.length+bs.length<=big →
  qa P F (#[dv]++args.toArray) w fun v' w'=>w'.ownsRow U E.tU8 1 v' (xs++bs).length ((xs++bs).map bv)/\Below U w w'/\Keep w dv v' w'
theorem _root_.Go.World.ownsG.keep {w w':World} {U:Gd} {e s n:Nat} {v v':Value} {xs:List Value} (h:w.ownsG U e s v n xs) (hk:Keep w v v' w'):KeptG w' U.g e:=by
 intro b o hb
 obtain ⟨h1,h2⟩:=h.kept b o hb
 refine ⟨?_,h2⟩
 rw[hk.1 b (Array.getElem?_eq_some_iff.1 h1).1 (fun e1=>?_)]
 ·exact h1
 ·rcases h.own.2 with ⟨rfl,_⟩ | ⟨g,cap,cur,rfl,_,h3,_⟩
  ·cases e1
  ·simp only[Value.ownBlock,Option.some.injEq] at e1
   subst e1
   rw[h1] at h3
   exact h2 cur (Option.some.inj h3)
theorem Wr1K.one {P:Program} {E:Env} {F:FuncId} {U:Gd} {args:List Value} {bs:List UInt8} {w:World} (h:Wr1K P E F U.u args bs w):Wr1 P E F U args bs w :=
 fun dv xs h1 h2 h3=>(h dv xs h1.own h2 h3).mono fun _ _ ⟨a,b,c⟩=>⟨⟨a,h1.keep c⟩,b⟩
theorem r_appendK {P:Program} {a:Act} {w:World} {r:List Oper} {Q:Exit->Act->World->Prop} {d s x t tx ty p af g e sz U v n xs u m news} (hB:xd P t e sz=true) (hs:a.eval s=v) (hx:a.eval x=u) (hown:w.ownsRow U e sz v n xs) (hU:U<=w.heap.size) (hsrc:Src P sz tx u m news w) (hb:n+m<=big)
  (h:∀ v' w',w'.ownsRow U e sz v' (n+m) (xs++news)->Below U w w'->Keep w v v' w'->rO_ P Q r (a.put (some d) v') w') :
  rO_ P Q (⟨some d,.call { callee:=.builtin .append,args:=#[s,x],argTypes:=#[t,tx] },ty,p,af,g⟩::r) a w:=by
 refine st ?_
 obtain ⟨v',w',hr,h1,h2,h3⟩:=jr w U t tx ty e sz hB v n xs hown u m news hsrc hb hU
 subst hs;subst hx
 simp only[Oper.wp,execOp,resolve,invoke,builtin,Sem.run_bind,Sem.run_pure,Result.andThen_ok,List.map_toArray,List.map_cons,List.map_nil,hr,Oper.upon_value]
 exact h v' w' h1 (jL hown h2 hU) ⟨fun k hk hne=>h2.block k hk (fun e=>hne e.symm),h3⟩
theorem y5 {P:Program} {a:Act} {w:World} {r:List Oper} {Q:Exit->Act->World->Prop} {d d2 s:Nat} {t n ps ty p af g ty2 p2 af2 g2 e U v} {xs:List UInt8} {zs:List Int} (hB:xd P t e 1=true) (hp:(ps.map fun (x:Nat × Operand)=>(x.1,a.eval x.2)).toList=((zs.map fun z=>Value.int .u8 z).zipIdx 0).map fun x=>(x.2,x.1)) (h8:∀ z ∈ zs,0<=z/\z<256) (hn:zs.length=n)
  (hlim:n<=1000) (hn0:0<n) (hs:a.eval (.tmp s)=v) (hsd:d≠s) (hd:d<a.tmps.size) (hown:w.ownsRow U e 1 v xs.length (xs.map bv)) (hU:U<=w.heap.size) (hb:xs.length+n<=big)
  (h:∀ v' w',w'.ownsRow U e 1 v' (xs++zs.map o8).length ((xs++zs.map o8).map bv)->Below U w w'/\Keep w v v' w'->rO_ P Q r ((a.put (some d) (.slice (some ⟨w.heap.size,0,none⟩) n n)).put (some d2) v') w') :
  rO_ P Q (⟨some d,.buildSlice t n ps,ty,p,af,g⟩::⟨some d2,.call { callee:=.builtin .append,args:=#[.tmp s,.tmp d],argTypes:=#[t,t] },ty2,p2,af2,g2⟩::r) a w:=by
 refine xB (s:=1) (vs:=zs.map fun z=>.int .u8 z) hB hp (by simpa using hn) (by intro v hv;obtain ⟨z,_,rfl⟩:=List.mem_map.1 hv;rfl) (by omega) hn0 ?_
 have hcs:((zs.map fun z=>Value.int .u8 z).flatMap fun v=>v.cells.toList)=(zs.map o8).map bv:=by
  rw[map_o8 h8,flat_u8]
 rw[hcs]
 refine r_appendK (sz:=1) (m:=n) (U:=U) (v:=v) (n:=xs.length) (xs:=xs.map bv) (news:=(zs.map o8).map bv) hB (by rw[qi _ _ _ _ hsd];exact hs) (qB _ _ _ hd) (hown.alloc _) (by simp;omega) ?_ hb ?_
 ·refine xW (rB hB) ?_ (by simp[hn]) (xo _)
  intro j u hu
  rw[Nat.zero_add]
  exact qt w _ e (by simpa using hu)
 ·intro v' w' h1 h2 h3
  refine h v' w' (by simpa [hn] using h1) ⟨((Below.refl U w).alloc (o:=.cells _ e) hU).trans h2,fun k hk hne=>?_,fun g hg=>?_⟩
  ·rw[h3.1 k (by simp;omega) hne]
   exact Below.heap_alloc w _ k hk
  ·rcases h3.2 g hg with h | h
   ·exact .inl h
   ·exact .inr (by simp at h;omega)
theorem k_uvarK (ht:Text P E.wUvarint 2 93 #[.tmp 4] (yz E)) (htl:Text P E.uvLen 1 8 #[.tmp 2] (gw E)) (hl:Text P E.len32 1 19 #[.tmp 2] (vF E)) (hB:xd P E.tB E.tU8 1=true) (i8:qs P E.tU8=some .u8) (iu:qs P E.tW=some .u32) (ii:qs P E.tI=some .i64) (hs9:P.underlying E.tStr=some .string)
  {n:Nat} (hn:n<4294967296):Wr1K P E E.wUvarint U [.int .u32 n] (Go.Km.uvar n) w:=by
 intro dv xs hown hU hb
 refine qa.enter ht (by simp) ?_
 intro a hsz hdf harg
 have e0:=harg 0 dv (by simp)
 have e1:=harg 1 (.int .u32 n) (by simp)
 unfold yz
 refine vX (rA (dn (vS (vX (rM ?_)))))
 refine q8 (args:=#[.int .u32 n]) ?_ (k_uvLen htl hl i8 iu ii hs9 hn) ?_
 ·simp only[lM]
  simp (disch:=(try simp only[sP]);omega) only[eV,e1]
 rintro v w' ⟨rfl,rfl⟩
 refine dn ?_
 generalize hA:((a.put (some 4) _).put (some 5) _).put (some 6) (.int .i64 ((uvl n:Nat):Int))=A
 have f0:A.eval (.tmp 0)=dv:=by rw[← hA];simp (disch:=(try simp only[sP]);omega) only[eV,e0]
 have f1:A.eval (.tmp 1)=.int .u32 n:=by rw[← hA];simp (disch:=(try simp only[sP]);omega) only[eV,e1]
 have f6:A.eval (.tmp 6)=.int .i64 ((uvl n:Nat):Int):=by rw[← hA];simp (disch:=(try simp only[sP]);omega) only[eV]
 have fs:A.tmps.size=93:=by rw[← hA];simp only[zP];exact hsz
 have fd:A.defers=[]:=by rw[← hA];simp only[dF];exact hdf
 clear hA
 refine vS (qh ?_)
 refine vX ?_
 refine xA (k:=.i64) (m:=((uvl n:Nat):Int)) (n:=5) (by simp (disch:=(try simp only[sP]);omega) only[eV,f6]) rfl ?_
 refine rA (dn ?_)
 refine vS (vC (t:=((uvl n:Nat):Int)==5) (by (try simp (disch:=(try simp only[sP]);omega) only[eV])<;>(first | rfl | assumption)) ?_ ?_)
 ·intro hk
  have hk':uvl n=5:=by simp only[beq_iff_eq] at hk;omega
  have hr:268435456<=n/\n<4294967296:=by have:=kh hn;omega
  refine vX (rM (rM ?_))
  refine r_andN (by (try simp (disch:=(try simp only[sP]);omega) only[eV,f1])<;>(first | rfl | assumption)) rfl (by omega) ?_
  refine r_orN (by (try simp (disch:=(try simp only[sP]);omega) only[eV])<;>(first | rfl | assumption)) rfl (by omega) ?_
  refine qM (by assumption) (by assumption) (by (try simp (disch:=(try simp only[sP]);omega) only[eV])<;>(first | rfl | assumption)) ?_
  refine rM ?_
  refine jR (n:=n) (k:=7) (mm:=128) (by simp (disch:=(try simp only[sP]);omega) only[eV,f1]) rfl (by decide) ?_
  refine r_andN (by (try simp (disch:=(try simp only[sP]);omega) only[eV])<;>(first | rfl | assumption)) rfl (by omega) ?_
  refine r_orN (by (try simp (disch:=(try simp only[sP]);omega) only[eV])<;>(first | rfl | assumption)) rfl (by omega) ?_
  refine qM (by assumption) (by assumption) (by (try simp (disch:=(try simp only[sP]);omega) only[eV])<;>(first | rfl | assumption)) ?_
  refine rM ?_
  refine jR (n:=n) (k:=14) (mm:=16384) (by simp (disch:=(try simp only[sP]);omega) only[eV,f1]) rfl (by decide) ?_
  refine r_andN (by (try simp (disch:=(try simp only[sP]);omega) only[eV])<;>(first | rfl | assumption)) rfl (by omega) ?_
  refine r_orN (by (try simp (disch:=(try simp only[sP]);omega) only[eV])<;>(first | rfl | assumption)) rfl (by omega) ?_
  refine qM (by assumption) (by assumption) (by (try simp (disch:=(try simp only[sP]);omega) only[eV])<;>(first | rfl | assumption)) ?_
  refine rM ?_
  refine jR (n:=n) (k:=21) (mm:=2097152) (by simp (disch:=(try simp only[sP]);omega) only[eV,f1]) rfl (by decide) ?_
  refine r_andN (by (try simp (disch:=(try simp only[sP]);omega) only[eV])<;>(first | rfl | assumption)) rfl (by omega) ?_
  refine r_orN (by (try simp (disch:=(try simp only[sP]);omega) only[eV])<;>(first | rfl | assumption)) rfl (by omega) ?_
  refine qM (by assumption) (by assumption) (by (try simp (disch:=(try simp only[sP]);omega) only[eV])<;>(first | rfl | assumption)) ?_
  refine rM ?_
  refine jR (n:=n) (k:=28) (mm:=268435456) (by simp (disch:=(try simp only[sP]);omega) only[eV,f1]) rfl (by decide) ?_
  refine qM (by assumption) (by assumption) (by (try simp (disch:=(try simp only[sP]);omega) only[eV])<;>(first | rfl | assumption)) ?_
  rw[uvar_5 hr.1 hr.2] at hb ⊢
  refine y5 (zs:=[IntKind.u8.wrap ((n % 128+128:Nat):Int),IntKind.u8.wrap ((n / 128 % 128+128:Nat):Int),IntKind.u8.wrap ((n / 16384 % 128+128:Nat):Int),IntKind.u8.wrap ((n / 2097152 % 128+128:Nat):Int),IntKind.u8.wrap ((n / 268435456:Nat):Int)]) hB ?_ (by intro z hz;simp only[List.mem_cons,List.not_mem_nil,or_false] at hz;rcases hz with rfl | rfl | rfl | rfl | rfl<;>exact xY _) rfl (by omega) (by omega) (by simp (disch:=(try simp only[sP]);omega) only[eV,f0]) (by omega) (by simp only[zP];omega) hown hU (by simpa using hb) ?_
  ·simp only[lM]
   simp (disch:=(try simp only[sP]);omega) only[eV]
   rfl
  intro v' w' h1 h2
  refine rA (dn (vS (vT ?_)))
  exact ⟨by simp only[dF];exact fd,v',rO (by simp (disch:=(try simp only[sP]);omega) only[eV]),⟨h1,h2⟩⟩
 ·intro hk5
  generalize hA:((A.put (some _) _).put (some _) _)=B
  have g0:B.eval (.tmp 0)=dv:=by rw[← hA];simp (disch:=(try simp only[sP]);omega) only[eV,f0]
  have g1:B.eval (.tmp 1)=.int .u32 n:=by rw[← hA];simp (disch:=(try simp only[sP]);omega) only[eV,f1]
  have g6:B.eval (.tmp 6)=.int .i64 ((uvl n:Nat):Int):=by rw[← hA];simp (disch:=(try simp only[sP]);omega) only[eV,f6]
  have gs:B.tmps.size=93:=by rw[← hA];simp only[zP];exact fs
  have gd:B.defers=[]:=by rw[← hA];simp only[dF];exact fd
  clear hA f0 f1 f6 fs fd
  revert B
  intro A f0 f1 f6 fs fd
  refine vX ?_
  refine xA (k:=.i64) (m:=((uvl n:Nat):Int)) (n:=4) (by simp (disch:=(try simp only[sP]);omega) only[eV,f6]) rfl ?_
  refine rA (dn ?_)
  refine vS (vC (t:=((uvl n:Nat):Int)==4) (by (try simp (disch:=(try simp only[sP]);omega) only[eV])<;>(first | rfl | assumption)) ?_ ?_)
  ·intro hk
   have hk':uvl n=4:=by simp only[beq_iff_eq] at hk;omega
   have hr:2097152<=n/\n<268435456:=by have:=kh hn;omega
   refine vX (rM (rM ?_))
   refine r_andN (by (try simp (disch:=(try simp only[sP]);omega) only[eV,f1])<;>(first | rfl | assumption)) rfl (by omega) ?_
   refine r_orN (by (try simp (disch:=(try simp only[sP]);omega) only[eV])<;>(first | rfl | assumption)) rfl (by omega) ?_
   refine qM (by assumption) (by assumption) (by (try simp (disch:=(try simp only[sP]);omega) only[eV])<;>(first | rfl | assumption)) ?_
   refine rM ?_
   refine jR (n:=n) (k:=7) (mm:=128) (by simp (disch:=(try simp only[sP]);omega) only[eV,f1]) rfl (by decide) ?_
   refine r_andN (by (try simp (disch:=(try simp only[sP]);omega) only[eV])<;>(first | rfl | assumption)) rfl (by omega) ?_
   refine r_orN (by (try simp (disch:=(try simp only[sP]);omega) only[eV])<;>(first | rfl | assumption)) rfl (by omega) ?_
   refine qM (by assumption) (by assumption) (by (try simp (disch:=(try simp only[sP]);omega) only[eV])<;>(first | rfl | assumption)) ?_
   refine rM ?_
   refine jR (n:=n) (k:=14) (mm:=16384) (by simp (disch:=(try simp only[sP]);omega) only[eV,f1]) rfl (by decide) ?_
   refine r_andN (by (try simp (disch:=(try simp only[sP]);omega) only[eV])<;>(first | rfl | assumption)) rfl (by omega) ?_
   refine r_orN (by (try simp (disch:=(try simp only[sP]);omega) only[eV])<;>(first | rfl | assumption)) rfl (by omega) ?_
   refine qM (by assumption) (by assumption) (by (try simp (disch:=(try simp only[sP]);omega) only[eV])<;>(first | rfl | assumption)) ?_
   refine rM ?_
   refine jR (n:=n) (k:=21) (mm:=2097152) (by simp (disch:=(try simp only[sP]);omega) only[eV,f1]) rfl (by decide) ?_
   refine qM (by assumption) (by assumption) (by (try simp (disch:=(try simp only[sP]);omega) only[eV])<;>(first | rfl | assumption)) ?_
   rw[uvar_4 hr.1 hr.2] at hb ⊢
   refine y5 (zs:=[IntKind.u8.wrap ((n % 128+128:Nat):Int),IntKind.u8.wrap ((n / 128 % 128+128:Nat):Int),IntKind.u8.wrap ((n / 16384 % 128+128:Nat):Int),IntKind.u8.wrap ((n / 2097152:Nat):Int)]) hB ?_ (by intro z hz;simp only[List.mem_cons,List.not_mem_nil,or_false] at hz;rcases hz with rfl | rfl | rfl | rfl<;>exact xY _) rfl (by omega) (by omega) (by simp (disch:=(try simp only[sP]);omega) only[eV,f0]) (by omega) (by simp only[zP];omega) hown hU (by simpa using hb) ?_
   ·simp only[lM]
    simp (disch:=(try simp only[sP]);omega) only[eV]
    rfl
   intro v' w' h1 h2
   refine rA (dn (vS (vT ?_)))
   exact ⟨by simp only[dF];exact fd,v',rO (by simp (disch:=(try simp only[sP]);omega) only[eV]),⟨h1,h2⟩⟩
  ·intro hk4
   generalize hA:((A.put (some _) _).put (some _) _)=B
   have g0:B.eval (.tmp 0)=dv:=by rw[← hA];simp (disch:=(try simp only[sP]);omega) only[eV,f0]
   have g1:B.eval (.tmp 1)=.int .u32 n:=by rw[← hA];simp (disch:=(try simp only[sP]);omega) only[eV,f1]
   have g6:B.eval (.tmp 6)=.int .i64 ((uvl n:Nat):Int):=by rw[← hA];simp (disch:=(try simp only[sP]);omega) only[eV,f6]
   have gs:B.tmps.size=93:=by rw[← hA];simp only[zP];exact fs
   have gd:B.defers=[]:=by rw[← hA];simp only[dF];exact fd
   clear hA f0 f1 f6 fs fd
   revert B
   intro A f0 f1 f6 fs fd
   refine vX ?_
   refine xA (k:=.i64) (m:=((uvl n:Nat):Int)) (n:=3) (by simp (disch:=(try simp only[sP]);omega) only[eV,f6]) rfl ?_
   refine rA (dn ?_)
   refine vS (vC (t:=((uvl n:Nat):Int)==3) (by (try simp (disch:=(try simp only[sP]);omega) only[eV])<;>(first | rfl | assumption)) ?_ ?_)
   ·intro hk
    have hk':uvl n=3:=by simp only[beq_iff_eq] at hk;omega
    have hr:16384<=n/\n<2097152:=by have:=kh hn;omega
    refine vX (rM (rM ?_))
    refine r_andN (by (try simp (disch:=(try simp only[sP]);omega) only[eV,f1])<;>(first | rfl | assumption)) rfl (by omega) ?_
    refine r_orN (by (try simp (disch:=(try simp only[sP]);omega) only[eV])<;>(first | rfl | assumption)) rfl (by omega) ?_
    refine qM (by assumption) (by assumption) (by (try simp (disch:=(try simp only[sP]);omega) only[eV])<;>(first | rfl | assumption)) ?_
    refine rM ?_
    refine jR (n:=n) (k:=7) (mm:=128) (by simp (disch:=(try simp only[sP]);omega) only[eV,f1]) rfl (by decide) ?_
    refine r_andN (by (try simp (disch:=(try simp only[sP]);omega) only[eV])<;>(first | rfl | assumption)) rfl (by omega) ?_
    refine r_orN (by (try simp (disch:=(try simp only[sP]);omega) only[eV])<;>(first | rfl | assumption)) rfl (by omega) ?_
    refine qM (by assumption) (by assumption) (by (try simp (disch:=(try simp only[sP]);omega) only[eV])<;>(first | rfl | assumption)) ?_
    refine rM ?_
    refine jR (n:=n) (k:=14) (mm:=16384) (by simp (disch:=(try simp only[sP]);omega) only[eV,f1]) rfl (by decide) ?_
    refine qM (by assumption) (by assumption) (by (try simp (disch:=(try simp only[sP]);omega) only[eV])<;>(first | rfl | assumption)) ?_
    rw[uvar_3 hr.1 hr.2] at hb ⊢
    refine y5 (zs:=[IntKind.u8.wrap ((n % 128+128:Nat):Int),IntKind.u8.wrap ((n / 128 % 128+128:Nat):Int),IntKind.u8.wrap ((n / 16384:Nat):Int)]) hB ?_ (by intro z hz;simp only[List.mem_cons,List.not_mem_nil,or_false] at hz;rcases hz with rfl | rfl | rfl<;>exact xY _) rfl (by omega) (by omega) (by simp (disch:=(try simp only[sP]);omega) only[eV,f0]) (by omega) (by simp only[zP];omega) hown hU (by simpa using hb) ?_
    ·simp only[lM]
     simp (disch:=(try simp only[sP]);omega) only[eV]
     rfl
    intro v' w' h1 h2
    refine rA (dn (vS (vT ?_)))
    exact ⟨by simp only[dF];exact fd,v',rO (by simp (disch:=(try simp only[sP]);omega) only[eV]),⟨h1,h2⟩⟩
   ·intro hk3
    generalize hA:((A.put (some _) _).put (some _) _)=B
    have g0:B.eval (.tmp 0)=dv:=by rw[← hA];simp (disch:=(try simp only[sP]);omega) only[eV,f0]
    have g1:B.eval (.tmp 1)=.int .u32 n:=by rw[← hA];simp (disch:=(try simp only[sP]);omega) only[eV,f1]
    have g6:B.eval (.tmp 6)=.int .i64 ((uvl n:Nat):Int):=by rw[← hA];simp (disch:=(try simp only[sP]);omega) only[eV,f6]
    have gs:B.tmps.size=93:=by rw[← hA];simp only[zP];exact fs
    have gd:B.defers=[]:=by rw[← hA];simp only[dF];exact fd
    clear hA f0 f1 f6 fs fd
    revert B
    intro A f0 f1 f6 fs fd
    refine vX ?_
    refine xA (k:=.i64) (m:=((uvl n:Nat):Int)) (n:=2) (by simp (disch:=(try simp only[sP]);omega) only[eV,f6]) rfl ?_
    refine rA (dn ?_)
    refine vS (vC (t:=((uvl n:Nat):Int)==2) (by (try simp (disch:=(try simp only[sP]);omega) only[eV])<;>(first | rfl | assumption)) ?_ ?_)
    ·intro hk
     have hk':uvl n=2:=by simp only[beq_iff_eq] at hk;omega
     have hr:128<=n/\n<16384:=by have:=kh hn;omega
     refine vX (rM (rM ?_))
     refine r_andN (by (try simp (disch:=(try simp only[sP]);omega) only[eV,f1])<;>(first | rfl | assumption)) rfl (by omega) ?_
     refine r_orN (by (try simp (disch:=(try simp only[sP]);omega) only[eV])<;>(first | rfl | assumption)) rfl (by omega) ?_
     refine qM (by assumption) (by assumption) (by (try simp (disch:=(try simp only[sP]);omega) only[eV])<;>(first | rfl | assumption)) ?_
     refine rM ?_
     refine jR (n:=n) (k:=7) (mm:=128) (by simp (disch:=(try simp only[sP]);omega) only[eV,f1]) rfl (by decide) ?_
     refine qM (by assumption) (by assumption) (by (try simp (disch:=(try simp only[sP]);omega) only[eV])<;>(first | rfl | assumption)) ?_
     rw[uvar_2 hr.1 hr.2] at hb ⊢
     refine y5 (zs:=[IntKind.u8.wrap ((n % 128+128:Nat):Int),IntKind.u8.wrap ((n / 128:Nat):Int)]) hB ?_ (by intro z hz;simp only[List.mem_cons,List.not_mem_nil,or_false] at hz;rcases hz with rfl | rfl<;>exact xY _) rfl (by omega) (by omega) (by simp (disch:=(try simp only[sP]);omega) only[eV,f0]) (by omega) (by simp only[zP];omega) hown hU (by simpa using hb) ?_
     ·simp only[lM]
      simp (disch:=(try simp only[sP]);omega) only[eV]
      rfl
     intro v' w' h1 h2
     refine rA (dn (vS (vT ?_)))
     exact ⟨by simp only[dF];exact fd,v',rO (by simp (disch:=(try simp only[sP]);omega) only[eV]),⟨h1,h2⟩⟩
    ·intro hk2
     generalize hA:((A.put (some _) _).put (some _) _)=B
     have g0:B.eval (.tmp 0)=dv:=by rw[← hA];simp (disch:=(try simp only[sP]);omega) only[eV,f0]
     have g1:B.eval (.tmp 1)=.int .u32 n:=by rw[← hA];simp (disch:=(try simp only[sP]);omega) only[eV,f1]
     have g6:B.eval (.tmp 6)=.int .i64 ((uvl n:Nat):Int):=by rw[← hA];simp (disch:=(try simp only[sP]);omega) only[eV,f6]
     have gs:B.tmps.size=93:=by rw[← hA];simp only[zP];exact fs
     have gd:B.defers=[]:=by rw[← hA];simp only[dF];exact fd
     clear hA f0 f1 f6 fs fd
     revert B
     intro A f0 f1 f6 fs fd
     refine vX ?_
     refine xA (k:=.i64) (m:=((uvl n:Nat):Int)) (n:=1) (by simp (disch:=(try simp only[sP]);omega) only[eV,f6]) rfl ?_
     refine rA (dn ?_)
     refine vS (vC (t:=((uvl n:Nat):Int)==1) (by (try simp (disch:=(try simp only[sP]);omega) only[eV])<;>(first | rfl | assumption)) ?_ ?_)
     ·intro hk
      have hk':uvl n=1:=by simp only[beq_iff_eq] at hk;omega
      have hr:0<=n/\n<128:=by have:=kh hn;omega
      refine vX (rM (rM ?_))
      refine qM (by assumption) (by assumption) (by (try simp (disch:=(try simp only[sP]);omega) only[eV,f1])<;>(first | rfl | assumption)) ?_
      rw[uvar_1 hr.1 hr.2] at hb ⊢
      refine y5 (zs:=[IntKind.u8.wrap ((n:Nat):Int)]) hB ?_ (by intro z hz;simp only[List.mem_cons,List.not_mem_nil,or_false] at hz;rcases hz with rfl<;>exact xY _) rfl (by omega) (by omega) (by simp (disch:=(try simp only[sP]);omega) only[eV,f0]) (by omega) (by simp only[zP];omega) hown hU (by simpa using hb) ?_
      ·simp only[lM]
       simp (disch:=(try simp only[sP]);omega) only[eV]
       rfl
      intro v' w' h1 h2
      refine rA (dn (vS (vT ?_)))
      exact ⟨by simp only[dF];exact fd,v',rO (by simp (disch:=(try simp only[sP]);omega) only[eV]),⟨h1,h2⟩⟩
     ·intro hk1
      exfalso
      have:uvl n=5\/uvl n=4\/uvl n=3\/uvl n=2\/uvl n=1:=by have:=kh hn;omega
      simp only[beq_eq_false_iff_ne,ne_eq] at hk1 hk2 hk3 hk4 hk5
      omega
theorem k_uvar (ht:Text P E.wUvarint 2 93 #[.tmp 4] (yz E)) (htl:Text P E.uvLen 1 8 #[.tmp 2] (gw E)) (hl:Text P E.len32 1 19 #[.tmp 2] (vF E)) (hB:xd P E.tB E.tU8 1=true) (i8:qs P E.tU8=some .u8) (iu:qs P E.tW=some .u32) (ii:qs P E.tI=some .i64) (hs9:P.underlying E.tStr=some .string)
  {n:Nat} {U:Gd} (hn:n<4294967296):Wr1 P E E.wUvarint U [.int .u32 n] (Go.Km.uvar n) w:=(k_uvarK ht htl hl hB i8 iu ii hs9 hn).one
end
end Go.Km
namespace Go.Km
open Go Go.RowKit
attribute [local irreducible] vc rO_ qz qI qF
section
variable {P : Program} {a : Act} {w : World} {r : List Oper} {Q : Exit → Act → World → Prop}
theorem gc {d x t ty p af g kt vt n} {v:Value} (ht:P.underlying t=some (.map kt vt)) (hx:a.eval x=v) (hv:(v=.map none/\n=0)\/∃ q es clock,v=.map (some q)/\w.heap[q]? = some (.map es clock)/\es.size=n) (h:rO_ P Q r (a.put (some d) (.int .i64 (n:Nat))) w) :
  rO_ P Q (⟨some d,.call { callee:=.builtin .len,args:=#[x],argTypes:=#[t] },ty,p,af,g⟩::r) a w:=by
 refine st ?_
 have hr:(Builtin.len_ #[t] ty #[a.eval x]).run P w=.ok (.int .i64 (n:Nat)) w:=by
  rw[hx]
  rcases hv with ⟨rfl,rfl⟩ | ⟨q,es,clock,rfl,hq,rfl⟩
  ·simp[Builtin.len_,run_underlying ht,goInt]
  ·have hg:(getObj q).run P w=.ok (.map es clock) w:=by simp[getObj,Sem.run,hq]
   simp[Builtin.len_,run_underlying ht,goInt,hg]
 simp only[Oper.wp,execOp,resolve,invoke,builtin,Sem.run_bind,Sem.run_pure,Result.andThen_ok,List.map_toArray,List.map_cons,List.map_nil,hr,Oper.upon_value]
 exact h
theorem wo {d f xs ys ty p af g} (h:rO_ P Q r (a.put (some d) (.func (.func f) (xs.map a.eval) (ys.map a.eval))) w):rO_ P Q (⟨some d,.makeFunc (.func f) xs ys,ty,p,af,g⟩::r) a w:=by
 refine st ?_
 simp only[Oper.wp,execOp,Instr.makeFunc,Sem.run_bind,Sem.run_pure,Result.andThen_ok,Oper.upon_value]
 exact h
end
def mapB (P:Program) (t:TypeId):Bool:=match P.underlying t with | some (.map _ _)=>true | _=>false
theorem mapB_inv {P:Program} {t:TypeId} (h:mapB P t=true):∃ k v,P.underlying t=some (.map k v):=by
 unfold mapB at h
 split at h
 ·rename_i k v hu;exact ⟨k,v,hu⟩
 ·cases h
section
variable {P : Program} {E : Env} {w : World} {U : Gd}
theorem tags_len {W0:World} {sb:Sb} {B:Nat} {v:Value} {tags:List (Nat × List UInt8)} (h:xG W0 sb B v tags) (hw:Below W0.heap.size W0 w) :
  (v=.map none/\tags.length=0)\/∃ q es clock,v=.map (some q)/\w.heap[q]? = some (.map es clock)/\es.size=tags.length:=by
 obtain ⟨_,_,h⟩:=h
 rcases h with ⟨rfl,rfl⟩ | ⟨q,es,clock,rfl,_,hq,hm,_,_,l,hp,hl,_⟩
 ·exact .inl ⟨rfl,rfl⟩
 ·exact .inr ⟨q,es,clock,rfl,by rw[hw.block q hq];exact hm,by rw[← hl];exact hp.length_eq⟩
theorem k_tlen (ht:Text P E.tLen 1 8 #[.tmp 2] (c_tLen E)) (ho:qQ P E.tTagMap=true) (hf:ql P E.tTags 0=some 0) (hm:mapB P E.tTagMap=true)
  {W0:World} {sb:Sb} {b o:Nat} {v:Value} {tags:List (Nat × List UInt8)} (hc:W0.cell? ⟨b,o,none⟩=some v) (hr:xG W0 sb 0 v tags) (hw:Below W0.heap.size W0 w) :
  qa P E.tLen #[.pointer (some ⟨b,o,none⟩)] w fun r w'=>r=.int .i64 (tags.length:Int)/\Grow w w':=by
 refine qa.enter ht (by simp) ?_
 intro a hsz hdf harg
 have e0:=harg 0 (.pointer (some ⟨b,o,none⟩)) (by simp)
 obtain ⟨kt,vt,hu⟩:=mapB_inv hm
 have hcw:w.cell? ⟨b,o,none⟩=some v:=by rw[hw.cell (p:=⟨b,o,none⟩) (qj hc)];exact hc
 unfold c_tLen
 refine vX (rA (dn (vX (rM ?_))))
 refine qV (ad:=⟨b,o,none⟩) (by simp (disch:=(try simp only[sP]);omega) only[eV,e0]) ?_
 refine rF (b:=b) (o:=o) (by simp (disch:=(try simp only[sP]);omega) only[eV]) hf ?_
 refine rL (b:=b) (o:=o) (by (try simp (disch:=(try simp only[sP]);omega) only[eV])<;>(first | rfl | assumption)) ho hcw ?_
 refine gc (v:=v) (n:=tags.length) hu (by simp (disch:=(try simp only[sP]);omega) only[eV]) (tags_len hr hw) ?_
 refine rA (dn (vS (vT ?_)))
 exact ⟨by simp only[dF];exact hdf,.int .i64 (tags.length:Nat),rO (by simp (disch:=(try simp only[sP]);omega) only[eV]),rfl,Eff.refl _ _⟩
theorem k_gAll0 (ht:Text P E.gAll 2 53 #[] (wC E)) (ho:qQ P E.tTagMap=true) (hf:ql P E.tTags 0=some 0) (hm:mapB P E.tTagMap=true)
  {b o:Nat} {v fn:Value} (hcw:w.cell? ⟨b,o,none⟩=some v) (hv:(v=.map none/\(0:Nat)=0)\/∃ q es clock,v=.map (some q)/\w.heap[q]? = some (.map es clock)/\es.size=0) :
  qa P E.gAll #[.pointer (some ⟨b,o,none⟩),fn] w fun r w'=>w'=w:=by
 refine qa.enter ht (by simp) ?_
 intro a hsz hdf harg
 have e0:=harg 0 (.pointer (some ⟨b,o,none⟩)) (by simp)
 obtain ⟨kt,vt,hu⟩:=mapB_inv hm
 unfold wC
 refine vS (vX (rM ?_))
 refine qV (ad:=⟨b,o,none⟩) (by simp (disch:=(try simp only[sP]);omega) only[eV,e0]) ?_
 refine rF (b:=b) (o:=o) (by simp (disch:=(try simp only[sP]);omega) only[eV]) hf ?_
 refine rL (b:=b) (o:=o) (by (try simp (disch:=(try simp only[sP]);omega) only[eV])<;>(first | rfl | assumption)) ho hcw ?_
 refine gc (v:=v) (n:=0) hu (by simp (disch:=(try simp only[sP]);omega) only[eV]) hv ?_
 refine xA (k:=.i64) (m:=((0:Nat):Int)) (n:=0) (by simp (disch:=(try simp only[sP]);omega) only[eV]) rfl ?_
 refine dn ?_
 refine vS (vC (t:=true) (by (try simp (disch:=(try simp only[sP]);omega) only[eV])<;>(first | rfl | assumption)) ?_ (fun h=>by cases h))
 intro _
 refine vT ?_
 refine ⟨by simp only[dF];exact hdf,.tuple #[],?_,rfl⟩
 simp[results]
theorem k_teach0 (ht:Text P E.tEach 2 9 #[.tmp 4] (gx E)) (hta:Text P E.gAll 2 53 #[] (wC E)) (hob:qQ P E.tB=true) (ho:qQ P E.tTagMap=true) (hf:ql P E.tTags 0=some 0) (hm:mapB P E.tTagMap=true)
  {W0:World} {sb:Sb} {b o:Nat} {v:Value} {tags:List (Nat × List UInt8)} (h0:tags=[]) (hc:W0.cell? ⟨b,o,none⟩=some v) (hr:xG W0 sb 0 v tags) (hw:Below W0.heap.size W0 w)
  {G:Nat->Option Obj} {dv:Value} {xs:List UInt8} (hown:w.ownsG ⟨W0.heap.size,G⟩ E.tU8 1 dv xs.length (xs.map bv)) :
  qa P E.tEach #[.pointer (some ⟨b,o,none⟩),dv] w fun v' w'=>w'.ownsG ⟨W0.heap.size,G⟩ E.tU8 1 v' (xs++(tags.map qR).flatten).length ((xs++(tags.map qR).flatten).map bv)/\Below W0.heap.size w w':=by
 subst h0
 refine qa.enter ht (by simp) ?_
 intro a hsz hdf harg
 have e0:=harg 0 (.pointer (some ⟨b,o,none⟩)) (by simp)
 have e1:=harg 1 dv (by simp)
 have hdc:dv.cells=#[dv]:=by
  rcases hown.own.2 with ⟨rfl,_⟩ | ⟨g,cap,cur,rfl,_⟩<;>rfl
 have hbl:Below W0.heap.size w (w.alloc (.cells dv.cells E.tB)):=(Below.refl _ w).alloc (o:=.cells _ _) hw.size
 have hw1:Below W0.heap.size W0 (w.alloc (.cells dv.cells E.tB)):=hw.trans hbl
 have hcw:(w.alloc (.cells dv.cells E.tB)).cell? ⟨b,o,none⟩=some v:=by rw[hw1.cell (p:=⟨b,o,none⟩) (qj hc)];exact hc
 unfold gx
 refine vX ?_
 refine xJ (v:=dv) (by simp (disch:=(try simp only[sP]);omega) only[eV,e1]) ?_
 refine rA (dn (vX (rM ?_)))
 refine wo ?_
 refine q8 (args:=#[.pointer (some ⟨b,o,none⟩),.func (.func E.gEach1) #[] #[.pointer (some ⟨w.heap.size,0,none⟩)]]) ?_ (k_gAll0 hta ho hf hm hcw (tags_len hr hw1)) ?_
 ·simp only[lM]
  simp (disch:=(try simp only[sP]);omega) only[eV,e0]
 rintro v' w' rfl
 refine dn (vX ?_)
 refine rL (b:=w.heap.size) (o:=0) (v:=dv) (by simp (disch:=(try simp only[sP]);omega) only[eV]) hob (qt w _ _ (by rw[hdc];rfl)) ?_
 refine rA (dn (vS (vT ?_)))
 refine ⟨by simp only[dF];exact hdf,dv,rO (by simp (disch:=(try simp only[sP]);omega) only[eV]),?_,hbl⟩
 simpa using hown.alloc _
end
def on (f:Nat) (c:Bool):Bool:=f==0||c
theorem on_inv {f:Nat} {c:Bool} (h:on f c=true) (hf:f≠0):c=true:=by
 simp only[on,Bool.or_eq_true,beq_iff_eq] at h
 exact h.resolve_left hf
def strB (P:Program) (t:TypeId):Bool:=match P.underlying t with | some .string=>true | _=>false
theorem ki {P:Program} {t:TypeId} (h:strB P t=true):P.underlying t=some .string:=by
 unfold strB at h
 split at h
 ·assumption
 ·cases h
def arrB (P:Program) (t e:TypeId) (n:Nat):Bool:=match P.underlying t with | some (.array n' e')=>n'==n&&e'==e | _=>false
theorem arrB_inv {P:Program} {t e:TypeId} {n:Nat} (h:arrB P t e n=true):P.underlying t=some (.array n e):=by
 unfold arrB at h
 split at h
 ·rename_i n' e' hu
  simp only[Bool.and_eq_true,beq_iff_eq] at h
  obtain ⟨rfl,rfl⟩:=h
  exact hu
 ·cases h
def kB (P:Program) (E:Env):Bool :=
 xd P E.tB E.tU8 1&&(qs P E.tU8==some .u8)&&(qs P E.tI==some .i64)&&qQ P E.tB&&((P.info? E.tU8).map (·.size)==some 1) &&
 on E.wU16 (qs P E.tU16==some .u16)&&on E.wU32 (qs P E.tW==some .u32)&&on E.wU64 (qs P E.tU64==some .u64) &&
 on E.wI8 (qs P E.tI8==some .i8)&&on E.wI16 (qs P E.tI16==some .i16&&E.wU16 != 0)&&on E.wI32 (qs P E.tI32==some .i32&&E.wU32 != 0)&&on E.wI64 (qs P E.tI64==some .i64&&E.wU64 != 0) &&
 on E.wUvarint (qs P E.tW==some .u32&&strB P E.tStr&&E.uvLen != 0&&E.len32 != 0) &&
 on E.wStr (strB P E.tStr&&E.wI16 != 0)&&on E.wCStr (strB P E.tStr&&E.wUvarint != 0) &&
 on E.wNStr (ptrB P E.tPStr&&qQ P E.tStr&&E.wStr != 0&&E.wI16 != 0)&&on E.wCNStr (ptrB P E.tPStr&&qQ P E.tStr&&E.wCStr != 0&&E.wUvarint != 0) &&
 on E.wBytes (E.wI32 != 0)&&on E.wCBytes (E.wUvarint != 0)&&on E.wNBytes (E.wBytes != 0&&E.wI32 != 0)&&on E.wCNBytes (E.wCBytes != 0&&E.wUvarint != 0) &&
 on E.wLen (E.wI32 != 0)&&on E.wCLen (E.wUvarint != 0)&&on E.wNLen (E.wI32 != 0)&&on E.wCNLen (E.wUvarint != 0) &&
 on E.wUuid (arrB P E.tUuid E.tU8 16)&&on E.tLen (qQ P E.tTagMap&&mapB P E.tTagMap&&ql P E.tTags 0==some 0)&&on E.tEach (qQ P E.tTagMap&&mapB P E.tTagMap&&ql P E.tTags 0==some 0&&E.gAll != 0) &&
 on E.wUvarint (qs P E.tW==some .u32)&&(E.wF64==0)
structure KTexts (P:Program) (E:Env):Prop where
 wBool:E.wBool≠0->Text P E.wBool 2 12 #[.tmp 4] (c_wBool E)
 wI8:E.wI8≠0->Text P E.wI8 2 10 #[.tmp 4] (c_wI8 E)
 wI16:E.wI16≠0->Text P E.wI16 2 9 #[.tmp 4] (c_wI16 E)
 wU16:E.wU16≠0->Text P E.wU16 2 13 #[.tmp 4] (c_wU16 E)
 wI32:E.wI32≠0->Text P E.wI32 2 9 #[.tmp 4] (c_wI32 E)
 wU32:E.wU32≠0->Text P E.wU32 2 19 #[.tmp 4] (c_wU32 E)
 wI64:E.wI64≠0->Text P E.wI64 2 9 #[.tmp 4] (c_wI64 E)
 wU64:E.wU64≠0->Text P E.wU64 2 31 #[.tmp 4] (c_wU64 E)
 wUuid:E.wUuid≠0->Text P E.wUuid 2 8 #[.tmp 4] (c_wUuid E)
 wStr:E.wStr≠0->Text P E.wStr 2 13 #[.tmp 4] (c_wStr E)
 wCStr:E.wCStr≠0->Text P E.wCStr 2 14 #[.tmp 4] (c_wCStr E)
 wNStr:E.wNStr≠0->Text P E.wNStr 2 14 #[.tmp 4] (c_wNStr E)
 wCNStr:E.wCNStr≠0->Text P E.wCNStr 2 14 #[.tmp 4] (c_wCNStr E)
 wBytes:E.wBytes≠0->Text P E.wBytes 2 13 #[.tmp 4] (c_wBytes E)
 wCBytes:E.wCBytes≠0->Text P E.wCBytes 2 14 #[.tmp 4] (c_wCBytes E)
 wNBytes:E.wNBytes≠0->Text P E.wNBytes 2 12 #[.tmp 4] (c_wNBytes E)
 wCNBytes:E.wCNBytes≠0->Text P E.wCNBytes 2 12 #[.tmp 4] (ww E)
 wLen:E.wLen≠0->Text P E.wLen 2 9 #[.tmp 4] (c_wLen E)
 wCLen:E.wCLen≠0->Text P E.wCLen 2 10 #[.tmp 4] (c_wCLen E)
 wNLen:E.wNLen≠0->Text P E.wNLen 3 14 #[.tmp 6] (c_wNLen E)
 wCNLen:E.wCNLen≠0->Text P E.wCNLen 3 15 #[.tmp 6] (c_wCNLen E)
 uvLen:E.uvLen≠0->Text P E.uvLen 1 8 #[.tmp 2] (gw E)
 len32:E.len32≠0->Text P E.len32 1 19 #[.tmp 2] (vF E)
 wUvarint:E.wUvarint≠0->Text P E.wUvarint 2 93 #[.tmp 4] (yz E)
 tLen:E.tLen≠0->Text P E.tLen 1 8 #[.tmp 2] (c_tLen E)
 tEach:E.tEach≠0->Text P E.tEach 2 9 #[.tmp 4] (gx E)
 gAll:E.gAll≠0->Text P E.gAll 2 53 #[] (wC E)
theorem envW0 {P:Program} {E:Env} (HT:KTexts P E) (hB:kB P E=true):EnvW P E (fun tags=>tags=[]):=by
 simp only[kB,Bool.and_eq_true,beq_iff_eq,bne_iff_ne,ne_eq] at hB
 obtain ⟨⟨⟨⟨⟨⟨⟨⟨⟨⟨⟨⟨⟨⟨⟨⟨⟨⟨⟨⟨⟨⟨⟨⟨⟨⟨⟨⟨⟨row,u8⟩,ii⟩,ob⟩,s8⟩,oU16⟩,oU32⟩,oU64⟩,oI8⟩,oI16⟩,oI32⟩,oI64⟩,oUv⟩,oStr⟩,oCStr⟩,oNStr⟩,oCNStr⟩,oB⟩,oCB⟩,oNB⟩,oCNB⟩,oL⟩,oCL⟩,oNL⟩,oCNL⟩,oUu⟩,oTl⟩,oTe⟩,oUv2⟩,oF⟩:=hB
 have dec:∀ {f:Nat} {c:Bool},on f c=true->f≠0->c=true:=fun h hf=>on_inv h hf
 have cU16:E.wU16≠0->∀ (n:Int) (U:Gd) w,0<=n/\n<=65535->Wr1 P E E.wU16 U [.int .u16 n] (be 2 n) w:=fun h n U w hn =>
  k_u16 (HT.wU16 h) row (by simpa using dec oU16 h) u8 hn
 have cI16:E.wI16≠0->∀ (n:Int) (U:Gd) w,Wr1 P E E.wI16 U [.int .i16 n] (be 2 n) w:=fun h n U w=>by
  have h2:=dec oI16 h
  simp only[Bool.and_eq_true,beq_iff_eq,bne_iff_ne,ne_eq] at h2
  exact k_i16 (HT.wI16 h) h2.1 (by simpa using dec oU16 h2.2) (cU16 h2.2)
 have cU32:E.wU32≠0->∀ (n:Int) (U:Gd) w,0<=n/\n<=4294967295->Wr1 P E E.wU32 U [.int .u32 n] (be 4 n) w:=fun h n U w hn =>
  k_u32 (HT.wU32 h) row (by simpa using dec oU32 h) u8 hn
 have cI32:E.wI32≠0->∀ (n:Int) (U:Gd) w,Wr1 P E E.wI32 U [.int .i32 n] (be 4 n) w:=fun h n U w=>by
  have h2:=dec oI32 h
  simp only[Bool.and_eq_true,beq_iff_eq,bne_iff_ne,ne_eq] at h2
  exact k_i32 (HT.wI32 h) h2.1 (by simpa using dec oU32 h2.2) (cU32 h2.2)
 have cU64:E.wU64≠0->∀ (n:Int) (U:Gd) w,0<=n/\n<=18446744073709551615->Wr1 P E E.wU64 U [.int .u64 n] (be 8 n) w:=fun h n U w hn =>
  k_u64 (HT.wU64 h) row (by simpa using dec oU64 h) u8 hn
 have cI64:E.wI64≠0->∀ (n:Int) (U:Gd) w,Wr1 P E E.wI64 U [.int .i64 n] (be 8 n) w:=fun h n U w=>by
  have h2:=dec oI64 h
  simp only[Bool.and_eq_true,beq_iff_eq,bne_iff_ne,ne_eq] at h2
  exact k_i64 (HT.wI64 h) h2.1 (by simpa using dec oU64 h2.2) (cU64 h2.2)
 have cUv:E.wUvarint≠0->∀ (n:Nat) (U:Gd) w,n<4294967296->Wr1 P E E.wUvarint U [.int .u32 n] (Go.Km.uvar n) w:=fun h n U w hn=>by
  have h2:=dec oUv h
  simp only[Bool.and_eq_true,beq_iff_eq,bne_iff_ne,ne_eq] at h2
  exact k_uvar (HT.wUvarint h) (HT.uvLen h2.1.2) (HT.len32 h2.2) row u8 h2.1.1.1 ii (ki h2.1.1.2) hn
 have iU32:E.wUvarint≠0->qs P E.tW=some .u32:=fun h=>by simpa using dec oUv2 h
 have iI16:E.wI16≠0->qs P E.tI16=some .i16:=fun h=>by
  have h2:=dec oI16 h
  simp only[Bool.and_eq_true,beq_iff_eq] at h2
  exact h2.1
 have iI32:E.wI32≠0->qs P E.tI32=some .i32:=fun h=>by
  have h2:=dec oI32 h
  simp only[Bool.and_eq_true,beq_iff_eq] at h2
  exact h2.1
 have cStr:E.wStr≠0->∀ (l:List UInt8) (U:Gd) w,Wr1 P E E.wStr U [.string ⟨l.toArray⟩] (xS false l) w:=fun h l U w=>by
  have h2:=dec oStr h
  simp only[Bool.and_eq_true,bne_iff_ne,ne_eq] at h2
  exact k_str (HT.wStr h) row (iI16 h2.2) ii (ki h2.1) (cI16 h2.2)
 have cCStr:E.wCStr≠0->∀ (l:List UInt8) (U:Gd) w,Wr1 P E E.wCStr U [.string ⟨l.toArray⟩] (xS true l) w:=fun h l U w=>by
  have h2:=dec oCStr h
  simp only[Bool.and_eq_true,bne_iff_ne,ne_eq] at h2
  exact k_cstr (HT.wCStr h) row (iU32 h2.2) ii (ki h2.1) (cUv h2.2)
 have cB:E.wBytes≠0->∀ v o (U:Gd) w,jp w U.u v o->Wr1 P E E.wBytes U [v] (xb false (o.getD [])) w:=fun h v o U w hv=>by
  have h2:=dec oB h
  simp only[bne_iff_ne,ne_eq] at h2
  exact k_octs (HT.wBytes h) row (iI32 h2) ii hv (cI32 h2)
 have cCB:E.wCBytes≠0->∀ v o (U:Gd) w,jp w U.u v o->Wr1 P E E.wCBytes U [v] (xb true (o.getD [])) w:=fun h v o U w hv=>by
  have h2:=dec oCB h
  simp only[bne_iff_ne,ne_eq] at h2
  exact k_cocts (HT.wCBytes h) row (iU32 h2) ii hv (cUv h2)
 refine { bytes:=rB row,scal:=?_,uuid:=?_,str:=fun h l U w=>cStr h l U w,cstr:=fun h l U w=>cCStr h l U w,nstr:=?_,cnstr:=?_,octs:=cB,cocts:=cCB,nocts:=?_,cnocts:=?_,len:=?_,clen:=?_,nlen:=?_,cnlen:=?_,uvar:=cUv,tlen:=?_,teach:=?_ }
 ·intro s hs n U w hn
  cases s with
  | bool =>
   have hb:=k_bool (U:=U) (w:=w) (b:=n != 0) (HT.wBool hs) row
   exact hb
  | i8 =>
   have h2:=dec oI8 hs
   simp only[beq_iff_eq] at h2
   exact k_i8 (HT.wI8 hs) row h2 u8
  | i16=>exact cI16 hs n U w
  | i32=>exact cI32 hs n U w
  | i64=>exact cI64 hs n U w
  | u16=>exact cU16 hs n U w hn
  | f64=>exact absurd oF hs
 ·intro h l U w hl
  exact k_uuid (HT.wUuid h) row hl (arrB_inv (dec oUu h)) s8
 ·intro h v o U w hv
  have h2:=dec oNStr h
  simp only[Bool.and_eq_true,bne_iff_ne,ne_eq] at h2
  obtain ⟨te,hte⟩:=gg h2.1.1.1
  exact k_nstr (HT.wNStr h) hte h2.1.1.2 hv (cI16 h2.2) (cStr h2.1.2)
 ·intro h v o U w hv
  have h2:=dec oCNStr h
  simp only[Bool.and_eq_true,bne_iff_ne,ne_eq] at h2
  obtain ⟨te,hte⟩:=gg h2.1.1.1
  exact k_cnstr (HT.wCNStr h) hte h2.1.1.2 hv (cUv h2.2) (cCStr h2.1.2)
 ·intro h v o U w hv
  have h2:=dec oNB h
  simp only[Bool.and_eq_true,bne_iff_ne,ne_eq] at h2
  exact k_nocts (HT.wNBytes h) row hv (cI32 h2.2) (cB h2.1)
 ·intro h v o U w hv
  have h2:=dec oCNB h
  simp only[Bool.and_eq_true,bne_iff_ne,ne_eq] at h2
  exact k_cnocts (HT.wCNBytes h) row hv (cUv h2.2) (cCB h2.1)
 ·intro h n U w hn
  have h2:=dec oL h
  simp only[bne_iff_ne,ne_eq] at h2
  exact k_len (HT.wLen h) (iI32 h2) ii hn (cI32 h2)
 ·intro h n U w hn
  have h2:=dec oCL h
  simp only[bne_iff_ne,ne_eq] at h2
  exact k_clen (HT.wCLen h) (iU32 h2) ii hn (cUv h2)
 ·intro h n b U w hn
  have h2:=dec oNL h
  simp only[bne_iff_ne,ne_eq] at h2
  exact k_nlen (HT.wNLen h) (iI32 h2) ii hn (cI32 h2)
 ·intro h n b U w hn
  have h2:=dec oCNL h
  simp only[bne_iff_ne,ne_eq] at h2
  exact k_cnlen (HT.wCNLen h) (iU32 h2) ii hn (cUv h2)
 ·intro h W0 sb b o v tags w _ hc hr hw
  have h2:=dec oTl h
  simp only[Bool.and_eq_true,beq_iff_eq] at h2
  exact k_tlen (HT.tLen h) h2.1.1 h2.2 h2.1.2 hc hr hw
 ·intro h W0 sb b o v tags w hT hc hr hw G dv xs hown hb
  have h2:=dec oTe h
  simp only[Bool.and_eq_true,beq_iff_eq,bne_iff_ne,ne_eq] at h2
  have h0:tags=[]:=by
   have:=hr.2.1
   rw[hT] at this
   exact this
  exact k_teach0 (HT.tEach h) (HT.gAll h2.2) ob h2.1.1.1 h2.1.2 h2.1.1.2 h0 hc hr hw hown
end Go.Km
namespace Go.Km
open Go Go.RowKit
attribute [local irreducible] vc rO_ qz qI qF
section
variable {P : Program} {a : Act} {w : World} {Q : Exit → Act → World → Prop}
theorem xH {body:Code} (I:Nat->Act->World->Prop) (n:Nat) (h0:I n a w) (step:∀ m a w,I (m+1) a w->vc P body (Exit.then (I m) Q) a w) (done:∀ a w,I 0 a w->vc P body (Exit.then (fun _ _=>False) Q) a w):vc P (.loop body) Q a w:=by
 classical
 have hmin:∀ (p:Nat->Prop) (m:Nat),p m->∃ k,k<=m/\p k/\∀ j,j<k->¬ p j:=by
  intro p m
  induction m using Nat.strongRecOn with
  | ind m ih =>
   intro hm
   by_cases h:∃ j,j<m/\p j
   ·obtain ⟨j,hj,hp⟩:=h
    obtain ⟨k,hk,hpk,hl⟩:=ih j hj hp
    exact ⟨k,by omega,hpk,hl⟩
   ·exact ⟨m,Nat.le_refl _,hm,fun j hj hp=>h ⟨j,hj,hp⟩⟩
 let μ:Act->World->Nat:=fun a w=>if h:∃ m,I m a w then Classical.choose (hmin (fun m=>I m a w) (Classical.choose h) (Classical.choose_spec h)) else 0
 have hμ:∀ a w,(∃ m,I m a w)->I (μ a w) a w/\∀ j,j<μ a w->¬ I j a w:=by
  intro a w h
  have:=Classical.choose_spec (hmin (fun m=>I m a w) (Classical.choose h) (Classical.choose_spec h))
  have e:μ a w=Classical.choose (hmin (fun m=>I m a w) (Classical.choose h) (Classical.choose_spec h)):=dif_pos h
  rw[e]
  exact ⟨this.2.1,this.2.2⟩
 refine zU (fun a w=>∃ m,I m a w) μ ⟨n,h0⟩ ?_
 intro a w h
 obtain ⟨h1,h2⟩:=hμ a w h
 cases hm:μ a w with
 | zero =>
  rw[hm] at h1
  refine qZ _ (done a w h1) ?_
  intro e a' w' h
  cases e<;>first | exact h.elim | exact h
 | succ m =>
  rw[hm] at h1
  refine qZ _ (step m a w h1) ?_
  intro e a' w' h
  cases e with
  | normal =>
   refine ⟨⟨m,h⟩,?_⟩
   have:=(hμ a' w' ⟨m,h⟩).2
   rcases Nat.lt_or_ge (μ a' w') (m+1) with h' | h'
   ·exact h'
   ·exact absurd h (this m (by omega))
  | _=>exact h
end
section
variable {P : Program} {E : Env} {w : World} {U : Nat}
end
end Go.Km
namespace Go.Km
open Go Go.RowKit
attribute [local irreducible] vc rO_ qz qI qF
section
variable {P : Program} {a : Act} {w : World} {Q : Exit → Act → World → Prop} {r : List Oper}
theorem yL {ops:List Oper} (ord:List Nat) (ho:List.range ops.length=ord) (h:qI P ops Q ord a w):vc P (rg ops) Q a w:=by
 subst ho
 exact xF h
theorem r_rem {d xt x y yt ty p af g k m n} (hx:a.eval x=.int k m) (hy:a.eval y=.int k n) (hn:n≠0) (h:rO_ P Q r (a.put (some d) (.int k (m.tmod n))) w):rO_ P Q (⟨some d,.binOp .rem xt x y yt,ty,p,af,g⟩::r) a w:=by
 refine st ?_
 simp only[Oper.wp,execOp,hx,hy,eqGuard_at_int,binOp_rem,Op.intDiv,hn,if_false,Sem.run_bind,Sem.run_pure,Result.andThen_ok,Oper.upon_value]
 exact h
end
section
variable {P : Program} {E : Env} {w : World} {U : Nat}
def xu (k:Nat):Nat:=if k=1 then 1 else if k=2\/k=5 then 2 else if k=3 then 4 else 8
theorem j6 (ht:Text P E.lVersion 2 10 #[.tmp 4] (kG E)) (i8:qs P E.tU8=some .u8) (ii:qs P E.tI=some .i64) {n most:Nat} (hn:n<256) (hm:most<32768) :
  qa P E.lVersion #[.int .u8 n,.int .i64 most] w fun v w'=>v=.int .i64 ((n % (most+1):Nat):Int)/\w'=w:=by
 refine qa.enter ht (by simp) ?_
 intro a hsz hdf harg
 have e0:=harg 0 (.int .u8 n) (by simp)
 have e1:=harg 1 (.int .i64 most) (by simp)
 unfold kG
 refine vX (rA (dn (vX (rM ?_))))
 refine qM (by assumption) (by assumption) (by (try simp (disch:=(try simp only[sP]);omega) only[eV,e0])<;>(first | rfl | assumption)) ?_
 refine rM ?_
 refine xP (by (try simp (disch:=(try simp only[sP]);omega) only[eV,e1])<;>(first | rfl | assumption)) (by (try simp (disch:=(try simp only[sP]);omega) only[eV,e1])<;>(first | rfl | assumption)) ?_
 have h1:IntKind.i64.wrap ((n:Nat):Int)=n:=wrap_i64 (by omega) (by omega)
 have h2:IntKind.i64.wrap ((most:Int)+1)=((most+1:Nat):Int):=by rw[wrap_i64 (by omega) (by omega)];omega
 rw[h1,h2]
 refine r_rem (k:=.i64) (m:=(n:Int)) (n:=((most+1:Nat):Int)) (by simp (disch:=(try simp only[sP]);omega) only[eV]) (by simp (disch:=(try simp only[sP]);omega) only[eV]) (by omega) ?_
 refine rA (dn (vS (vT ?_)))
 refine ⟨by simp only[dF];exact hdf,_,rO (by (try simp (disch:=(try simp only[sP]);omega) only[eV])<;>(first | rfl | assumption)),?_,rfl⟩
 rw[Int.tmod_eq_emod_of_nonneg (by omega)]
 simp
def cnt (flex null:Bool) (n size:Nat):List UInt8:=if flex&&null then [0] else if flex then Go.Km.uvar (n+1) else if null then be size (-1) else be size n
end
end Go.Km
namespace Go.Km
open Go Go.RowKit
attribute [local irreducible] vc rO_ qz qI qF
mutual
inductive Tr where
 | mk (n:Int) (s:List UInt8) (nl:Bool) (l:Trs) (u:List (Nat × List UInt8))
inductive Trs where
 | nil
 | cons (t:Tr) (r:Trs)
end
mutual
inductive SF where
 | mk (kind fr to nul tag df el:Int) (sub:SFs)
inductive SFs where
 | nil
 | cons (f:SF) (r:SFs)
end
def Trs.len:Trs->Nat
 | .nil=>0
 | .cons _ r=>r.len+1
def Trs.get:Trs->Nat->Option Tr
 | .nil,_=>none
 | .cons t _,0=>some t
 | .cons _ r,i+1=>r.get i
def SFs.len:SFs->Nat
 | .nil=>0
 | .cons _ r=>r.len+1
def SFs.get:SFs->Nat->Option SF
 | .nil,_=>none
 | .cons t _,0=>some t
 | .cons _ r,i+1=>r.get i
def Tr.zero:Tr:=.mk 0 [] false .nil []
def Tr.at (t:Tr) (i:Nat):Tr:=match t with | .mk _ _ _ l _=>(l.get i).getD .zero
def NilS (v:Value):Prop:=∃ ad cap,v=.slice ad 0 cap
def xO (w:World) (U:Nat) (v:Value) (l:List UInt8):Prop :=
 (NilS v/\l=[])\/∃ q o cap,v=.slice (some ⟨q,o,none⟩) l.length cap/\l.length<=cap/\q<U/\qb w q o (l.map bv)
def kJ (w:World) (U:Nat) (v:Value) (u:List (Nat × List UInt8)):Prop :=
 (NilS v/\u=[])\/∃ q o cap,v=.slice (some ⟨q,o,none⟩) u.length cap/\u.length<=cap/\q<U ∧
  ∀ (i:Nat) (x:Nat × List UInt8),u[i]? = some x->∃ sv,x.1<4294967296/\qb w q (o+i*2) [.int .u32 x.1,sv]/\xO w U sv x.2
mutual
def Tr.Rep (w:World) (U:Nat):Tr->List Value->Prop
 | .mk n s nl l u,cs=>∃ sv lv uv,cs=[.int .i64 n,sv,.bool nl,lv,uv]/\xO w U sv s/\kJ w U uv u ∧
   ((NilS lv/\l.len=0)\/∃ q o cap,lv=.slice (some ⟨q,o,none⟩) l.len cap/\l.len<=cap/\q<U/\l.Rep w U q o)
def Trs.Rep (w:World) (U q:Nat):Trs->Nat->Prop
 | .nil,_=>True
 | .cons t r,o=>(∃ c,qb w q o c/\t.Rep w U c)/\r.Rep w U q (o+5)
end
mutual
def SF.Rep (w:World) (U:Nat):SF->List Value->Prop
 | .mk kind fr to nul tag df el sub,cs=>∃ sv,cs=[.int .i64 kind,.int .i64 fr,.int .i64 to,.int .i64 nul,.int .i64 tag,.int .i64 df,.int .i64 el,sv] ∧
   ((sv=.slice none 0 0/\sub.len=0)\/∃ q o cap,sv=.slice (some ⟨q,o,none⟩) sub.len cap/\sub.len<=cap/\q<U/\sub.Rep w U q o)
def SFs.Rep (w:World) (U q:Nat):SFs->Nat->Prop
 | .nil,_=>True
 | .cons f r,o=>(∃ c,qb w q o c/\f.Rep w U c)/\r.Rep w U q (o+8)
end
theorem Tr.Rep.len {w:World} {U:Nat} {t:Tr} {cs:List Value} (h:t.Rep w U cs):cs.length=5:=by
 cases t with
 | mk n s nl l u=>obtain ⟨_,_,_,rfl,_⟩:=h;rfl
theorem SF.Rep.len {w:World} {U:Nat} {f:SF} {cs:List Value} (h:f.Rep w U cs):cs.length=8:=by
 cases f with
 | mk=>obtain ⟨_,rfl,_⟩:=h;rfl
theorem Trs.Rep.get {w:World} {U q:Nat}:∀ {l:Trs} {o:Nat},l.Rep w U q o->∀ {i:Nat} {t:Tr},l.get i=some t->∃ c,qb w q (o+i*5) c/\t.Rep w U c
 | .nil,_,_,_,_,h=>by cases h
 | .cons t r,o,⟨h1,h2⟩,i,u,h=>by
  cases i with
  | zero =>
   simp only[Trs.get,Option.some.injEq] at h
   subst h
   simpa using h1
  | succ i =>
   obtain ⟨c,h3,h4⟩:=Trs.Rep.get (l:=r) h2 (i:=i) h
   exact ⟨c,by rwa [show o+5+i*5=o+(i+1)*5 by omega] at h3,h4⟩
theorem SFs.Rep.get {w:World} {U q:Nat}:∀ {l:SFs} {o:Nat},l.Rep w U q o->∀ {i:Nat} {t:SF},l.get i=some t->∃ c,qb w q (o+i*8) c/\t.Rep w U c
 | .nil,_,_,_,_,h=>by cases h
 | .cons t r,o,⟨h1,h2⟩,i,u,h=>by
  cases i with
  | zero =>
   simp only[SFs.get,Option.some.injEq] at h
   subst h
   simpa using h1
  | succ i =>
   obtain ⟨c,h3,h4⟩:=SFs.Rep.get (l:=r) h2 (i:=i) h
   exact ⟨c,by rwa [show o+8+i*8=o+(i+1)*8 by omega] at h3,h4⟩
theorem xO.below {w w':World} {U:Nat} {v:Value} {l:List UInt8} (h:xO w U v l) (hw:Below U w w'):xO w' U v l:=by
 rcases h with h | ⟨q,o,cap,h1,h2,h3,h4⟩
 ·exact .inl h
 ·exact .inr ⟨q,o,cap,h1,h2,h3,h4.below hw h3⟩
theorem kJ.below {w w':World} {U:Nat} {v:Value} {u:List (Nat × List UInt8)} (h:kJ w U v u) (hw:Below U w w'):kJ w' U v u:=by
 rcases h with h | ⟨q,o,cap,h1,h2,h3,h4⟩
 ·exact .inl h
 ·refine .inr ⟨q,o,cap,h1,h2,h3,fun i x hx=>?_⟩
  obtain ⟨sv,h0,h5,h6⟩:=h4 i x hx
  exact ⟨sv,h0,h5.below hw h3,h6.below hw⟩
mutual
theorem Tr.Rep.below {w w':World} {U:Nat} (hw:Below U w w'):∀ {t:Tr} {cs:List Value},t.Rep w U cs->t.Rep w' U cs
 | .mk n s nl l u,cs,⟨sv,lv,uv,h1,h2,h3,h4⟩=>by
  refine ⟨sv,lv,uv,h1,h2.below hw,h3.below hw,?_⟩
  rcases h4 with h4 | ⟨q,o,cap,h5,h6,h7,h8⟩
  ·exact .inl h4
  ·exact .inr ⟨q,o,cap,h5,h6,h7,Trs.Rep.below hw h7 h8⟩
theorem Trs.Rep.below {w w':World} {U q:Nat} (hw:Below U w w') (hq:q<U):∀ {l:Trs} {o:Nat},l.Rep w U q o->l.Rep w' U q o
 | .nil,_,_=>trivial
 | .cons t r,o,⟨⟨c,h1,h2⟩,h3⟩=>⟨⟨c,h1.below hw hq,Tr.Rep.below hw h2⟩,Trs.Rep.below hw hq h3⟩
end
mutual
theorem SF.Rep.below {w w':World} {U:Nat} (hw:Below U w w'):∀ {t:SF} {cs:List Value},t.Rep w U cs->t.Rep w' U cs
 | .mk kind fr to nul tag df el sub,cs,⟨sv,h1,h4⟩=>by
  refine ⟨sv,h1,?_⟩
  rcases h4 with h4 | ⟨q,o,cap,h5,h6,h7,h8⟩
  ·exact .inl h4
  ·exact .inr ⟨q,o,cap,h5,h6,h7,SFs.Rep.below hw h7 h8⟩
theorem SFs.Rep.below {w w':World} {U q:Nat} (hw:Below U w w') (hq:q<U):∀ {l:SFs} {o:Nat},l.Rep w U q o->l.Rep w' U q o
 | .nil,_,_=>trivial
 | .cons t r,o,⟨⟨c,h1,h2⟩,h3⟩=>⟨⟨c,h1.below hw hq,SF.Rep.below hw h2⟩,SFs.Rep.below hw hq h3⟩
end
section
variable {P : Program} {a : Act} {w : World} {r : List Oper} {Q : Exit → Act → World → Prop}
end
def SF.has:SF->Int->Bool
 | .mk _ fr to _ _ _ _ _,v=>decide (fr<=v)&&(decide (to<0)||decide (v<=to))
def SF.isNull:SF->Int->Tr->Bool
 | .mk _ _ _ nul _ _ _ _,v,.mk _ _ nl _ _=>nl&&decide (nul ≥ 0)&&decide (v ≥ nul)
section
variable {P : Program} {E : Env} {w : World} {U : Nat}
end
end Go.Km
namespace Go.Km
open Go Go.RowKit
attribute [local irreducible] vc rO_ qz qI qF
section
variable {P : Program} {a : Act} {w : World} {r : List Oper} {Q : Exit → Act → World → Prop}
def vH (P:Program) (t:TypeId):Option (List (Nat × Nat) × Array Value) :=
 match P.underlying t,P.info? t with
 | some (.struct fs),some it =>
  match it.zero,fs.toList.mapM (fun f=>(P.info? f.type).map fun i=>(f.offset,i.size)) with
  | some z,some pl=>some (pl,z.cells)
  | _,_=>none
 | _,_=>none
theorem run_buildL {t:TypeId} {pl:List (Nat × Nat)} {z cells:Array Value} {parts:Array (Nat × Value)} (h:vH P t=some (pl,z)) (hf:Instr.fill (pl.toArray[·]?) z parts.toList=some cells) :
  (Instr.build t parts).run P w=.ok (.agg cells) w:=by
 refine run_build w t parts cells ?_
 unfold vH at h
 split at h
 ·rename_i fs it hu hi
  split at h
  ·rename_i z' pl' hz hp
   simp only[Option.some.injEq,Prod.mk.injEq] at h
   obtain ⟨rfl,rfl⟩:=h
   unfold Program.built
   rw[hi,hu]
   simp only[hz,hp]
   exact hf
  ·cases h
 ·cases h
theorem z9 {d t ps ty p af g pl z cells} (h:vH P t=some (pl,z)) (hf:Instr.fill (pl.toArray[·]?) z (ps.map fun (x:Nat × Operand)=>(x.1,a.eval x.2)).toList=some cells)
  (hn:rO_ P Q r (a.put (some d) (.agg cells)) w):rO_ P Q (⟨some d,.build t ps,ty,p,af,g⟩::r) a w:=by
 refine st ?_
 have hr:(Instr.build t (ps.map fun (i,x)=>(i,a.eval x))).run P w=.ok (.agg cells) w:=run_buildL h hf
 simp only[Oper.wp,execOp,Sem.run_bind,hr,Sem.run_pure,Result.andThen_ok,Oper.upon_value]
 exact hn
theorem zd {t:Nat} {T:TypeId} {b o:Nat} {cs:List Value} (h:a.eval (.tmp t)=.pointer (some ⟨b,o,none⟩)) (hT:zb P T=some cs.length) (hc:qb w b o cs) :
  (results { (default:Func) with results:=#[.cell t T] } a.tmps).run P w=.ok (.agg cs.toArray) w:=by
 obtain ⟨h1,h2⟩:=gI hT
 have hl:(loadVar T ⟨b,o,none⟩).run P w=.ok (.agg cs.toArray) w:=by
  simp only[loadVar,Sem.run_bind,h1,Result.andThen_ok,if_true,h2,kS hc,Sem.run_pure]
 have h':a.tmps[t]?.getD undef=.pointer (some ⟨b,o,none⟩):=by simpa [Act.eval] using h
 simp[results,h',asAddr,hl]
end
section
variable {P : Program} {E : Env} {w : World} {U : Nat}
theorem xD {P:Program} {t:TypeId} {pl:List (Nat × Nat)} {z:Array Value} (h:vH P t=some (pl,z)):∃ v,qH P t=some v/\v.cells=z:=by
 unfold vH at h
 split at h
 ·rename_i fs it hu hi
  split at h
  ·rename_i z' pl' hz hp
   simp only[Option.some.injEq,Prod.mk.injEq] at h
   exact ⟨z',by simp[qH,hi,hz],h.2⟩
  ·cases h
 ·cases h
theorem xO.one {w:World} {U:Nat} {v:Value} {l:List UInt8} (h:xO w U v l):v.oneCell'=true:=by
 rcases h with ⟨⟨_,_,rfl⟩,_⟩ | ⟨q,o,cap,rfl,_⟩<;>rfl
theorem Tr.Rep.one {w:World} {U:Nat} {t:Tr} {cs:List Value} (h:t.Rep w U cs):∀ v ∈ cs,v.oneCell'=true:=by
 cases t with
 | mk n s nl l u =>
  obtain ⟨sv,lv,uv,rfl,h1,h2,h3⟩:=h
  have e1:=h1.one
  have e2:uv.oneCell'=true:=by rcases h2 with ⟨⟨_,_,rfl⟩,_⟩ | ⟨q,o,cap,rfl,_⟩<;>rfl
  have e3:lv.oneCell'=true:=by rcases h3 with ⟨⟨_,_,rfl⟩,_⟩ | ⟨q,o,cap,rfl,_⟩<;>rfl
  intro v hv
  simp only[List.mem_cons,List.not_mem_nil,or_false] at hv
  rcases hv with rfl | rfl | rfl | rfl | rfl<;>first | rfl | assumption
theorem SF.Rep.one {w:World} {U:Nat} {f:SF} {cs:List Value} (h:f.Rep w U cs):∀ v ∈ cs,v.oneCell'=true:=by
 cases f with
 | mk =>
  obtain ⟨sv,rfl,h3⟩:=h
  have e3:sv.oneCell'=true:=by rcases h3 with ⟨rfl,_⟩ | ⟨q,o,cap,rfl,_⟩<;>rfl
  intro v hv
  simp only[List.mem_cons,List.not_mem_nil,or_false] at hv
  rcases hv with rfl | rfl | rfl | rfl | rfl | rfl | rfl | rfl<;>first | rfl | assumption
end
end Go.Km
namespace Go.Km
open Go Go.RowKit
attribute [local irreducible] vc rO_ qz qI qF
def xn (w:World) (v:Value) (l:List UInt8):Prop :=
 (v=.slice none 0 0/\l=[])\/∃ q o cap,v=.slice (some ⟨q,o,none⟩) l.length cap/\qb w q o (l.map bv)
theorem xn.of_own {w:World} {U:Nat} {e:TypeId} {v:Value} {l:List UInt8} (h:w.ownsRow U e 1 v l.length (l.map bv)):xn w v l:=by
 rcases h.2 with ⟨rfl,h0⟩ | ⟨g,cap,cur,rfl,hbg,hg,hnc,hcm,hcs,htake⟩
 ·exact .inl ⟨rfl,List.eq_nil_of_length_eq_zero h0⟩
 ·refine .inr ⟨g,0,cap,rfl,?_⟩
  intro j u hu
  have:=h.cells (g:=g) rfl j u hu
  rwa [Addr.add_lit] at this
theorem xn.form {w:World} {v:Value} {l:List UInt8} (h:xn w v l):∃ ad cap,v=.slice ad l.length cap:=by
 rcases h with ⟨rfl,rfl⟩ | ⟨q,o,cap,rfl,_⟩<;>exact ⟨_,_,rfl⟩
theorem xn.at {w:World} {v:Value} {l:List UInt8} (h:xn w v l) {i:Nat} (hi:i<l.length):∃ q o cap,v=.slice (some ⟨q,o,none⟩) l.length cap/\w.cell? ⟨q,o+i,none⟩=some (.int .u8 (l[i]).toNat):=by
 rcases h with ⟨rfl,rfl⟩ | ⟨q,o,cap,rfl,hc⟩
 ·simp at hi
 ·refine ⟨q,o,cap,rfl,?_⟩
  exact hc i (bv l[i]) (by simp[hi])
theorem cell_heap {w w':World} (h:w'.heap=w.heap) (p:Addr):w'.cell? p=w.cell? p:=by
 unfold World.cell?
 rw[h]
theorem xn.heap {w w':World} (h:w'.heap=w.heap) {v:Value} {l:List UInt8} (hr:xn w v l):xn w' v l:=by
 rcases hr with hr | ⟨q,o,cap,h1,h2⟩
 ·exact .inl hr
 ·exact .inr ⟨q,o,cap,h1,fun i u hu=>by rw[cell_heap h];exact h2 i u hu⟩
section
variable {P : Program} {a : Act} {w : World} {Q : Exit → Act → World → Prop}
theorem xh {ops:List Oper} (ord:List (Nat × Bool)) (S:World->Prop) (hm:P.follows .mixedOrders=true) (hs:Region.noSelect ops.toArray=true) (hl:ord.length=ops.length) (hB:ordB ops.toArray ord (Array.replicate ops.length false)=true)
  (hQ:∀ c a a' w,Q (.panic c) a w->Q (.panic c) a' w) (h:qF P ops Q S ord a { w with drawn:=w.drawn+1 }):vc P (rgd ops) Q a w:=vc_runD ord S hm hs hl hB hQ h
end
section
variable {P : Program} {E : Env} {w : World} {U : Nat}
set_option maxHeartbeats 600000 in
theorem wk (hrw:xd P E.tB E.tU8 1=true) (hU8:qQ P E.tU8=true) (hmix:P.follows .mixedOrders=true) (ht:Text P E.sSame 2 26 #[.tmp 4] (gA E)) {v1 v2:Value} {xs ys:List UInt8} (h1:xn w v1 xs) (h2:xn w v2 ys) (hb1:xs.length<=big) (hb2:ys.length<=big) :
  qa P E.sSame #[v1,v2] w fun r w'=>r=.bool (decide (xs=ys))/\Below U w w':=by
 unfold big at hb1 hb2
 refine qa.enter ht (by simp) ?_
 intro a hsz hdf harg
 have e0:=harg 0 v1 (by simp)
 have e1:=harg 1 v2 (by simp)
 have hsl:=rB hrw
 obtain ⟨ad1,cap1,f1⟩:=h1.form
 obtain ⟨ad2,cap2,f2⟩:=h2.form
 unfold gA
 refine vX (rA (dn (vS (vX (rM ?_)))))
 refine qY (ad:=ad1) (n:=xs.length) (c:=cap1) hsl (by simp (disch:=(try simp only[sP]);omega) only[eV,e0,f1]) ?_
 refine rM ?_
 refine qY (ad:=ad2) (n:=ys.length) (c:=cap2) hsl (by simp (disch:=(try simp only[sP]);omega) only[eV,e1,f2]) ?_
 refine r_neq (k:=.i64) (m:=(xs.length:Int)) (n:=(ys.length:Int)) (by simp (disch:=(try simp only[sP]);omega) only[eV]) (by simp (disch:=(try simp only[sP]);omega) only[eV]) ?_
 refine dn ?_
 refine vS (vC (t:=((xs.length:Int) != (ys.length:Int))) (by (try simp (disch:=(try simp only[sP]);omega) only[eV])<;>(first | rfl | assumption)) ?_ ?_)
 ·intro hne
  have hne':¬ xs=ys:=by
   intro he
   subst he
   simp at hne
  refine vX (rA (dn (vS (vT ?_))))
  exact ⟨by simp only[dF];exact hdf,_,rO (by (try simp (disch:=(try simp only[sP]);omega) only[eV])<;>(first | rfl | assumption)),by simp[hne'],Below.refl _ _⟩
 intro heq
 have hlen:xs.length=ys.length:=by simp only[bne_eq_false_iff_eq] at heq;omega
 refine vK (vN (vS (vX (rM ?_))))
 refine qY (ad:=ad1) (n:=xs.length) (c:=cap1) hsl (by simp (disch:=(try simp only[sP]);omega) only[eV,e0,f1]) ?_
 refine rM (dn ?_)
 refine vS (qh (xH (fun m A W=>m<=xs.length/\A.tmps.size=26/\A.defers=[]/\A.eval (.tmp 0)=v1/\A.eval (.tmp 1)=v2/\A.eval (.tmp 12)=.int .i64 (xs.length:Int)/\A.eval (.tmp 13)=.int .i64 ((xs.length-m:Nat):Int) ∧
  W.heap=w.heap/\Below U w W/\∀ j (h:j<xs.length),j<xs.length-m->xs[j]=ys[j]'(by omega)) xs.length ?_ ?_ ?_))
 ·refine ⟨Nat.le_refl _,by simp only[zP];exact hsz,by simp only[dF];exact hdf,(by simp (disch:=(try simp only[sP]);omega) only[eV,e0]),(by simp (disch:=(try simp only[sP]);omega) only[eV,e1]),(by simp (disch:=(try simp only[sP]);omega) only[eV]),?_,rfl,Below.refl _ _,fun j h h'=>by omega⟩
  simp (disch:=(try simp only[sP]);omega) only[eV]
  simp
 ·rintro m A W ⟨hm,hs,hd,g0,g1,g12,g13,hheap,hbl,hall⟩
  have hi:xs.length-(m+1)<xs.length:=by omega
  generalize hii:xs.length-(m+1)=i at *
  have r1:=h1.heap hheap
  have r2:=h2.heap hheap
  obtain ⟨q1,o1,c1,k1,l1⟩:=r1.at hi
  obtain ⟨q2,o2,c2,k2,l2⟩:=r2.at (show i<ys.length by omega)
  obtain ⟨x8,hx8⟩:∃ x8:Nat,(xs[i]).toNat=x8:=⟨_,rfl⟩
  obtain ⟨y8,hy8⟩:∃ y8:Nat,(ys[i]'(by omega)).toNat=y8:=⟨_,rfl⟩
  rw[hx8] at l1
  rw[hy8] at l2
  refine vX ?_
  refine qW (k:=.i64) (m:=(i:Int)) (n:=(xs.length:Int)) g13 g12 ?_
  refine dn ?_
  refine vS (vC (t:=true) ?_ ?_ (fun h=>by cases h))
  ·simp (disch:=(try simp only[sP]);omega) only[eV]
   simp only[Value.bool.injEq,decide_eq_true_eq]
   omega
  intro _
  refine vK ?_
  refine vS (qh (vX ?_))
  refine rM (rA (dn ?_))
  refine vS (xh [(0,true),(1,true),(2,true),(3,true),(4,true),(5,true),(6,true),(7,true),(8,true)] (fun W'=>W'.heap=W.heap) hmix (by kernel_rfl) rfl (by kernel_rfl) (fun _ _ _ _ h=>False.elim h) ?_)
  have hS:({ W with drawn:=W.drawn+1 }:World).heap=W.heap:=rfl
  have hs0:=hs
  refine dP rfl rfl rfl (wN rfl) (by simp only[zP,hs];decide) hS (fun w' hS'=>rM (dn ⟨rfl,rfl,rfl⟩)) ?_
  refine dP rfl rfl rfl (wN rfl) (by simp only[zP,hs];decide) hS (fun w' hS'=>rM (dn ⟨rfl,rfl,rfl⟩)) ?_
  refine dP rfl rfl rfl (wN rfl) (by simp only[zP,hs];decide) hS (fun w' hS'=>qA (k:=.i64) (j:=i) (b:=q1) (o:=o1) (len:=xs.length) (cap:=c1) hsl (by simp (disch:=(try simp only[sP]);omega) only[eV,g0,k1]) (by simp (disch:=(try simp only[sP]);omega) only[eV,g13]) hi (dn ⟨rfl,rfl,rfl⟩)) ?_
  refine dP rfl rfl rfl (wN rfl) (by simp only[zP,hs];decide) hS (fun w' hS'=>rL (b:=q1) (o:=o1+i*1) (by simp (disch:=(try simp only[sP]);omega) only[eV]) hU8 (by rw[cell_heap hS',Nat.mul_one];exact l1) (dn ⟨rfl,rfl,rfl⟩)) ?_
  refine dP rfl rfl rfl (wN rfl) (by simp only[zP,hs];decide) hS (fun w' hS'=>rM (dn ⟨rfl,rfl,rfl⟩)) ?_
  refine dP rfl rfl rfl (wN rfl) (by simp only[zP,hs];decide) hS (fun w' hS'=>rM (dn ⟨rfl,rfl,rfl⟩)) ?_
  refine dP rfl rfl rfl (wN rfl) (by simp only[zP,hs];decide) hS (fun w' hS'=>qA (k:=.i64) (j:=i) (b:=q2) (o:=o2) (len:=ys.length) (cap:=c2) hsl (by simp (disch:=(try simp only[sP]);omega) only[eV,g1,k2]) (by simp (disch:=(try simp only[sP]);omega) only[eV,g13]) (by omega) (dn ⟨rfl,rfl,rfl⟩)) ?_
  refine dP rfl rfl rfl (wN rfl) (by simp only[zP,hs];decide) hS (fun w' hS'=>rL (b:=q2) (o:=o2+i*1) (by simp (disch:=(try simp only[sP]);omega) only[eV]) hU8 (by rw[cell_heap hS',Nat.mul_one];exact l2) (dn ⟨rfl,rfl,rfl⟩)) ?_
  refine dP rfl rfl rfl (wN rfl) (by simp only[zP,hs];decide) hS (fun w' hS'=>r_neq (k:=.u8) (m:=(x8:Int)) (n:=(y8:Int)) (by simp (disch:=(try simp only[sP]);omega) only[eV]) (by simp (disch:=(try simp only[sP]);omega) only[eV]) (dn ⟨rfl,rfl,rfl⟩)) ?_
  refine xx ?_
  have hbl':Below U w { W with drawn:=W.drawn+1 }:=⟨hbl.os,hbl.tape,hbl.output,hbl.size,hbl.block⟩
  refine vS (vC (t:=((x8:Int) != (y8:Int))) (by (try simp (disch:=(try simp only[sP]);omega) only[eV])<;>(first | rfl | assumption)) ?_ ?_)
  ·intro hne
   have hne':¬ xs=ys:=by
    intro he
    subst he
    rw[hx8] at hy8
    subst hy8
    simp at hne
   refine vX (rA (dn (vS (vT ?_))))
   exact ⟨by simp only[dF];exact hd,_,rO (by (try simp (disch:=(try simp only[sP]);omega) only[eV])<;>(first | rfl | assumption)),by simp[hne'],hbl'⟩
  ·intro hq
   have hxy:xs[i]=ys[i]'(by omega):=by
    have:(xs[i]).toNat=(ys[i]'(by omega)).toNat:=by
     simp only[bne_eq_false_iff_eq] at hq
     rw[hx8,hy8]
     omega
    exact UInt8.toNat_inj.1 this
   refine vK (vN (vX ?_))
   refine xP (k:=.i64) (m:=(i:Int)) (n:=1) (by simp (disch:=(try simp only[sP]);omega) only[eV,g13]) rfl ?_
   refine rM (dn (vN ?_))
   refine ⟨by omega,by simp only[zP];exact hs,by simp only[dF];exact hd,(by simp (disch:=(try simp only[sP]);omega) only[eV,g0]),(by simp (disch:=(try simp only[sP]);omega) only[eV,g1]),(by simp (disch:=(try simp only[sP]);omega) only[eV,g12]),?_,hheap,hbl',fun j h h'=>?_⟩
   ·simp (disch:=(try simp only[sP]);omega) only[eV]
    rw[wrap_i64 (by omega) (by omega)]
    congr 1
    omega
   ·by_cases hj:j=i
    ·subst hj;exact hxy
    ·exact hall j h (by omega)
 ·rintro A W ⟨hm,hs,hd,g0,g1,g12,g13,hheap,hbl,hall⟩
  have hxy:xs=ys:=List.ext_getElem hlen (fun j h h'=>hall j h (by omega))
  refine vX ?_
  refine qW (k:=.i64) (m:=((xs.length-0:Nat):Int)) (n:=(xs.length:Int)) g13 g12 ?_
  refine dn ?_
  refine vS (vC (t:=false) ?_ (fun h=>by cases h) ?_)
  ·simp (disch:=(try simp only[sP]);omega) only[eV]
   simp only[Value.bool.injEq,decide_eq_false_iff_not]
   omega
  intro _
  refine xc ?_
  simp only[Exit.then,Exit.inBlock,if_true]
  refine vN (vX (rA (dn (vS (vT ?_)))))
  exact ⟨by simp only[dF];exact hd,_,rO (by (try simp (disch:=(try simp only[sP]);omega) only[eV])<;>(first | rfl | assumption)),by simp[hxy],hbl⟩
end
end Go.Km
namespace Go.Km
open Go Go.RowKit
attribute [local irreducible] vc rO_ qz qI qF
abbrev RSt:=List UInt8 × Bool
def beN (l:List UInt8):Nat:=l.foldl (fun n b=>n*256+b.toNat) 0
def rdN (k:Nat) (st:RSt):Nat × RSt:=if st.1.length<k then (0,[],true) else (beN (st.1.take k),st.1.drop k,st.2)
def j5 (W:World) (sb:Nat) (v:Value) (l:List UInt8):Prop :=
 (v=.slice none 0 0/\l=[])\/∃ o cap,v=.slice (some ⟨sb,o,none⟩) l.length cap/\l.length<=cap/\qb W sb o (l.map bv)
structure RdS (W:World) (rb sb:Nat) (st:RSt):Prop where
 ne:rb≠sb
 lt:sb<W.heap.size
 cells:∃ v,qb W rb 0 [v,.bool st.2]/\j5 W sb v st.1
 f0:qq W rb 0
 f1:qq W rb 1
 len:st.1.length<=big
abbrev RM (rb:Nat):Nat->Nat->Prop:=fun k i=>k=rb/\i<2
theorem j5.one {W:World} {sb:Nat} {v:Value} {l:List UInt8} (h:j5 W sb v l):v.oneCell'=true:=by
 rcases h with ⟨rfl,_⟩ | ⟨o,cap,rfl,_⟩<;>rfl
theorem j5.form {W:World} {sb:Nat} {v:Value} {l:List UInt8} (h:j5 W sb v l):∃ ad cap,v=.slice ad l.length cap/\l.length<=cap:=by
 rcases h with ⟨rfl,rfl⟩ | ⟨o,cap,rfl,h,_⟩<;>exact ⟨_,_,rfl,by first | exact Nat.le_refl _ | exact h⟩
theorem j5.heap {W W':World} {sb:Nat} {v:Value} {l:List UInt8} (h:j5 W sb v l) (hk:W'.heap[sb]? = W.heap[sb]?):j5 W' sb v l:=by
 rcases h with h | ⟨o,cap,h1,h2,h3⟩
 ·exact .inl h
 ·refine .inr ⟨o,cap,h1,h2,fun i u hu=>?_⟩
  have:=h3 i u hu
  simp only[World.cell?] at this ⊢
  rw[hk]
  exact this
theorem j5.skip {W:World} {sb:Nat} {v:Value} {l:List UInt8} {ad:Option Addr} {cap n:Nat} (h:j5 W sb v l) (hv:v=.slice ad l.length cap) (hn:n<=l.length) :
  j5 W sb (.slice (if cap=n then ad else ad.map (·.add (n*1))) (l.length-n) (cap-n)) (l.drop n):=by
 rcases h with ⟨h1,h2⟩ | ⟨o,c,h1,h2,h3⟩
 ·subst h2
  rw[h1] at hv
  simp only[Value.slice.injEq,List.length_nil] at hv
  obtain ⟨rfl,_,rfl⟩:=hv
  have:n=0:=by simpa using hn
  subst this
  exact .inl ⟨by simp,by simp⟩
 ·rw[h1] at hv
  simp only[Value.slice.injEq,true_and] at hv
  obtain ⟨rfl,rfl⟩:=hv
  by_cases he:c=n
  ·subst he
   have hl:l.length=c:=by omega
   rw[if_pos rfl]
   refine .inr ⟨o,0,by rw[List.length_drop,Nat.sub_self],by rw[List.length_drop];omega,fun i u hu=>?_⟩
   rw[List.drop_eq_nil_of_le (by omega)] at hu
   simp at hu
  ·rw[if_neg he]
   refine .inr ⟨o+n,c-n,?_,by rw[List.length_drop];omega,?_⟩
   ·rw[List.length_drop,Nat.mul_one]
    simp[Addr.add_lit]
   ·intro i u hu
    rw[List.map_drop,List.getElem?_drop] at hu
    have:=h3 _ u hu
    rwa [show o+(n+i)=o+n+i by omega] at this
theorem RdS.below {W W':World} {rb sb:Nat} {st:RSt} {B:Nat} (h:RdS W rb sb st) (hb:Below B W W') (h1:rb<B) (h2:sb<B):RdS W' rb sb st:=by
 obtain ⟨v,h3,h4⟩:=h.cells
 have hk:W'.heap[sb]? = W.heap[sb]?:=hb.block sb h2
 exact ⟨h.ne,Nat.lt_of_lt_of_le h.lt hb.size,⟨v,h3.below hb h1,h4.heap hk⟩,⟨by rw[hb.cell (p:=⟨rb,0,none⟩) h1];exact h.f0.1,by rw[hb.frozen (p:=⟨rb,0,none⟩) h1];exact h.f0.2⟩,
  ⟨by rw[hb.cell (p:=⟨rb,1,none⟩) h1];exact h.f1.1,by rw[hb.frozen (p:=⟨rb,1,none⟩) h1];exact h.f1.2⟩,h.len⟩
theorem RdS.rb_lt {W:World} {rb sb:Nat} {st:RSt} (h:RdS W rb sb st):rb<W.heap.size:=h.f0.lt
theorem RdS.set {W:World} {rb sb:Nat} {st:RSt} (h:RdS W rb sb st) {v:Value} {l:List UInt8} (hv:j5 W sb v l) (hl:l.length<=big):RdS (W.setCell ⟨rb,0,none⟩ v) rb sb (l,st.2)/\Eff (RM rb) W (W.setCell ⟨rb,0,none⟩ v):=by
 have hE:Eff (fun k i=>k=rb/\i=0) W (W.setCell ⟨rb,0,none⟩ v):=(Eff.refl _ W).setCell _ _ _ (fun _=>⟨rfl,rfl⟩)
 obtain ⟨v0,h3,h4⟩:=h.cells
 refine ⟨⟨h.ne,Nat.lt_of_lt_of_le h.lt hE.size,⟨v,?_,hv.heap (Below.heap_setCell W _ _ sb (Ne.symm h.ne))⟩,h.f0.eff hE,h.f1.eff hE,hl⟩,hE.mono (fun k i _ h=>⟨h.1,by omega⟩)⟩
 intro i u hu
 match i,hu with
 | 0,hu =>
  simp only[List.getElem?_cons_zero,Option.some.injEq] at hu
  subst hu
  exact qo v h.f0.1
 | 1,hu =>
  rw[xE _ (.inr (by omega))]
  exact h3 1 u hu
theorem RdS.fail {W:World} {rb sb:Nat} {st:RSt} (h:RdS W rb sb st):RdS ((W.setCell ⟨rb,1,none⟩ (.bool true)).setCell ⟨rb,0,none⟩ (.slice none 0 0)) rb sb ([],true)/\Eff (RM rb) W ((W.setCell ⟨rb,1,none⟩ (.bool true)).setCell ⟨rb,0,none⟩ (.slice none 0 0)):=by
 have hE:Eff (fun k i=>k=rb/\i=1) W (W.setCell ⟨rb,1,none⟩ (.bool true)):=(Eff.refl _ W).setCell _ _ _ (fun _=>⟨rfl,rfl⟩)
 obtain ⟨v0,h3,h4⟩:=h.cells
 have h1:RdS (W.setCell ⟨rb,1,none⟩ (.bool true)) rb sb (st.1,true):=by
  refine ⟨h.ne,Nat.lt_of_lt_of_le h.lt hE.size,⟨v0,?_,h4.heap (Below.heap_setCell W _ _ sb (Ne.symm h.ne))⟩,h.f0.eff hE,h.f1.eff hE,h.len⟩
  intro i u hu
  match i,hu with
  | 0,hu =>
   rw[xE _ (.inr (by omega))]
   exact h3 0 u hu
  | 1,hu =>
   simp only[List.getElem?_cons_succ,List.getElem?_cons_zero,Option.some.injEq] at hu
   subst hu
   exact qo _ h.f1.1
 have h2:=h1.set (v:=.slice none 0 0) (l:=[]) (.inl ⟨rfl,rfl⟩) (Nat.zero_le _)
 exact ⟨h2.1,(hE.mono (fun k i _ h=>⟨h.1,by omega⟩)).trans h2.2⟩
def NN (W:World) (rb:Nat):Prop:=∃ a n c y,qb W rb 0 [.slice (some a) n c,y]
theorem NN.below {W W':World} {rb B:Nat} (h:NN W rb) (hb:Below B W W') (h1:rb<B):NN W' rb:=by
 obtain ⟨a,n,c,y,h⟩:=h
 exact ⟨a,n,c,y,h.below hb h1⟩
theorem RdS.set_nn {W:World} {rb sb:Nat} {st:RSt} (h:RdS W rb sb st) {v:Value} {l:List UInt8} {ad:Option Addr} {cap n:Nat} (hs:j5 W sb v st.1) (hc:qb W rb 0 [v,.bool st.2]) (hv:v=.slice ad st.1.length cap) (hn:n<=st.1.length) (hp:0<n\/NN W rb) {k m:Nat} :
  NN (W.setCell ⟨rb,0,none⟩ (.slice (if cap=n then ad else ad.map (·.add (n*1))) k m)) rb:=by
 have hsome:∃ a,ad=some a:=by
  rcases hp with hp | ⟨a,n',c,y,hc'⟩
  ·rcases hs with ⟨_,h0⟩ | ⟨o,c,h1,_⟩
   ·rw[h0] at hn;simp at hn;omega
   ·rw[h1] at hv
    simp only[Value.slice.injEq] at hv
    exact ⟨_,hv.1.symm⟩
  ·have e1:=hc 0 v rfl
   have e2:=hc' 0 _ rfl
   rw[e1] at e2
   simp only[Option.some.injEq] at e2
   rw[hv] at e2
   simp only[Value.slice.injEq] at e2
   exact ⟨_,e2.1⟩
 obtain ⟨a,rfl⟩:=hsome
 obtain ⟨b,hb⟩:∃ b,(if cap=n then some a else (some a).map (·.add (n*1)))=some b:=by
  split
  ·exact ⟨_,rfl⟩
  ·exact ⟨_,rfl⟩
 rw[hb]
 refine ⟨b,k,m,.bool st.2,?_⟩
 intro i u hu
 match i,hu with
 | 0,hu =>
  simp only[List.getElem?_cons_zero,Option.some.injEq] at hu
  subst hu
  exact qo _ h.f0.1
 | 1,hu =>
  rw[xE _ (.inr (by omega))]
  exact hc 1 u hu
structure REnv (P:Program) (E:Env):Prop where
 row:xd P E.tB E.tU8 1=true
 u8:qs P E.tU8=some .u8
 int:qs P E.tI=some .i64
 oBytes:qQ P E.tB=true
 oBool:qQ P E.tO=true
 oU8:qQ P E.tU8=true
 f0:ql P E.tRd 0=some 0
 f1:ql P E.tRd 1=some 1
section
variable {P : Program} {E : Env}
theorem wZ (H:REnv P E) {t X:Nat} {z:Operand} {zv:Value} {T:TypeId} {A:Act} {W:World} {rb sb:Nat} {st:RSt} {Q:Exit->Act->World->Prop} (ht:t+6<=A.tmps.size) (hX:X<A.tmps.size) (hX0:X≠0) (ht0:0<t) (hz:z=.const zv)
  (e0:A.eval (.tmp 0)=.pointer (some ⟨rb,0,none⟩)) (hr:RdS W rb sb st)
  (h:∀ A' W',A'.defers=A.defers->A'.eval (.tmp X)=zv->RdS W' rb sb ([],true)->Eff (RM rb) W W'->Q .ret A' W') :
  vc P (sq [(rg [(oQ t (.move (.tmp 0)) E.tPRd),(oQ (t+1) (.nilCheck (.tmp t)) 0),(oQ (t+2) (.fieldAddr E.tRd (.tmp (t+1)) 1) 0),⟨none,.store E.tO (.tmp (t+2)) (.const (.bool true)),0,"",#[],none⟩]),
   (rg [(oQ (t+3) (.move (.tmp 0)) E.tPRd),(oQ (t+4) (.nilCheck (.tmp (t+3))) 0),(oQ (t+5) (.fieldAddr E.tRd (.tmp (t+4)) 0) 0),⟨none,.store E.tB (.tmp (t+5)) (.const (.slice none 0 0)),0,"",#[],none⟩]),
   (rg [(oQ X (.assign z) T)]),.ret]) Q A W:=by
 have hf:=hr.fail
 refine vX (rM ?_)
 refine qV (ad:=⟨rb,0,none⟩) (by simp (disch:=(try simp only[sP]);omega) only[eV,e0]) ?_
 refine rF (b:=rb) (o:=0) (by simp (disch:=(try simp only[sP]);omega) only[eV]) H.f1 ?_
 refine xq (b:=rb) (o:=0+1) (v:=.bool true) (by simp (disch:=(try simp only[sP]);omega) only[eV]) rfl rfl H.oBool (by simpa using hr.f1) ?_
 refine dn (vX (rM ?_))
 refine qV (ad:=⟨rb,0,none⟩) (by simp (disch:=(try simp only[sP]);omega) only[eV,e0]) ?_
 refine rF (b:=rb) (o:=0) (by simp (disch:=(try simp only[sP]);omega) only[eV]) H.f0 ?_
 have hE:Eff (fun k i=>k=rb/\i=1) W (W.setCell ⟨rb,0+1,none⟩ (.bool true)):=(Eff.refl _ W).setCell _ _ _ (fun _=>⟨rfl,rfl⟩)
 refine xq (b:=rb) (o:=0+0) (v:=.slice none 0 0) (by simp (disch:=(try simp only[sP]);omega) only[eV]) rfl rfl H.oBytes (by simpa using hr.f0.eff hE) ?_
 refine dn (vX (rA (dn (vS (vT ?_)))))
 subst hz
 exact h _ _ (by simp only[dF]) (by simp (disch:=(try simp only[sP]);omega) only[eV]) hf.1 hf.2
theorem r_srcLen (H:REnv P E) {t:Nat} {A:Act} {W:World} {rb sb:Nat} {st:RSt} {r:List Oper} {Q:Exit->Act->World->Prop} (ht:t+5<=A.tmps.size) (ht0:0<t)
  (e0:A.eval (.tmp 0)=.pointer (some ⟨rb,0,none⟩)) (hr:RdS W rb sb st)
  (h:∀ A',A'.tmps.size=A.tmps.size->A'.defers=A.defers->(∀ k:Nat,k<t->A'.eval (.tmp k)=A.eval (.tmp k))->A'.eval (.tmp (t+4))=.int .i64 (st.1.length:Int)->rO_ P Q r A' W) :
  rO_ P Q ((oQ t (.move (.tmp 0)) E.tPRd)::(oQ (t+1) (.nilCheck (.tmp t)) 0)::(oQ (t+2) (.fieldAddr E.tRd (.tmp (t+1)) 0) 0)::(oQ (t+3) (.load E.tB (.tmp (t+2))) E.tB) ::
   (oQ (t+4) (.call { callee:=.builtin .len,args:=#[(.tmp (t+3))],argTypes:=#[E.tB] }) E.tI)::r) A W:=by
 obtain ⟨v,hc,hs⟩:=hr.cells
 obtain ⟨ad,cap,hv,_⟩:=hs.form
 refine rM ?_
 refine qV (ad:=⟨rb,0,none⟩) (by simp (disch:=(try simp only[sP]);omega) only[eV,e0]) ?_
 refine rF (b:=rb) (o:=0) (by simp (disch:=(try simp only[sP]);omega) only[eV]) H.f0 ?_
 refine rL (b:=rb) (o:=0+0) (v:=v) (by simp (disch:=(try simp only[sP]);omega) only[eV]) H.oBytes (hc 0 v rfl) ?_
 refine qY (ad:=ad) (n:=st.1.length) (c:=cap) (rB H.row) (by simp (disch:=(try simp only[sP]);omega) only[eV,hv]) ?_
 exact h _ (by simp only[zP]) (by simp only[dF]) (fun k hk=>(by simp (disch:=(try simp only[sP]);omega) only[eV])) (by simp (disch:=(try simp only[sP]);omega) only[eV])
theorem vz (H:REnv P E) {t n:Nat} {A:Act} {W:World} {rb sb:Nat} {st:RSt} {r:List Oper} {Q:Exit->Act->World->Prop} (ht:t+8<=A.tmps.size) (ht0:0<t) (hn:n<=st.1.length)
  (e0:A.eval (.tmp 0)=.pointer (some ⟨rb,0,none⟩)) (hr:RdS W rb sb st)
  (h:∀ A' W',A'.tmps.size=A.tmps.size->A'.defers=A.defers->(∀ k:Nat,k<t->A'.eval (.tmp k)=A.eval (.tmp k))->RdS W' rb sb (st.1.drop n,st.2)->Eff (RM rb) W W'->(0<n\/NN W rb->NN W' rb)->rO_ P Q r A' W') :
  rO_ P Q ((oQ t (.move (.tmp 0)) E.tPRd)::(oQ (t+1) (.move (.tmp 0)) E.tPRd)::(oQ (t+2) (.nilCheck (.tmp (t+1))) 0)::(oQ (t+3) (.fieldAddr E.tRd (.tmp (t+2)) 0) 0) ::
   (oQ (t+4) (.load E.tB (.tmp (t+3))) E.tB)::(oQ (t+5) (.slice E.tB (.tmp (t+4)) (some (.const (.int .i64 (n:Int)))) none none) E.tB)::(oQ (t+6) (.nilCheck (.tmp t)) 0) ::
   (oQ (t+7) (.fieldAddr E.tRd (.tmp (t+6)) 0) 0)::⟨none,.store E.tB (.tmp (t+7)) (.tmp (t+5)),0,"",#[],none⟩::r) A W:=by
 obtain ⟨v,hc,hs⟩:=hr.cells
 obtain ⟨ad,cap,hv,hcap⟩:=hs.form
 have hsk:=hs.skip hv hn
 have hset:=hr.set hsk (by rw[List.length_drop];have:=hr.len;omega)
 refine rM (rM ?_)
 refine qV (ad:=⟨rb,0,none⟩) (by simp (disch:=(try simp only[sP]);omega) only[eV,e0]) ?_
 refine rF (b:=rb) (o:=0) (by simp (disch:=(try simp only[sP]);omega) only[eV]) H.f0 ?_
 refine rL (b:=rb) (o:=0+0) (v:=v) (by simp (disch:=(try simp only[sP]);omega) only[eV]) H.oBytes (hc 0 v rfl) ?_
 refine jV (ad:=ad) (len:=st.1.length) (cap:=cap) n st.1.length cap (rB H.row) (by simp (disch:=(try simp only[sP]);omega) only[eV,hv]) ⟨.i64,rfl⟩ ⟨rfl,rfl⟩ rfl hn hcap (Nat.le_refl _) ?_
 refine qV (ad:=⟨rb,0,none⟩) (by simp (disch:=(try simp only[sP]);omega) only[eV,e0]) ?_
 refine rF (b:=rb) (o:=0) (by simp (disch:=(try simp only[sP]);omega) only[eV]) H.f0 ?_
 refine xq (b:=rb) (o:=0+0) (by simp (disch:=(try simp only[sP]);omega) only[eV]) (by simp (disch:=(try simp only[sP]);omega) only[eV]) hsk.one H.oBytes (by simpa using hr.f0) ?_
 exact h _ _ (by simp only[zP]) (by simp only[dF]) (fun k hk=>(by simp (disch:=(try simp only[sP]);omega) only[eV])) hset.1 hset.2 (fun hp=>hr.set_nn (l:=[]) hs hc hv hn hp)
theorem r_skipT (H:REnv P E) {t n x:Nat} {kk:IntKind} {A:Act} {W:World} {rb sb:Nat} {st:RSt} {r:List Oper} {Q:Exit->Act->World->Prop} (ht:t+9<=A.tmps.size) (ht0:0<t) (hx:x<t) (hn:n<=st.1.length) (hxv:A.eval (.tmp x)=.int kk (n:Int))
  (e0:A.eval (.tmp 0)=.pointer (some ⟨rb,0,none⟩)) (hr:RdS W rb sb st)
  (h:∀ A' W',A'.tmps.size=A.tmps.size->A'.defers=A.defers->(∀ k:Nat,k<t->A'.eval (.tmp k)=A.eval (.tmp k))->RdS W' rb sb (st.1.drop n,st.2)->Eff (RM rb) W W'->(0<n\/NN W rb->NN W' rb)->rO_ P Q r A' W') :
  rO_ P Q ((oQ t (.move (.tmp 0)) E.tPRd)::(oQ (t+1) (.move (.tmp 0)) E.tPRd)::(oQ (t+2) (.nilCheck (.tmp (t+1))) 0)::(oQ (t+3) (.fieldAddr E.tRd (.tmp (t+2)) 0) 0) ::
   (oQ (t+4) (.load E.tB (.tmp (t+3))) E.tB)::(oQ (t+5) (.move (.tmp x)) E.tI)::(oQ (t+6) (.slice E.tB (.tmp (t+4)) (some (.tmp (t+5))) none none) E.tB)::(oQ (t+7) (.nilCheck (.tmp t)) 0) ::
   (oQ (t+8) (.fieldAddr E.tRd (.tmp (t+7)) 0) 0)::⟨none,.store E.tB (.tmp (t+8)) (.tmp (t+6)),0,"",#[],none⟩::r) A W:=by
 obtain ⟨v,hc,hs⟩:=hr.cells
 obtain ⟨ad,cap,hv,hcap⟩:=hs.form
 have hsk:=hs.skip hv hn
 have hset:=hr.set hsk (by rw[List.length_drop];have:=hr.len;omega)
 refine rM (rM ?_)
 refine qV (ad:=⟨rb,0,none⟩) (by simp (disch:=(try simp only[sP]);omega) only[eV,e0]) ?_
 refine rF (b:=rb) (o:=0) (by simp (disch:=(try simp only[sP]);omega) only[eV]) H.f0 ?_
 refine rL (b:=rb) (o:=0+0) (v:=v) (by simp (disch:=(try simp only[sP]);omega) only[eV]) H.oBytes (hc 0 v rfl) ?_
 refine rM ?_
 refine jV (ad:=ad) (len:=st.1.length) (cap:=cap) n st.1.length cap (rB H.row) (by simp (disch:=(try simp only[sP]);omega) only[eV,hv]) ⟨kk,(by simp (disch:=(try simp only[sP]);omega) only[eV,hxv])⟩ ⟨rfl,rfl⟩ rfl hn hcap (Nat.le_refl _) ?_
 refine qV (ad:=⟨rb,0,none⟩) (by simp (disch:=(try simp only[sP]);omega) only[eV,e0]) ?_
 refine rF (b:=rb) (o:=0) (by simp (disch:=(try simp only[sP]);omega) only[eV]) H.f0 ?_
 refine xq (b:=rb) (o:=0+0) (by simp (disch:=(try simp only[sP]);omega) only[eV]) (by simp (disch:=(try simp only[sP]);omega) only[eV]) hsk.one H.oBytes (by simpa using hr.f0) ?_
 exact h _ _ (by simp only[zP]) (by simp only[dF]) (fun k hk=>(by simp (disch:=(try simp only[sP]);omega) only[eV])) hset.1 hset.2 (fun hp=>hr.set_nn (l:=[]) hs hc hv hn hp)
end
end Go.Km
namespace Go.Km
open Go Go.RowKit
attribute [local irreducible] vc rO_ qz qI qF
theorem j9 (s:Nat) {m b K:Nat} (hK:2 ^ s=K) (hm:m<K):m ||| (b*K)=m+b*K:=by
 subst hK
 rw[← Nat.shiftLeft_eq,Nat.or_comm,← Nat.shiftLeft_add_eq_or_of_lt hm,Nat.add_comm]
def unsK (k:IntKind) (K:Nat):Bool:=(k==.u16&&K==65536)||(k==.u32&&K==4294967296)||(k==.u64&&K==18446744073709551616)
theorem unsK_wrap {k:IntKind} {K:Nat} (h:unsK k K=true) {n:Nat} (hn:n<K):k.wrap (n:Int)=(n:Int):=by
 simp only[unsK,Bool.or_eq_true,Bool.and_eq_true,beq_iff_eq] at h
 rcases h with (⟨rfl,rfl⟩ | ⟨rfl,rfl⟩) | ⟨rfl,rfl⟩
 ·have:IntKind.u16.wrap (n:Int)=(n:Int) % 65536:=by simp[IntKind.wrap,IntKind.bits,IntKind.signed]
  rw[this];omega
 ·rw[jM];omega
 ·rw[zo];omega
section
variable {P : Program} {E : Env} {a : Act} {w : World} {r : List Oper} {Q : Exit → Act → World → Prop}
theorem zf {d s t x ty p af g k' K} {n:Nat} (hs:qs P s=some .u8) (ht:qs P t=some k') (hK:unsK k' K=true) (hx:a.eval x=.int .u8 (n:Int)) (hn:n<2 ^ 8) (h:rO_ P Q r (a.put (some d) (.int k' (n:Int))) w) :
  rO_ P Q (⟨some d,.convert s t x,ty,p,af,g⟩::r) a w:=by
 refine qM hs ht hx ?_
 have:n<K:=by
  simp only[unsK,Bool.or_eq_true,Bool.and_eq_true,beq_iff_eq] at hK
  rcases hK with (⟨_,rfl⟩ | ⟨_,rfl⟩) | ⟨_,rfl⟩<;>omega
 rw[unsK_wrap hK this]
 exact h
theorem jS {d xt x y yt ty p af g k K} {n c mm:Nat} (hK:unsK k K=true) (hx:a.eval x=.int k (n:Int)) (hy:y=.const (.int .u64 (c:Int))) (hm:2 ^ (min c k.bits)=mm) (hb:n*mm<K) (h:rO_ P Q r (a.put (some d) (.int k ((n*mm:Nat):Int))) w) :
  rO_ P Q (⟨some d,.binOp .shl xt x y yt,ty,p,af,g⟩::r) a w:=by
 subst hy
 refine r_shl hx rfl (by simp) ?_
 have:(n:Int)*2 ^ (min ((c:Int).toNat) k.bits)=((n*mm:Nat):Int):=by
  rw[Int.toNat_natCast,← hm]
  push_cast
  rfl
 rw[this,unsK_wrap hK hb]
 exact h
theorem y3 {d xt x y yt ty p af g k K} {m n v:Nat} (hK:unsK k K=true) (hx:a.eval x=.int k (m:Int)) (hy:a.eval y=.int k (n:Int)) (he:m ||| n=v) (hm:m<K) (hn:n<K) (h:rO_ P Q r (a.put (some d) (.int k (v:Int))) w) :
  rO_ P Q (⟨some d,.binOp .or xt x y yt,ty,p,af,g⟩::r) a w:=by
 refine yV (v:=.int k (v:Int)) hx hy (by simp) ?_ h
 subst he
 simp only[unsK,Bool.or_eq_true,Bool.and_eq_true,beq_iff_eq] at hK
 rcases hK with (⟨rfl,rfl⟩ | ⟨rfl,rfl⟩) | ⟨rfl,rfl⟩
 ·show (pure (Value.int .u16 (bits .or .u16 (m:Int) (n:Int))):Sem Value)=_
  rw[u16_or_nat m n hm hn]
 ·show (pure (Value.int .u32 (bits .or .u32 (m:Int) (n:Int))):Sem Value)=_
  rw[u32_or_nat m n hm hn]
 ·show (pure (Value.int .u64 (bits .or .u64 (m:Int) (n:Int))):Sem Value)=_
  rw[u64_or_nat m n hm hn]
end
section
variable {P : Program} {E : Env}
theorem be_u16 (H:REnv P E) (hu:qs P E.tU16=some .u16) (hm:P.follows .mixedOrders=true) (ht:Text P E.bU16 2 18 #[.tmp 4] (c_bU16 E)) {b0 b1:UInt8} {l:List UInt8} {W:World} {sb o cap:Nat} (hl:(b0::b1::l).length<=cap) (hc:qb W sb o ((b0::b1::l).map bv)) (hsb:sb<W.heap.size) :
  qa P E.bU16 #[.agg #[],.slice (some ⟨sb,o,none⟩) (b0::b1::l).length cap] W fun v w'=>v=.int .u16 ((beN [b0,b1]:Nat):Int)/\Below W.heap.size W w':=by
 refine qa.enter ht (by simp) ?_
 intro a hsz hdf harg
 have e0:=harg 0 (.agg #[]) (by simp)
 have e1:=harg 1 (.slice (some ⟨sb,o,none⟩) (b0::b1::l).length cap) (by simp)
 have hsl:=rB H.row
 have hb0:=b0.toNat_lt
 have hb1:=b1.toNat_lt
 unfold c_bU16
 refine vX ?_
 refine xJ (v:=.agg #[]) (by simp (disch:=(try simp only[sP]);omega) only[eV,e0]) ?_
 refine rA (dn ?_)
 have hb:Below W.heap.size W (W.alloc (.cells (Value.agg #[]).cells E.tBE)):=(Below.refl W.heap.size W).alloc (o:=.cells _ _) (Nat.le_refl _)
 have hc1:qb (W.alloc (.cells (Value.agg #[]).cells E.tBE)) sb o ((b0::b1::l).map bv):=hc.below hb hsb
 generalize W.alloc (.cells (Value.agg #[]).cells E.tBE)=V at *
 refine vX (rM ?_)
 refine qA (k:=.i64) (j:=1) (b:=sb) (o:=o) (len:=(b0::b1::l).length) (cap:=cap) hsl (by simp (disch:=(try simp only[sP]);omega) only[eV,e1]) rfl (by simp only[List.length_cons];omega) ?_
 refine rL (b:=sb) (o:=o+1*1) (v:=bv b1) (by simp (disch:=(try simp only[sP]);omega) only[eV]) H.oU8 (hc1 1 _ rfl) ?_
 refine dn ?_
 have hS:(fun W':World=>qb W' sb o ((b0::b1::l).map bv)) { V with drawn:=V.drawn+1 }:=hc1
 refine vS (xh [(0,true),(1,true),(2,true),(3,true),(4,true),(5,true),(6,true),(7,true),(8,true),(9,true),(10,true)] (fun W'=>qb W' sb o ((b0::b1::l).map bv)) hm (by kernel_rfl) rfl (by kernel_rfl) (fun _ _ _ _ h=>False.elim h) ?_)
 refine dP rfl rfl rfl (wN rfl) (by simp only[zP,hsz];decide) hS (fun w' hS'=>rM (dn ⟨rfl,rfl,rfl⟩)) ?_
 refine dP rfl rfl rfl (wN rfl) (by simp only[zP,hsz];decide) hS (fun w' hS'=>qA (k:=.i64) (j:=1) (b:=sb) (o:=o) (len:=(b0::b1::l).length) (cap:=cap) hsl (by simp (disch:=(try simp only[sP]);omega) only[eV,e1]) rfl (by simp only[List.length_cons];omega) (dn ⟨rfl,rfl,rfl⟩)) ?_
 refine dP rfl rfl rfl (wN rfl) (by simp only[zP,hsz];decide) hS (fun w' hS'=>rL (b:=sb) (o:=o+1*1) (v:=bv b1) (by (try simp (disch:=(try simp only[sP]);omega) only[eV])<;>(first | rfl | assumption)) H.oU8 (hS' 1 _ rfl) (dn ⟨rfl,rfl,rfl⟩)) ?_
 refine dP rfl rfl rfl (wN rfl) (by simp only[zP,hsz];decide) hS (fun w' hS'=>zf (K:=65536) (n:=b1.toNat) H.u8 hu (by decide) (by (try simp (disch:=(try simp only[sP]);omega) only[eV])<;>(first | rfl | assumption)) hb1 (dn ⟨rfl,rfl,rfl⟩)) ?_
 refine dP rfl rfl rfl (wN rfl) (by simp only[zP,hsz];decide) hS (fun w' hS'=>rM (dn ⟨rfl,rfl,rfl⟩)) ?_
 refine dP rfl rfl rfl (wN rfl) (by simp only[zP,hsz];decide) hS (fun w' hS'=>qA (k:=.i64) (j:=0) (b:=sb) (o:=o) (len:=(b0::b1::l).length) (cap:=cap) hsl (by simp (disch:=(try simp only[sP]);omega) only[eV,e1]) rfl (by simp only[List.length_cons];omega) (dn ⟨rfl,rfl,rfl⟩)) ?_
 refine dP rfl rfl rfl (wN rfl) (by simp only[zP,hsz];decide) hS (fun w' hS'=>rL (b:=sb) (o:=o+0*1) (v:=bv b0) (by (try simp (disch:=(try simp only[sP]);omega) only[eV])<;>(first | rfl | assumption)) H.oU8 (hS' 0 _ rfl) (dn ⟨rfl,rfl,rfl⟩)) ?_
 refine dP rfl rfl rfl (wN rfl) (by simp only[zP,hsz];decide) hS (fun w' hS'=>zf (K:=65536) (n:=b0.toNat) H.u8 hu (by decide) (by (try simp (disch:=(try simp only[sP]);omega) only[eV])<;>(first | rfl | assumption)) hb0 (dn ⟨rfl,rfl,rfl⟩)) ?_
 refine dP rfl rfl rfl (wN rfl) (by simp only[zP,hsz];decide) hS (fun w' hS'=>jS (k:=.u16) (n:=b0.toNat) (c:=8) (mm:=256) (K:=65536) (by decide) (by simp (disch:=(try simp only[sP]);omega) only[eV]) rfl (by decide) (by omega) (dn ⟨rfl,rfl,rfl⟩)) ?_
 refine dP rfl rfl rfl (wN rfl) (by simp only[zP,hsz];decide) hS (fun w' hS'=>y3 (k:=.u16) (m:=b1.toNat) (n:=b0.toNat*256) (v:=b1.toNat+b0.toNat*256) (K:=65536) (by decide) (by simp (disch:=(try simp only[sP]);omega) only[eV]) (by simp (disch:=(try simp only[sP]);omega) only[eV]) (j9 8 (by decide) (by omega)) (by omega) (by omega) (dn ⟨rfl,rfl,rfl⟩)) ?_
 refine dP rfl rfl rfl (wN rfl) (by simp only[zP,hsz];decide) hS (fun w' hS'=>rA (dn ⟨rfl,rfl,rfl⟩)) ?_
 refine xx ?_
 refine vS (vT ?_)
 refine ⟨by simp only[dF];exact hdf,_,rO (by (try simp (disch:=(try simp only[sP]);omega) only[eV])<;>(first | rfl | assumption)),?_,⟨hb.os,hb.tape,hb.output,hb.size,hb.block⟩⟩
 simp only[Value.int.injEq,true_and,beN,List.foldl]
 omega
theorem be_u32 (H:REnv P E) (hu:qs P E.tW=some .u32) (hm:P.follows .mixedOrders=true) (ht:Text P E.bU32 2 30 #[.tmp 4] (c_bU32 E)) {b0 b1 b2 b3:UInt8} {l:List UInt8} {W:World} {sb o cap:Nat} (hl:(b0::b1::b2::b3::l).length<=cap) (hc:qb W sb o ((b0::b1::b2::b3::l).map bv)) (hsb:sb<W.heap.size) :
  qa P E.bU32 #[.agg #[],.slice (some ⟨sb,o,none⟩) (b0::b1::b2::b3::l).length cap] W fun v w'=>v=.int .u32 ((beN [b0,b1,b2,b3]:Nat):Int)/\Below W.heap.size W w':=by
 refine qa.enter ht (by simp) ?_
 intro a hsz hdf harg
 have e0:=harg 0 (.agg #[]) (by simp)
 have e1:=harg 1 (.slice (some ⟨sb,o,none⟩) (b0::b1::b2::b3::l).length cap) (by simp)
 have hsl:=rB H.row
 have hb0:=b0.toNat_lt
 have hb1:=b1.toNat_lt
 have hb2:=b2.toNat_lt
 have hb3:=b3.toNat_lt
 unfold c_bU32
 refine vX ?_
 refine xJ (v:=.agg #[]) (by simp (disch:=(try simp only[sP]);omega) only[eV,e0]) ?_
 refine rA (dn ?_)
 have hb:Below W.heap.size W (W.alloc (.cells (Value.agg #[]).cells E.tBE)):=(Below.refl W.heap.size W).alloc (o:=.cells _ _) (Nat.le_refl _)
 have hc1:qb (W.alloc (.cells (Value.agg #[]).cells E.tBE)) sb o ((b0::b1::b2::b3::l).map bv):=hc.below hb hsb
 generalize W.alloc (.cells (Value.agg #[]).cells E.tBE)=V at *
 refine vX (rM ?_)
 refine qA (k:=.i64) (j:=3) (b:=sb) (o:=o) (len:=(b0::b1::b2::b3::l).length) (cap:=cap) hsl (by simp (disch:=(try simp only[sP]);omega) only[eV,e1]) rfl (by simp only[List.length_cons];omega) ?_
 refine rL (b:=sb) (o:=o+3*1) (v:=bv b3) (by simp (disch:=(try simp only[sP]);omega) only[eV]) H.oU8 (hc1 3 _ rfl) ?_
 refine dn ?_
 have hS:(fun W':World=>qb W' sb o ((b0::b1::b2::b3::l).map bv)) { V with drawn:=V.drawn+1 }:=hc1
 refine vS (xh [(0,true),(1,true),(2,true),(3,true),(4,true),(5,true),(6,true),(7,true),(8,true),(9,true),(10,true),(11,true),(12,true),(13,true),(14,true),(15,true),(16,true),(17,true),(18,true),(19,true),(20,true),(21,true),(22,true)] (fun W'=>qb W' sb o ((b0::b1::b2::b3::l).map bv)) hm (by kernel_rfl) rfl (by kernel_rfl) (fun _ _ _ _ h=>False.elim h) ?_)
 refine dP rfl rfl rfl (wN rfl) (by simp only[zP,hsz];decide) hS (fun w' hS'=>rM (dn ⟨rfl,rfl,rfl⟩)) ?_
 refine dP rfl rfl rfl (wN rfl) (by simp only[zP,hsz];decide) hS (fun w' hS'=>qA (k:=.i64) (j:=3) (b:=sb) (o:=o) (len:=(b0::b1::b2::b3::l).length) (cap:=cap) hsl (by simp (disch:=(try simp only[sP]);omega) only[eV,e1]) rfl (by simp only[List.length_cons];omega) (dn ⟨rfl,rfl,rfl⟩)) ?_
 refine dP rfl rfl rfl (wN rfl) (by simp only[zP,hsz];decide) hS (fun w' hS'=>rL (b:=sb) (o:=o+3*1) (v:=bv b3) (by (try simp (disch:=(try simp only[sP]);omega) only[eV])<;>(first | rfl | assumption)) H.oU8 (hS' 3 _ rfl) (dn ⟨rfl,rfl,rfl⟩)) ?_
 refine dP rfl rfl rfl (wN rfl) (by simp only[zP,hsz];decide) hS (fun w' hS'=>zf (K:=4294967296) (n:=b3.toNat) H.u8 hu (by decide) (by (try simp (disch:=(try simp only[sP]);omega) only[eV])<;>(first | rfl | assumption)) hb3 (dn ⟨rfl,rfl,rfl⟩)) ?_
 refine dP rfl rfl rfl (wN rfl) (by simp only[zP,hsz];decide) hS (fun w' hS'=>rM (dn ⟨rfl,rfl,rfl⟩)) ?_
 refine dP rfl rfl rfl (wN rfl) (by simp only[zP,hsz];decide) hS (fun w' hS'=>qA (k:=.i64) (j:=2) (b:=sb) (o:=o) (len:=(b0::b1::b2::b3::l).length) (cap:=cap) hsl (by simp (disch:=(try simp only[sP]);omega) only[eV,e1]) rfl (by simp only[List.length_cons];omega) (dn ⟨rfl,rfl,rfl⟩)) ?_
 refine dP rfl rfl rfl (wN rfl) (by simp only[zP,hsz];decide) hS (fun w' hS'=>rL (b:=sb) (o:=o+2*1) (v:=bv b2) (by (try simp (disch:=(try simp only[sP]);omega) only[eV])<;>(first | rfl | assumption)) H.oU8 (hS' 2 _ rfl) (dn ⟨rfl,rfl,rfl⟩)) ?_
 refine dP rfl rfl rfl (wN rfl) (by simp only[zP,hsz];decide) hS (fun w' hS'=>zf (K:=4294967296) (n:=b2.toNat) H.u8 hu (by decide) (by (try simp (disch:=(try simp only[sP]);omega) only[eV])<;>(first | rfl | assumption)) hb2 (dn ⟨rfl,rfl,rfl⟩)) ?_
 refine dP rfl rfl rfl (wN rfl) (by simp only[zP,hsz];decide) hS (fun w' hS'=>jS (k:=.u32) (n:=b2.toNat) (c:=8) (mm:=256) (K:=4294967296) (by decide) (by simp (disch:=(try simp only[sP]);omega) only[eV]) rfl (by decide) (by omega) (dn ⟨rfl,rfl,rfl⟩)) ?_
 refine dP rfl rfl rfl (wN rfl) (by simp only[zP,hsz];decide) hS (fun w' hS'=>y3 (k:=.u32) (m:=b3.toNat) (n:=b2.toNat*256) (v:=b3.toNat+b2.toNat*256) (K:=4294967296) (by decide) (by simp (disch:=(try simp only[sP]);omega) only[eV]) (by simp (disch:=(try simp only[sP]);omega) only[eV]) (j9 8 (by decide) (by omega)) (by omega) (by omega) (dn ⟨rfl,rfl,rfl⟩)) ?_
 refine dP rfl rfl rfl (wN rfl) (by simp only[zP,hsz];decide) hS (fun w' hS'=>rM (dn ⟨rfl,rfl,rfl⟩)) ?_
 refine dP rfl rfl rfl (wN rfl) (by simp only[zP,hsz];decide) hS (fun w' hS'=>qA (k:=.i64) (j:=1) (b:=sb) (o:=o) (len:=(b0::b1::b2::b3::l).length) (cap:=cap) hsl (by simp (disch:=(try simp only[sP]);omega) only[eV,e1]) rfl (by simp only[List.length_cons];omega) (dn ⟨rfl,rfl,rfl⟩)) ?_
 refine dP rfl rfl rfl (wN rfl) (by simp only[zP,hsz];decide) hS (fun w' hS'=>rL (b:=sb) (o:=o+1*1) (v:=bv b1) (by (try simp (disch:=(try simp only[sP]);omega) only[eV])<;>(first | rfl | assumption)) H.oU8 (hS' 1 _ rfl) (dn ⟨rfl,rfl,rfl⟩)) ?_
 refine dP rfl rfl rfl (wN rfl) (by simp only[zP,hsz];decide) hS (fun w' hS'=>zf (K:=4294967296) (n:=b1.toNat) H.u8 hu (by decide) (by (try simp (disch:=(try simp only[sP]);omega) only[eV])<;>(first | rfl | assumption)) hb1 (dn ⟨rfl,rfl,rfl⟩)) ?_
 refine dP rfl rfl rfl (wN rfl) (by simp only[zP,hsz];decide) hS (fun w' hS'=>jS (k:=.u32) (n:=b1.toNat) (c:=16) (mm:=65536) (K:=4294967296) (by decide) (by simp (disch:=(try simp only[sP]);omega) only[eV]) rfl (by decide) (by omega) (dn ⟨rfl,rfl,rfl⟩)) ?_
 refine dP rfl rfl rfl (wN rfl) (by simp only[zP,hsz];decide) hS (fun w' hS'=>y3 (k:=.u32) (m:=b3.toNat+b2.toNat*256) (n:=b1.toNat*65536) (v:=b3.toNat+b2.toNat*256+b1.toNat*65536) (K:=4294967296) (by decide) (by simp (disch:=(try simp only[sP]);omega) only[eV]) (by simp (disch:=(try simp only[sP]);omega) only[eV]) (j9 16 (by decide) (by omega)) (by omega) (by omega) (dn ⟨rfl,rfl,rfl⟩)) ?_
 refine dP rfl rfl rfl (wN rfl) (by simp only[zP,hsz];decide) hS (fun w' hS'=>rM (dn ⟨rfl,rfl,rfl⟩)) ?_
 refine dP rfl rfl rfl (wN rfl) (by simp only[zP,hsz];decide) hS (fun w' hS'=>qA (k:=.i64) (j:=0) (b:=sb) (o:=o) (len:=(b0::b1::b2::b3::l).length) (cap:=cap) hsl (by simp (disch:=(try simp only[sP]);omega) only[eV,e1]) rfl (by simp only[List.length_cons];omega) (dn ⟨rfl,rfl,rfl⟩)) ?_
 refine dP rfl rfl rfl (wN rfl) (by simp only[zP,hsz];decide) hS (fun w' hS'=>rL (b:=sb) (o:=o+0*1) (v:=bv b0) (by (try simp (disch:=(try simp only[sP]);omega) only[eV])<;>(first | rfl | assumption)) H.oU8 (hS' 0 _ rfl) (dn ⟨rfl,rfl,rfl⟩)) ?_
 refine dP rfl rfl rfl (wN rfl) (by simp only[zP,hsz];decide) hS (fun w' hS'=>zf (K:=4294967296) (n:=b0.toNat) H.u8 hu (by decide) (by (try simp (disch:=(try simp only[sP]);omega) only[eV])<;>(first | rfl | assumption)) hb0 (dn ⟨rfl,rfl,rfl⟩)) ?_
 refine dP rfl rfl rfl (wN rfl) (by simp only[zP,hsz];decide) hS (fun w' hS'=>jS (k:=.u32) (n:=b0.toNat) (c:=24) (mm:=16777216) (K:=4294967296) (by decide) (by simp (disch:=(try simp only[sP]);omega) only[eV]) rfl (by decide) (by omega) (dn ⟨rfl,rfl,rfl⟩)) ?_
 refine dP rfl rfl rfl (wN rfl) (by simp only[zP,hsz];decide) hS (fun w' hS'=>y3 (k:=.u32) (m:=b3.toNat+b2.toNat*256+b1.toNat*65536) (n:=b0.toNat*16777216) (v:=b3.toNat+b2.toNat*256+b1.toNat*65536+b0.toNat*16777216) (K:=4294967296) (by decide) (by simp (disch:=(try simp only[sP]);omega) only[eV]) (by simp (disch:=(try simp only[sP]);omega) only[eV]) (j9 24 (by decide) (by omega)) (by omega) (by omega) (dn ⟨rfl,rfl,rfl⟩)) ?_
 refine dP rfl rfl rfl (wN rfl) (by simp only[zP,hsz];decide) hS (fun w' hS'=>rA (dn ⟨rfl,rfl,rfl⟩)) ?_
 refine xx ?_
 refine vS (vT ?_)
 refine ⟨by simp only[dF];exact hdf,_,rO (by (try simp (disch:=(try simp only[sP]);omega) only[eV])<;>(first | rfl | assumption)),?_,⟨hb.os,hb.tape,hb.output,hb.size,hb.block⟩⟩
 simp only[Value.int.injEq,true_and,beN,List.foldl]
 omega
theorem be_u64 (H:REnv P E) (hu:qs P E.tU64=some .u64) (hm:P.follows .mixedOrders=true) (ht:Text P E.bU64 2 54 #[.tmp 4] (c_bU64 E)) {b0 b1 b2 b3 b4 b5 b6 b7:UInt8} {l:List UInt8} {W:World} {sb o cap:Nat} (hl:(b0::b1::b2::b3::b4::b5::b6::b7::l).length<=cap) (hc:qb W sb o ((b0::b1::b2::b3::b4::b5::b6::b7::l).map bv)) (hsb:sb<W.heap.size) :
  qa P E.bU64 #[.agg #[],.slice (some ⟨sb,o,none⟩) (b0::b1::b2::b3::b4::b5::b6::b7::l).length cap] W fun v w'=>v=.int .u64 ((beN [b0,b1,b2,b3,b4,b5,b6,b7]:Nat):Int)/\Below W.heap.size W w':=by
 refine qa.enter ht (by simp) ?_
 intro a hsz hdf harg
 have e0:=harg 0 (.agg #[]) (by simp)
 have e1:=harg 1 (.slice (some ⟨sb,o,none⟩) (b0::b1::b2::b3::b4::b5::b6::b7::l).length cap) (by simp)
 have hsl:=rB H.row
 have hb0:=b0.toNat_lt
 have hb1:=b1.toNat_lt
 have hb2:=b2.toNat_lt
 have hb3:=b3.toNat_lt
 have hb4:=b4.toNat_lt
 have hb5:=b5.toNat_lt
 have hb6:=b6.toNat_lt
 have hb7:=b7.toNat_lt
 unfold c_bU64
 refine vX ?_
 refine xJ (v:=.agg #[]) (by simp (disch:=(try simp only[sP]);omega) only[eV,e0]) ?_
 refine rA (dn ?_)
 have hb:Below W.heap.size W (W.alloc (.cells (Value.agg #[]).cells E.tBE)):=(Below.refl W.heap.size W).alloc (o:=.cells _ _) (Nat.le_refl _)
 have hc1:qb (W.alloc (.cells (Value.agg #[]).cells E.tBE)) sb o ((b0::b1::b2::b3::b4::b5::b6::b7::l).map bv):=hc.below hb hsb
 generalize W.alloc (.cells (Value.agg #[]).cells E.tBE)=V at *
 refine vX (rM ?_)
 refine qA (k:=.i64) (j:=7) (b:=sb) (o:=o) (len:=(b0::b1::b2::b3::b4::b5::b6::b7::l).length) (cap:=cap) hsl (by simp (disch:=(try simp only[sP]);omega) only[eV,e1]) rfl (by simp only[List.length_cons];omega) ?_
 refine rL (b:=sb) (o:=o+7*1) (v:=bv b7) (by simp (disch:=(try simp only[sP]);omega) only[eV]) H.oU8 (hc1 7 _ rfl) ?_
 refine dn ?_
 have hS:(fun W':World=>qb W' sb o ((b0::b1::b2::b3::b4::b5::b6::b7::l).map bv)) { V with drawn:=V.drawn+1 }:=hc1
 refine vS (xh [(0,true),(1,true),(2,true),(3,true),(4,true),(5,true),(6,true),(7,true),(8,true),(9,true),(10,true),(11,true),(12,true),(13,true),(14,true),(15,true),(16,true),(17,true),(18,true),(19,true),(20,true),(21,true),(22,true),(23,true),(24,true),(25,true),(26,true),(27,true),(28,true),(29,true),(30,true),(31,true),(32,true),(33,true),(34,true),(35,true),(36,true),(37,true),(38,true),(39,true),(40,true),(41,true),(42,true),(43,true),(44,true),(45,true),(46,true)] (fun W'=>qb W' sb o ((b0::b1::b2::b3::b4::b5::b6::b7::l).map bv)) hm (by kernel_rfl) rfl (by kernel_rfl) (fun _ _ _ _ h=>False.elim h) ?_)
 refine dP rfl rfl rfl (wN rfl) (by simp only[zP,hsz];decide) hS (fun w' hS'=>rM (dn ⟨rfl,rfl,rfl⟩)) ?_
 refine dP rfl rfl rfl (wN rfl) (by simp only[zP,hsz];decide) hS (fun w' hS'=>qA (k:=.i64) (j:=7) (b:=sb) (o:=o) (len:=(b0::b1::b2::b3::b4::b5::b6::b7::l).length) (cap:=cap) hsl (by simp (disch:=(try simp only[sP]);omega) only[eV,e1]) rfl (by simp only[List.length_cons];omega) (dn ⟨rfl,rfl,rfl⟩)) ?_
 refine dP rfl rfl rfl (wN rfl) (by simp only[zP,hsz];decide) hS (fun w' hS'=>rL (b:=sb) (o:=o+7*1) (v:=bv b7) (by (try simp (disch:=(try simp only[sP]);omega) only[eV])<;>(first | rfl | assumption)) H.oU8 (hS' 7 _ rfl) (dn ⟨rfl,rfl,rfl⟩)) ?_
 refine dP rfl rfl rfl (wN rfl) (by simp only[zP,hsz];decide) hS (fun w' hS'=>zf (K:=18446744073709551616) (n:=b7.toNat) H.u8 hu (by decide) (by (try simp (disch:=(try simp only[sP]);omega) only[eV])<;>(first | rfl | assumption)) hb7 (dn ⟨rfl,rfl,rfl⟩)) ?_
 refine dP rfl rfl rfl (wN rfl) (by simp only[zP,hsz];decide) hS (fun w' hS'=>rM (dn ⟨rfl,rfl,rfl⟩)) ?_
 refine dP rfl rfl rfl (wN rfl) (by simp only[zP,hsz];decide) hS (fun w' hS'=>qA (k:=.i64) (j:=6) (b:=sb) (o:=o) (len:=(b0::b1::b2::b3::b4::b5::b6::b7::l).length) (cap:=cap) hsl (by simp (disch:=(try simp only[sP]);omega) only[eV,e1]) rfl (by simp only[List.length_cons];omega) (dn ⟨rfl,rfl,rfl⟩)) ?_
 refine dP rfl rfl rfl (wN rfl) (by simp only[zP,hsz];decide) hS (fun w' hS'=>rL (b:=sb) (o:=o+6*1) (v:=bv b6) (by (try simp (disch:=(try simp only[sP]);omega) only[eV])<;>(first | rfl | assumption)) H.oU8 (hS' 6 _ rfl) (dn ⟨rfl,rfl,rfl⟩)) ?_
 refine dP rfl rfl rfl (wN rfl) (by simp only[zP,hsz];decide) hS (fun w' hS'=>zf (K:=18446744073709551616) (n:=b6.toNat) H.u8 hu (by decide) (by (try simp (disch:=(try simp only[sP]);omega) only[eV])<;>(first | rfl | assumption)) hb6 (dn ⟨rfl,rfl,rfl⟩)) ?_
 refine dP rfl rfl rfl (wN rfl) (by simp only[zP,hsz];decide) hS (fun w' hS'=>jS (k:=.u64) (n:=b6.toNat) (c:=8) (mm:=256) (K:=18446744073709551616) (by decide) (by simp (disch:=(try simp only[sP]);omega) only[eV]) rfl (by decide) (by omega) (dn ⟨rfl,rfl,rfl⟩)) ?_
 refine dP rfl rfl rfl (wN rfl) (by simp only[zP,hsz];decide) hS (fun w' hS'=>y3 (k:=.u64) (m:=b7.toNat) (n:=b6.toNat*256) (v:=b7.toNat+b6.toNat*256) (K:=18446744073709551616) (by decide) (by simp (disch:=(try simp only[sP]);omega) only[eV]) (by simp (disch:=(try simp only[sP]);omega) only[eV]) (j9 8 (by decide) (by omega)) (by omega) (by omega) (dn ⟨rfl,rfl,rfl⟩)) ?_
 refine dP rfl rfl rfl (wN rfl) (by simp only[zP,hsz];decide) hS (fun w' hS'=>rM (dn ⟨rfl,rfl,rfl⟩)) ?_
 refine dP rfl rfl rfl (wN rfl) (by simp only[zP,hsz];decide) hS (fun w' hS'=>qA (k:=.i64) (j:=5) (b:=sb) (o:=o) (len:=(b0::b1::b2::b3::b4::b5::b6::b7::l).length) (cap:=cap) hsl (by simp (disch:=(try simp only[sP]);omega) only[eV,e1]) rfl (by simp only[List.length_cons];omega) (dn ⟨rfl,rfl,rfl⟩)) ?_
 refine dP rfl rfl rfl (wN rfl) (by simp only[zP,hsz];decide) hS (fun w' hS'=>rL (b:=sb) (o:=o+5*1) (v:=bv b5) (by (try simp (disch:=(try simp only[sP]);omega) only[eV])<;>(first | rfl | assumption)) H.oU8 (hS' 5 _ rfl) (dn ⟨rfl,rfl,rfl⟩)) ?_
 refine dP rfl rfl rfl (wN rfl) (by simp only[zP,hsz];decide) hS (fun w' hS'=>zf (K:=18446744073709551616) (n:=b5.toNat) H.u8 hu (by decide) (by (try simp (disch:=(try simp only[sP]);omega) only[eV])<;>(first | rfl | assumption)) hb5 (dn ⟨rfl,rfl,rfl⟩)) ?_
 refine dP rfl rfl rfl (wN rfl) (by simp only[zP,hsz];decide) hS (fun w' hS'=>jS (k:=.u64) (n:=b5.toNat) (c:=16) (mm:=65536) (K:=18446744073709551616) (by decide) (by simp (disch:=(try simp only[sP]);omega) only[eV]) rfl (by decide) (by omega) (dn ⟨rfl,rfl,rfl⟩)) ?_
 refine dP rfl rfl rfl (wN rfl) (by simp only[zP,hsz];decide) hS (fun w' hS'=>y3 (k:=.u64) (m:=b7.toNat+b6.toNat*256) (n:=b5.toNat*65536) (v:=b7.toNat+b6.toNat*256+b5.toNat*65536) (K:=18446744073709551616) (by decide) (by simp (disch:=(try simp only[sP]);omega) only[eV]) (by simp (disch:=(try simp only[sP]);omega) only[eV]) (j9 16 (by decide) (by omega)) (by omega) (by omega) (dn ⟨rfl,rfl,rfl⟩)) ?_
 refine dP rfl rfl rfl (wN rfl) (by simp only[zP,hsz];decide) hS (fun w' hS'=>rM (dn ⟨rfl,rfl,rfl⟩)) ?_
 refine dP rfl rfl rfl (wN rfl) (by simp only[zP,hsz];decide) hS (fun w' hS'=>qA (k:=.i64) (j:=4) (b:=sb) (o:=o) (len:=(b0::b1::b2::b3::b4::b5::b6::b7::l).length) (cap:=cap) hsl (by simp (disch:=(try simp only[sP]);omega) only[eV,e1]) rfl (by simp only[List.length_cons];omega) (dn ⟨rfl,rfl,rfl⟩)) ?_
 refine dP rfl rfl rfl (wN rfl) (by simp only[zP,hsz];decide) hS (fun w' hS'=>rL (b:=sb) (o:=o+4*1) (v:=bv b4) (by (try simp (disch:=(try simp only[sP]);omega) only[eV])<;>(first | rfl | assumption)) H.oU8 (hS' 4 _ rfl) (dn ⟨rfl,rfl,rfl⟩)) ?_
 refine dP rfl rfl rfl (wN rfl) (by simp only[zP,hsz];decide) hS (fun w' hS'=>zf (K:=18446744073709551616) (n:=b4.toNat) H.u8 hu (by decide) (by (try simp (disch:=(try simp only[sP]);omega) only[eV])<;>(first | rfl | assumption)) hb4 (dn ⟨rfl,rfl,rfl⟩)) ?_
 refine dP rfl rfl rfl (wN rfl) (by simp only[zP,hsz];decide) hS (fun w' hS'=>jS (k:=.u64) (n:=b4.toNat) (c:=24) (mm:=16777216) (K:=18446744073709551616) (by decide) (by simp (disch:=(try simp only[sP]);omega) only[eV]) rfl (by decide) (by omega) (dn ⟨rfl,rfl,rfl⟩)) ?_
 refine dP rfl rfl rfl (wN rfl) (by simp only[zP,hsz];decide) hS (fun w' hS'=>y3 (k:=.u64) (m:=b7.toNat+b6.toNat*256+b5.toNat*65536) (n:=b4.toNat*16777216) (v:=b7.toNat+b6.toNat*256+b5.toNat*65536+b4.toNat*16777216) (K:=18446744073709551616) (by decide) (by simp (disch:=(try simp only[sP]);omega) only[eV]) (by simp (disch:=(try simp only[sP]);omega) only[eV]) (j9 24 (by decide) (by omega)) (by omega) (by omega) (dn ⟨rfl,rfl,rfl⟩)) ?_
 refine dP rfl rfl rfl (wN rfl) (by simp only[zP,hsz];decide) hS (fun w' hS'=>rM (dn ⟨rfl,rfl,rfl⟩)) ?_
 refine dP rfl rfl rfl (wN rfl) (by simp only[zP,hsz];decide) hS (fun w' hS'=>qA (k:=.i64) (j:=3) (b:=sb) (o:=o) (len:=(b0::b1::b2::b3::b4::b5::b6::b7::l).length) (cap:=cap) hsl (by simp (disch:=(try simp only[sP]);omega) only[eV,e1]) rfl (by simp only[List.length_cons];omega) (dn ⟨rfl,rfl,rfl⟩)) ?_
 refine dP rfl rfl rfl (wN rfl) (by simp only[zP,hsz];decide) hS (fun w' hS'=>rL (b:=sb) (o:=o+3*1) (v:=bv b3) (by (try simp (disch:=(try simp only[sP]);omega) only[eV])<;>(first | rfl | assumption)) H.oU8 (hS' 3 _ rfl) (dn ⟨rfl,rfl,rfl⟩)) ?_
 refine dP rfl rfl rfl (wN rfl) (by simp only[zP,hsz];decide) hS (fun w' hS'=>zf (K:=18446744073709551616) (n:=b3.toNat) H.u8 hu (by decide) (by (try simp (disch:=(try simp only[sP]);omega) only[eV])<;>(first | rfl | assumption)) hb3 (dn ⟨rfl,rfl,rfl⟩)) ?_
 refine dP rfl rfl rfl (wN rfl) (by simp only[zP,hsz];decide) hS (fun w' hS'=>jS (k:=.u64) (n:=b3.toNat) (c:=32) (mm:=4294967296) (K:=18446744073709551616) (by decide) (by simp (disch:=(try simp only[sP]);omega) only[eV]) rfl (by decide) (by omega) (dn ⟨rfl,rfl,rfl⟩)) ?_
 refine dP rfl rfl rfl (wN rfl) (by simp only[zP,hsz];decide) hS (fun w' hS'=>y3 (k:=.u64) (m:=b7.toNat+b6.toNat*256+b5.toNat*65536+b4.toNat*16777216) (n:=b3.toNat*4294967296) (v:=b7.toNat+b6.toNat*256+b5.toNat*65536+b4.toNat*16777216+b3.toNat*4294967296) (K:=18446744073709551616) (by decide) (by simp (disch:=(try simp only[sP]);omega) only[eV]) (by simp (disch:=(try simp only[sP]);omega) only[eV]) (j9 32 (by decide) (by omega)) (by omega) (by omega) (dn ⟨rfl,rfl,rfl⟩)) ?_
 refine dP rfl rfl rfl (wN rfl) (by simp only[zP,hsz];decide) hS (fun w' hS'=>rM (dn ⟨rfl,rfl,rfl⟩)) ?_
 refine dP rfl rfl rfl (wN rfl) (by simp only[zP,hsz];decide) hS (fun w' hS'=>qA (k:=.i64) (j:=2) (b:=sb) (o:=o) (len:=(b0::b1::b2::b3::b4::b5::b6::b7::l).length) (cap:=cap) hsl (by simp (disch:=(try simp only[sP]);omega) only[eV,e1]) rfl (by simp only[List.length_cons];omega) (dn ⟨rfl,rfl,rfl⟩)) ?_
 refine dP rfl rfl rfl (wN rfl) (by simp only[zP,hsz];decide) hS (fun w' hS'=>rL (b:=sb) (o:=o+2*1) (v:=bv b2) (by (try simp (disch:=(try simp only[sP]);omega) only[eV])<;>(first | rfl | assumption)) H.oU8 (hS' 2 _ rfl) (dn ⟨rfl,rfl,rfl⟩)) ?_
 refine dP rfl rfl rfl (wN rfl) (by simp only[zP,hsz];decide) hS (fun w' hS'=>zf (K:=18446744073709551616) (n:=b2.toNat) H.u8 hu (by decide) (by (try simp (disch:=(try simp only[sP]);omega) only[eV])<;>(first | rfl | assumption)) hb2 (dn ⟨rfl,rfl,rfl⟩)) ?_
 refine dP rfl rfl rfl (wN rfl) (by simp only[zP,hsz];decide) hS (fun w' hS'=>jS (k:=.u64) (n:=b2.toNat) (c:=40) (mm:=1099511627776) (K:=18446744073709551616) (by decide) (by simp (disch:=(try simp only[sP]);omega) only[eV]) rfl (by decide) (by omega) (dn ⟨rfl,rfl,rfl⟩)) ?_
 refine dP rfl rfl rfl (wN rfl) (by simp only[zP,hsz];decide) hS (fun w' hS'=>y3 (k:=.u64) (m:=b7.toNat+b6.toNat*256+b5.toNat*65536+b4.toNat*16777216+b3.toNat*4294967296) (n:=b2.toNat*1099511627776) (v:=b7.toNat+b6.toNat*256+b5.toNat*65536+b4.toNat*16777216+b3.toNat*4294967296+b2.toNat*1099511627776) (K:=18446744073709551616) (by decide) (by simp (disch:=(try simp only[sP]);omega) only[eV]) (by simp (disch:=(try simp only[sP]);omega) only[eV]) (j9 40 (by decide) (by omega)) (by omega) (by omega) (dn ⟨rfl,rfl,rfl⟩)) ?_
 refine dP rfl rfl rfl (wN rfl) (by simp only[zP,hsz];decide) hS (fun w' hS'=>rM (dn ⟨rfl,rfl,rfl⟩)) ?_
 refine dP rfl rfl rfl (wN rfl) (by simp only[zP,hsz];decide) hS (fun w' hS'=>qA (k:=.i64) (j:=1) (b:=sb) (o:=o) (len:=(b0::b1::b2::b3::b4::b5::b6::b7::l).length) (cap:=cap) hsl (by simp (disch:=(try simp only[sP]);omega) only[eV,e1]) rfl (by simp only[List.length_cons];omega) (dn ⟨rfl,rfl,rfl⟩)) ?_
 refine dP rfl rfl rfl (wN rfl) (by simp only[zP,hsz];decide) hS (fun w' hS'=>rL (b:=sb) (o:=o+1*1) (v:=bv b1) (by (try simp (disch:=(try simp only[sP]);omega) only[eV])<;>(first | rfl | assumption)) H.oU8 (hS' 1 _ rfl) (dn ⟨rfl,rfl,rfl⟩)) ?_
 refine dP rfl rfl rfl (wN rfl) (by simp only[zP,hsz];decide) hS (fun w' hS'=>zf (K:=18446744073709551616) (n:=b1.toNat) H.u8 hu (by decide) (by (try simp (disch:=(try simp only[sP]);omega) only[eV])<;>(first | rfl | assumption)) hb1 (dn ⟨rfl,rfl,rfl⟩)) ?_
 refine dP rfl rfl rfl (wN rfl) (by simp only[zP,hsz];decide) hS (fun w' hS'=>jS (k:=.u64) (n:=b1.toNat) (c:=48) (mm:=281474976710656) (K:=18446744073709551616) (by decide) (by simp (disch:=(try simp only[sP]);omega) only[eV]) rfl (by decide) (by omega) (dn ⟨rfl,rfl,rfl⟩)) ?_
 refine dP rfl rfl rfl (wN rfl) (by simp only[zP,hsz];decide) hS (fun w' hS'=>y3 (k:=.u64) (m:=b7.toNat+b6.toNat*256+b5.toNat*65536+b4.toNat*16777216+b3.toNat*4294967296+b2.toNat*1099511627776) (n:=b1.toNat*281474976710656) (v:=b7.toNat+b6.toNat*256+b5.toNat*65536+b4.toNat*16777216+b3.toNat*4294967296+b2.toNat*1099511627776+b1.toNat*281474976710656) (K:=18446744073709551616) (by decide) (by simp (disch:=(try simp only[sP]);omega) only[eV]) (by simp (disch:=(try simp only[sP]);omega) only[eV]) (j9 48 (by decide) (by omega)) (by omega) (by omega) (dn ⟨rfl,rfl,rfl⟩)) ?_
 refine dP rfl rfl rfl (wN rfl) (by simp only[zP,hsz];decide) hS (fun w' hS'=>rM (dn ⟨rfl,rfl,rfl⟩)) ?_
 refine dP rfl rfl rfl (wN rfl) (by simp only[zP,hsz];decide) hS (fun w' hS'=>qA (k:=.i64) (j:=0) (b:=sb) (o:=o) (len:=(b0::b1::b2::b3::b4::b5::b6::b7::l).length) (cap:=cap) hsl (by simp (disch:=(try simp only[sP]);omega) only[eV,e1]) rfl (by simp only[List.length_cons];omega) (dn ⟨rfl,rfl,rfl⟩)) ?_
 refine dP rfl rfl rfl (wN rfl) (by simp only[zP,hsz];decide) hS (fun w' hS'=>rL (b:=sb) (o:=o+0*1) (v:=bv b0) (by (try simp (disch:=(try simp only[sP]);omega) only[eV])<;>(first | rfl | assumption)) H.oU8 (hS' 0 _ rfl) (dn ⟨rfl,rfl,rfl⟩)) ?_
 refine dP rfl rfl rfl (wN rfl) (by simp only[zP,hsz];decide) hS (fun w' hS'=>zf (K:=18446744073709551616) (n:=b0.toNat) H.u8 hu (by decide) (by (try simp (disch:=(try simp only[sP]);omega) only[eV])<;>(first | rfl | assumption)) hb0 (dn ⟨rfl,rfl,rfl⟩)) ?_
 refine dP rfl rfl rfl (wN rfl) (by simp only[zP,hsz];decide) hS (fun w' hS'=>jS (k:=.u64) (n:=b0.toNat) (c:=56) (mm:=72057594037927936) (K:=18446744073709551616) (by decide) (by simp (disch:=(try simp only[sP]);omega) only[eV]) rfl (by decide) (by omega) (dn ⟨rfl,rfl,rfl⟩)) ?_
 refine dP rfl rfl rfl (wN rfl) (by simp only[zP,hsz];decide) hS (fun w' hS'=>y3 (k:=.u64) (m:=b7.toNat+b6.toNat*256+b5.toNat*65536+b4.toNat*16777216+b3.toNat*4294967296+b2.toNat*1099511627776+b1.toNat*281474976710656) (n:=b0.toNat*72057594037927936) (v:=b7.toNat+b6.toNat*256+b5.toNat*65536+b4.toNat*16777216+b3.toNat*4294967296+b2.toNat*1099511627776+b1.toNat*281474976710656+b0.toNat*72057594037927936) (K:=18446744073709551616) (by decide) (by simp (disch:=(try simp only[sP]);omega) only[eV]) (by simp (disch:=(try simp only[sP]);omega) only[eV]) (j9 56 (by decide) (by omega)) (by omega) (by omega) (dn ⟨rfl,rfl,rfl⟩)) ?_
 refine dP rfl rfl rfl (wN rfl) (by simp only[zP,hsz];decide) hS (fun w' hS'=>rA (dn ⟨rfl,rfl,rfl⟩)) ?_
 refine xx ?_
 refine vS (vT ?_)
 refine ⟨by simp only[dF];exact hdf,_,rO (by (try simp (disch:=(try simp only[sP]);omega) only[eV])<;>(first | rfl | assumption)),?_,⟨hb.os,hb.tape,hb.output,hb.size,hb.block⟩⟩
 simp only[Value.int.injEq,true_and,beN,List.foldl]
 omega
end
end Go.Km
namespace Go.Km
open Go Go.RowKit
attribute [local irreducible] vc rO_ qz qI qF
def sgn (k n:Nat):Int:=if n<2 ^ (8*k-1) then (n:Int) else (n:Int)-2 ^ (8*k)
theorem sgn1 {n:Nat} (h:n<256):IntKind.i8.wrap (n:Int)=sgn 1 n:=by
 have h2:(2:Int) ^ 8=256:=by decide
 have h3:(2:Int) ^ (8-1)=128:=by decide
 have h4:(2:Nat) ^ (8*1-1)=128:=by decide
 have h5:(2:Int) ^ (8*1)=256:=by decide
 simp only[IntKind.wrap,IntKind.bits,IntKind.signed,Bool.true_and,decide_eq_true_eq,h2,h3,sgn,h4,h5]
 split<;>split<;>omega
theorem sgn2 {n:Nat} (h:n<65536):IntKind.i16.wrap (n:Int)=sgn 2 n:=by
 have h2:(2:Int) ^ 16=65536:=by decide
 have h3:(2:Int) ^ (16-1)=32768:=by decide
 have h4:(2:Nat) ^ (8*2-1)=32768:=by decide
 have h5:(2:Int) ^ (8*2)=65536:=by decide
 simp only[IntKind.wrap,IntKind.bits,IntKind.signed,Bool.true_and,decide_eq_true_eq,h2,h3,sgn,h4,h5]
 split<;>split<;>omega
theorem sgn4 {n:Nat} (h:n<4294967296):IntKind.i32.wrap (n:Int)=sgn 4 n:=by
 have h2:(2:Int) ^ 32=4294967296:=by decide
 have h3:(2:Int) ^ (32-1)=2147483648:=by decide
 have h4:(2:Nat) ^ (8*4-1)=2147483648:=by decide
 have h5:(2:Int) ^ (8*4)=4294967296:=by decide
 simp only[IntKind.wrap,IntKind.bits,IntKind.signed,Bool.true_and,decide_eq_true_eq,h2,h3,sgn,h4,h5]
 split<;>split<;>omega
theorem sgn8 {n:Nat} (h:n<18446744073709551616):IntKind.i64.wrap (n:Int)=sgn 8 n:=by
 have h2:(2:Int) ^ 64=18446744073709551616:=by decide
 have h3:(2:Int) ^ (64-1)=9223372036854775808:=by decide
 have h4:(2:Nat) ^ (8*8-1)=9223372036854775808:=by decide
 have h5:(2:Int) ^ (8*8)=18446744073709551616:=by decide
 simp only[IntKind.wrap,IntKind.bits,IntKind.signed,Bool.true_and,decide_eq_true_eq,h2,h3,sgn,h4,h5]
 split<;>split<;>omega
theorem beN_lt:∀ (l:List UInt8) (n:Nat),l.foldl (fun n b=>n*256+b.toNat) n<(n+1)*256 ^ l.length
 | [],n=>by simp
 | b::r,n=>by
  have hb:=b.toNat_lt
  have:=beN_lt r (n*256+b.toNat)
  simp only[List.foldl_cons,List.length_cons,Nat.pow_succ]
  refine Nat.lt_of_lt_of_le this ?_
  rw[show (n+1)*(256 ^ r.length*256)=((n+1)*256)*256 ^ r.length by rw[Nat.mul_comm (256 ^ r.length),Nat.mul_assoc]]
  exact Nat.mul_le_mul_right _ (by omega)
theorem zQ (k:Nat) (st:RSt):(rdN k st).1<256 ^ k:=by
 unfold rdN
 split
 ·exact Nat.pow_pos (by decide)
 ·rename_i h
  have:=beN_lt (st.1.take k) 0
  rw[List.length_take,Nat.min_eq_left (by omega)] at this
  simpa [beN] using this
def RdC (P:Program) (F:FuncId) (rb sb:Nat) (st':RSt) (v:Value) (W:World):Prop :=
 qa P F #[.pointer (some ⟨rb,0,none⟩)] W fun x w'=>x=v/\RdS w' rb sb st'/\Eff (RM rb) W w'/\(st'.2=false->NN w' rb)
section
variable {P : Program} {E : Env}
theorem jZ (H:REnv P E) {k:Nat} {z:Operand} {zv:Value} {T:TypeId} {A:Act} {W:World} {rb sb:Nat} {st:RSt} {rest:List Code} {Q:Exit->Act->World->Prop} (hs:16<=A.tmps.size) (hz:z=.const zv)
  (e0:A.eval (.tmp 0)=.pointer (some ⟨rb,0,none⟩)) (hr:RdS W rb sb st)
  (hf:st.1.length<k->∀ A' W',A'.defers=A.defers->A'.eval (.tmp 2)=zv->RdS W' rb sb ([],true)->Eff (RM rb) W W'->Q .ret A' W')
  (ho:k<=st.1.length->∀ A',A'.tmps.size=A.tmps.size->A'.defers=A.defers->A'.eval (.tmp 0)=.pointer (some ⟨rb,0,none⟩)->vc P (sq rest) Q A' W) :
  vc P (sq ((rg [(oQ 2 (.assign z) T)]) ::
   (sq [(rg [(oQ 4 (.move (.tmp 0)) E.tPRd),(oQ 5 (.nilCheck (.tmp 4)) 0),(oQ 6 (.fieldAddr E.tRd (.tmp 5) 0) 0),(oQ 7 (.load E.tB (.tmp 6)) E.tB),
    (oQ 8 (.call { callee:=.builtin .len,args:=#[(.tmp 7)],argTypes:=#[E.tB] }) E.tI),(oQ 9 (.binOp .lss E.tI (.tmp 8) (.const (.int .i64 (k:Int))) E.tI) E.tO)]),
   (.cond (.tmp 9)
    (sq [(rg [(oQ 10 (.move (.tmp 0)) E.tPRd),(oQ 11 (.nilCheck (.tmp 10)) 0),(oQ 12 (.fieldAddr E.tRd (.tmp 11) 1) 0),⟨none,.store E.tO (.tmp 12) (.const (.bool true)),0,"",#[],none⟩]),
     (rg [(oQ 13 (.move (.tmp 0)) E.tPRd),(oQ 14 (.nilCheck (.tmp 13)) 0),(oQ 15 (.fieldAddr E.tRd (.tmp 14) 0) 0),⟨none,.store E.tB (.tmp 15) (.const (.slice none 0 0)),0,"",#[],none⟩]),
     (rg [(oQ 2 (.assign z) T)]),.ret])
    .skip)])::rest)) Q A W:=by
 refine vX (rA (dn (vS (vX ?_))))
 refine r_srcLen (t:=4) H (by simp only[zP];omega) (by decide) (by simp (disch:=(try simp only[sP]);omega) only[eV,e0]) hr ?_
 intro A1 a1 a2 a3 a4
 simp only[zP,dF] at a1 a2
 have a0:A1.eval (.tmp 0)=.pointer (some ⟨rb,0,none⟩):=by
  rw[a3 0 (by omega)]
  simp (disch:=(try simp only[sP]);omega) only[eV,e0]
 refine qW (k:=.i64) (m:=(st.1.length:Int)) (n:=(k:Int)) a4 rfl ?_
 refine dn ?_
 refine vS (vC (t:=decide ((st.1.length:Int)<(k:Int))) (by simp (disch:=(try simp only[sP]);omega) only[eV]) ?_ ?_)
 ·intro hlt
  have hlt':st.1.length<k:=by simpa using hlt
  refine wZ (t:=10) (X:=2) H (by simp only[zP];omega) (by simp only[zP];omega) (by decide) (by decide) hz (by simp (disch:=(try simp only[sP]);omega) only[eV,a0]) hr ?_
  intro A2 W2 b1 b2 b3 b4
  exact hf hlt' A2 W2 (by rw[b1];simp only[dF];exact a2) b2 b3 b4
 ·intro hlt
  have hlt':k<=st.1.length:=by simpa using hlt
  refine vK (vN ?_)
  exact ho hlt' _ (by simp only[zP];exact a1) (by simp only[dF];exact a2) (by simp (disch:=(try simp only[sP]);omega) only[eV,a0])
theorem y7 (H:REnv P E) {rb sb:Nat} {st:RSt} {W:World} {k:Nat} (hk:0<k) (hr:RdS W rb sb st) (hle:k<=st.1.length):∃ v o cap,qb W rb 0 [v,.bool st.2]/\v=.slice (some ⟨sb,o,none⟩) st.1.length cap/\st.1.length<=cap/\qb W sb o (st.1.map bv):=by
 obtain ⟨v,hc,hsv⟩:=hr.cells
 rcases hsv with ⟨_,h0⟩ | ⟨o,cap,h1,h2,h3⟩
 ·rw[h0] at hle;simp at hle;omega
 ·exact ⟨v,o,cap,hc,h1,h2,h3⟩
theorem k_rI16 (H:REnv P E) (hm:P.follows .mixedOrders=true) (hBE:zb P E.tBE=some 0) (hu:qs P E.tU16=some .u16) (hs:qs P E.tI16=some .i16) (hb:Text P E.bU16 2 18 #[.tmp 4] (c_bU16 E)) (ht:Text P E.rI16 1 32 #[.tmp 2] (c_rI16 E)) {rb sb:Nat} {st:RSt} {W:World} (hr:RdS W rb sb st) :
  RdC P E.rI16 rb sb (rdN 2 st).2 (.int .i16 (sgn 2 (rdN 2 st).1)) W:=by
 refine qa.enter ht (by simp) ?_
 intro a hsz hdf harg
 have e0:=harg 0 (.pointer (some ⟨rb,0,none⟩)) (by simp)
 unfold c_rI16
 refine jZ (k:=2) (zv:=.int .i16 0) H (by omega) rfl e0 hr ?_ ?_
 ·intro hlt A' W' h1 h2 h3 h4
  have:rdN 2 st=(0,[],true):=by simp[rdN,hlt]
  rw[this]
  exact ⟨by rw[h1];exact hdf,_,rO h2,rfl,h3,h4,fun h=>by cases h⟩
 ·intro hle A h1 h2 h3
  obtain ⟨v,o,cap,hc,hv,hcap,hcs⟩:=y7 (k:=2) H (by decide) hr hle
  obtain ⟨l0,bad⟩:=st
  simp only at hle hv hcap hcs
  obtain ⟨b0,b1,l,rfl⟩:∃ (b0 b1:UInt8) (l:List UInt8),l0=b0::b1::l:=by
   cases l0 with
   | nil=>simp at hle
   | cons b0 r0 =>
    cases r0 with
    | nil=>simp at hle
    | cons b1 r1 =>
     exact ⟨b0,b1,r1,rfl⟩
  have hN:rdN 2 (b0::b1::l,bad)=(beN [b0,b1],l,bad):=by
   simp only[rdN]
   rw[if_neg (by simp only[List.length_cons];omega)]
   rfl
  have hlt:=zQ 2 (b0::b1::l,bad)
  rw[hN] at hlt
  simp only at hlt
  rw[hN]
  have hS:(fun W'=>qb W' rb 0 [v,.bool bad]) { W with drawn:=W.drawn+1 }:=hc
  have hs':A.tmps.size=32:=by omega
  refine vS (xh [(0,true),(1,true),(2,false),(3,true),(4,true),(5,false),(6,true),(7,true)] (fun W'=>qb W' rb 0 [v,.bool bad]) hm (by kernel_rfl) rfl (by kernel_rfl) (fun _ _ _ _ h=>False.elim h) ?_)
  refine dP rfl rfl rfl (wN rfl) (by simp only[zP,hs'];decide) hS (fun w' hS'=>qf (b:=E.vBE) (o:=0) (cs:=[]) rfl hBE (qb.nil _ _ _) (dn ⟨rfl,rfl,rfl⟩)) ?_
  refine dP rfl rfl rfl (wN rfl) (by simp only[zP,hs'];decide) hS (fun w' hS'=>rM (dn ⟨rfl,rfl,rfl⟩)) ?_
  refine qw rfl (wN rfl) ?_
  refine qV (ad:=⟨rb,0,none⟩) (by simp (disch:=(try simp only[sP]);omega) only[eV,h3]) ?_
  refine dn (qv hS ?_)
  refine dP rfl rfl rfl (wN rfl) (by simp only[zP,hs'];decide) hS (fun w' hS'=>rF (b:=rb) (o:=0) (by simp (disch:=(try simp only[sP]);omega) only[eV]) H.f0 (dn ⟨rfl,rfl,rfl⟩)) ?_
  refine dP rfl rfl rfl (wN rfl) (by simp only[zP,hs'];decide) hS (fun w' hS'=>rL (b:=rb) (o:=0+0) (v:=v) (by simp (disch:=(try simp only[sP]);omega) only[eV]) H.oBytes (hS' 0 v rfl) (dn ⟨rfl,rfl,rfl⟩)) ?_
  refine qw rfl (wN rfl) ?_
  have hcs':qb { W with drawn:=W.drawn+1 } sb o ((b0::b1::l).map bv):=hcs
  refine q8 (args:=#[.agg #[],.slice (some ⟨sb,o,none⟩) (b0::b1::l).length cap]) ?_ (be_u16 H hu hm hb hcap hcs' hr.lt) ?_
  ·simp only[lM]
   simp (disch:=(try simp only[sP]);omega) only[eV,hv]
  rintro v1 W1 ⟨rfl,hb1⟩
  have hb1':Below W.heap.size W W1:=⟨hb1.os,hb1.tape,hb1.output,hb1.size,hb1.block⟩
  have hr1:=hr.below hb1' hr.rb_lt hr.lt
  have hS1:(fun W'=>qb W' rb 0 [v,.bool bad]) W1:=hc.below hb1' hr.rb_lt
  refine dn (qv hS1 ?_)
  refine dP rfl rfl rfl (wN rfl) (by simp only[zP,hs'];decide) hS1 (fun w' hS'=>qM (k:=.u16) (k':=.i16) (m:=((beN [b0,b1]:Nat):Int)) hu hs (by simp (disch:=(try simp only[sP]);omega) only[eV]) (dn ⟨rfl,rfl,rfl⟩)) ?_
  refine dP rfl rfl rfl (wN rfl) (by simp only[zP,hs'];decide) hS1 (fun w' hS'=>rA (dn ⟨rfl,rfl,rfl⟩)) ?_
  refine xx ?_
  refine vX ?_
  refine vz (t:=23) (n:=2) H (by simp only[zP];omega) (by decide) (by simp) (by simp (disch:=(try simp only[sP]);omega) only[eV,h3]) hr1 ?_
  intro A2 W2 p1 p2 p3 p4 p5 p6
  simp only[zP,dF] at p1 p2
  refine dn ?_
  have hv3:A2.eval (.tmp 3)=.int .i16 (IntKind.i16.wrap ((beN [b0,b1]:Nat):Int)):=by
   rw[p3 3 (by omega)]
   simp (disch:=(try simp only[sP]);omega) only[eV]
  refine vX (rM (rA (dn (vS (vT ?_)))))
  refine ⟨by simp only[dF];rw[p2,h2];exact hdf,.int .i16 (IntKind.i16.wrap ((beN [b0,b1]:Nat):Int)),rO (by simp (disch:=(try simp only[sP]);omega) only[eV,hv3]),by rw[sgn2 (by simpa using hlt)],by simpa using p4,?_,fun _=>p6 (.inl (by decide))⟩
  exact (Eff.of_below hb1').trans' p5 (fun k i _ h=>h) |>.mono (fun k i _ h=>h)
theorem k_rI32 (H:REnv P E) (hm:P.follows .mixedOrders=true) (hBE:zb P E.tBE=some 0) (hu:qs P E.tW=some .u32) (hs:qs P E.tI32=some .i32) (hb:Text P E.bU32 2 30 #[.tmp 4] (c_bU32 E)) (ht:Text P E.rI32 1 32 #[.tmp 2] (c_rI32 E)) {rb sb:Nat} {st:RSt} {W:World} (hr:RdS W rb sb st) :
  RdC P E.rI32 rb sb (rdN 4 st).2 (.int .i32 (sgn 4 (rdN 4 st).1)) W:=by
 refine qa.enter ht (by simp) ?_
 intro a hsz hdf harg
 have e0:=harg 0 (.pointer (some ⟨rb,0,none⟩)) (by simp)
 unfold c_rI32
 refine jZ (k:=4) (zv:=.int .i32 0) H (by omega) rfl e0 hr ?_ ?_
 ·intro hlt A' W' h1 h2 h3 h4
  have:rdN 4 st=(0,[],true):=by simp[rdN,hlt]
  rw[this]
  exact ⟨by rw[h1];exact hdf,_,rO h2,rfl,h3,h4,fun h=>by cases h⟩
 ·intro hle A h1 h2 h3
  obtain ⟨v,o,cap,hc,hv,hcap,hcs⟩:=y7 (k:=4) H (by decide) hr hle
  obtain ⟨l0,bad⟩:=st
  simp only at hle hv hcap hcs
  obtain ⟨b0,b1,b2,b3,l,rfl⟩:∃ (b0 b1 b2 b3:UInt8) (l:List UInt8),l0=b0::b1::b2::b3::l:=by
   cases l0 with
   | nil=>simp at hle
   | cons b0 r0 =>
    cases r0 with
    | nil=>simp at hle
    | cons b1 r1 =>
     cases r1 with
     | nil=>simp at hle
     | cons b2 r2 =>
      cases r2 with
      | nil=>simp at hle
      | cons b3 r3 =>
       exact ⟨b0,b1,b2,b3,r3,rfl⟩
  have hN:rdN 4 (b0::b1::b2::b3::l,bad)=(beN [b0,b1,b2,b3],l,bad):=by
   simp only[rdN]
   rw[if_neg (by simp only[List.length_cons];omega)]
   rfl
  have hlt:=zQ 4 (b0::b1::b2::b3::l,bad)
  rw[hN] at hlt
  simp only at hlt
  rw[hN]
  have hS:(fun W'=>qb W' rb 0 [v,.bool bad]) { W with drawn:=W.drawn+1 }:=hc
  have hs':A.tmps.size=32:=by omega
  refine vS (xh [(0,true),(1,true),(2,false),(3,true),(4,true),(5,false),(6,true),(7,true)] (fun W'=>qb W' rb 0 [v,.bool bad]) hm (by kernel_rfl) rfl (by kernel_rfl) (fun _ _ _ _ h=>False.elim h) ?_)
  refine dP rfl rfl rfl (wN rfl) (by simp only[zP,hs'];decide) hS (fun w' hS'=>qf (b:=E.vBE) (o:=0) (cs:=[]) rfl hBE (qb.nil _ _ _) (dn ⟨rfl,rfl,rfl⟩)) ?_
  refine dP rfl rfl rfl (wN rfl) (by simp only[zP,hs'];decide) hS (fun w' hS'=>rM (dn ⟨rfl,rfl,rfl⟩)) ?_
  refine qw rfl (wN rfl) ?_
  refine qV (ad:=⟨rb,0,none⟩) (by simp (disch:=(try simp only[sP]);omega) only[eV,h3]) ?_
  refine dn (qv hS ?_)
  refine dP rfl rfl rfl (wN rfl) (by simp only[zP,hs'];decide) hS (fun w' hS'=>rF (b:=rb) (o:=0) (by simp (disch:=(try simp only[sP]);omega) only[eV]) H.f0 (dn ⟨rfl,rfl,rfl⟩)) ?_
  refine dP rfl rfl rfl (wN rfl) (by simp only[zP,hs'];decide) hS (fun w' hS'=>rL (b:=rb) (o:=0+0) (v:=v) (by simp (disch:=(try simp only[sP]);omega) only[eV]) H.oBytes (hS' 0 v rfl) (dn ⟨rfl,rfl,rfl⟩)) ?_
  refine qw rfl (wN rfl) ?_
  have hcs':qb { W with drawn:=W.drawn+1 } sb o ((b0::b1::b2::b3::l).map bv):=hcs
  refine q8 (args:=#[.agg #[],.slice (some ⟨sb,o,none⟩) (b0::b1::b2::b3::l).length cap]) ?_ (be_u32 H hu hm hb hcap hcs' hr.lt) ?_
  ·simp only[lM]
   simp (disch:=(try simp only[sP]);omega) only[eV,hv]
  rintro v1 W1 ⟨rfl,hb1⟩
  have hb1':Below W.heap.size W W1:=⟨hb1.os,hb1.tape,hb1.output,hb1.size,hb1.block⟩
  have hr1:=hr.below hb1' hr.rb_lt hr.lt
  have hS1:(fun W'=>qb W' rb 0 [v,.bool bad]) W1:=hc.below hb1' hr.rb_lt
  refine dn (qv hS1 ?_)
  refine dP rfl rfl rfl (wN rfl) (by simp only[zP,hs'];decide) hS1 (fun w' hS'=>qM (k:=.u32) (k':=.i32) (m:=((beN [b0,b1,b2,b3]:Nat):Int)) hu hs (by simp (disch:=(try simp only[sP]);omega) only[eV]) (dn ⟨rfl,rfl,rfl⟩)) ?_
  refine dP rfl rfl rfl (wN rfl) (by simp only[zP,hs'];decide) hS1 (fun w' hS'=>rA (dn ⟨rfl,rfl,rfl⟩)) ?_
  refine xx ?_
  refine vX ?_
  refine vz (t:=23) (n:=4) H (by simp only[zP];omega) (by decide) (by simp) (by simp (disch:=(try simp only[sP]);omega) only[eV,h3]) hr1 ?_
  intro A2 W2 p1 p2 p3 p4 p5 p6
  simp only[zP,dF] at p1 p2
  refine dn ?_
  have hv3:A2.eval (.tmp 3)=.int .i32 (IntKind.i32.wrap ((beN [b0,b1,b2,b3]:Nat):Int)):=by
   rw[p3 3 (by omega)]
   simp (disch:=(try simp only[sP]);omega) only[eV]
  refine vX (rM (rA (dn (vS (vT ?_)))))
  refine ⟨by simp only[dF];rw[p2,h2];exact hdf,.int .i32 (IntKind.i32.wrap ((beN [b0,b1,b2,b3]:Nat):Int)),rO (by simp (disch:=(try simp only[sP]);omega) only[eV,hv3]),by rw[sgn4 (by simpa using hlt)],by simpa using p4,?_,fun _=>p6 (.inl (by decide))⟩
  exact (Eff.of_below hb1').trans' p5 (fun k i _ h=>h) |>.mono (fun k i _ h=>h)
theorem k_rU16 (H:REnv P E) (hm:P.follows .mixedOrders=true) (hBE:zb P E.tBE=some 0) (hu:qs P E.tU16=some .u16) (hb:Text P E.bU16 2 18 #[.tmp 4] (c_bU16 E)) (ht:Text P E.rU16 1 31 #[.tmp 2] (c_rU16 E)) {rb sb:Nat} {st:RSt} {W:World} (hr:RdS W rb sb st) :
  RdC P E.rU16 rb sb (rdN 2 st).2 (.int .u16 (((rdN 2 st).1:Int))) W:=by
 refine qa.enter ht (by simp) ?_
 intro a hsz hdf harg
 have e0:=harg 0 (.pointer (some ⟨rb,0,none⟩)) (by simp)
 unfold c_rU16
 refine jZ (k:=2) (zv:=.int .u16 0) H (by omega) rfl e0 hr ?_ ?_
 ·intro hlt A' W' h1 h2 h3 h4
  have:rdN 2 st=(0,[],true):=by simp[rdN,hlt]
  rw[this]
  exact ⟨by rw[h1];exact hdf,_,rO h2,rfl,h3,h4,fun h=>by cases h⟩
 ·intro hle A h1 h2 h3
  obtain ⟨v,o,cap,hc,hv,hcap,hcs⟩:=y7 (k:=2) H (by decide) hr hle
  obtain ⟨l0,bad⟩:=st
  simp only at hle hv hcap hcs
  obtain ⟨b0,b1,l,rfl⟩:∃ (b0 b1:UInt8) (l:List UInt8),l0=b0::b1::l:=by
   cases l0 with
   | nil=>simp at hle
   | cons b0 r0 =>
    cases r0 with
    | nil=>simp at hle
    | cons b1 r1 =>
     exact ⟨b0,b1,r1,rfl⟩
  have hN:rdN 2 (b0::b1::l,bad)=(beN [b0,b1],l,bad):=by
   simp only[rdN]
   rw[if_neg (by simp only[List.length_cons];omega)]
   rfl
  have hlt:=zQ 2 (b0::b1::l,bad)
  rw[hN] at hlt
  simp only at hlt
  rw[hN]
  have hS:(fun W'=>qb W' rb 0 [v,.bool bad]) { W with drawn:=W.drawn+1 }:=hc
  have hs':A.tmps.size=31:=by omega
  refine vS (xh [(0,true),(1,true),(2,false),(3,true),(4,true),(5,false),(6,true)] (fun W'=>qb W' rb 0 [v,.bool bad]) hm (by kernel_rfl) rfl (by kernel_rfl) (fun _ _ _ _ h=>False.elim h) ?_)
  refine dP rfl rfl rfl (wN rfl) (by simp only[zP,hs'];decide) hS (fun w' hS'=>qf (b:=E.vBE) (o:=0) (cs:=[]) rfl hBE (qb.nil _ _ _) (dn ⟨rfl,rfl,rfl⟩)) ?_
  refine dP rfl rfl rfl (wN rfl) (by simp only[zP,hs'];decide) hS (fun w' hS'=>rM (dn ⟨rfl,rfl,rfl⟩)) ?_
  refine qw rfl (wN rfl) ?_
  refine qV (ad:=⟨rb,0,none⟩) (by simp (disch:=(try simp only[sP]);omega) only[eV,h3]) ?_
  refine dn (qv hS ?_)
  refine dP rfl rfl rfl (wN rfl) (by simp only[zP,hs'];decide) hS (fun w' hS'=>rF (b:=rb) (o:=0) (by simp (disch:=(try simp only[sP]);omega) only[eV]) H.f0 (dn ⟨rfl,rfl,rfl⟩)) ?_
  refine dP rfl rfl rfl (wN rfl) (by simp only[zP,hs'];decide) hS (fun w' hS'=>rL (b:=rb) (o:=0+0) (v:=v) (by simp (disch:=(try simp only[sP]);omega) only[eV]) H.oBytes (hS' 0 v rfl) (dn ⟨rfl,rfl,rfl⟩)) ?_
  refine qw rfl (wN rfl) ?_
  have hcs':qb { W with drawn:=W.drawn+1 } sb o ((b0::b1::l).map bv):=hcs
  refine q8 (args:=#[.agg #[],.slice (some ⟨sb,o,none⟩) (b0::b1::l).length cap]) ?_ (be_u16 H hu hm hb hcap hcs' hr.lt) ?_
  ·simp only[lM]
   simp (disch:=(try simp only[sP]);omega) only[eV,hv]
  rintro v1 W1 ⟨rfl,hb1⟩
  have hb1':Below W.heap.size W W1:=⟨hb1.os,hb1.tape,hb1.output,hb1.size,hb1.block⟩
  have hr1:=hr.below hb1' hr.rb_lt hr.lt
  have hS1:(fun W'=>qb W' rb 0 [v,.bool bad]) W1:=hc.below hb1' hr.rb_lt
  refine dn (qv hS1 ?_)
  refine dP rfl rfl rfl (wN rfl) (by simp only[zP,hs'];decide) hS1 (fun w' hS'=>rA (dn ⟨rfl,rfl,rfl⟩)) ?_
  refine xx ?_
  refine vX ?_
  refine vz (t:=22) (n:=2) H (by simp only[zP];omega) (by decide) (by simp) (by simp (disch:=(try simp only[sP]);omega) only[eV,h3]) hr1 ?_
  intro A2 W2 p1 p2 p3 p4 p5 p6
  simp only[zP,dF] at p1 p2
  refine dn ?_
  have hv3:A2.eval (.tmp 3)=.int .u16 ((beN [b0,b1]:Nat):Int):=by
   rw[p3 3 (by omega)]
   simp (disch:=(try simp only[sP]);omega) only[eV]
  refine vX (rM (rA (dn (vS (vT ?_)))))
  refine ⟨by simp only[dF];rw[p2,h2];exact hdf,.int .u16 ((beN [b0,b1]:Nat):Int),rO (by simp (disch:=(try simp only[sP]);omega) only[eV,hv3]),rfl,by simpa using p4,?_,fun _=>p6 (.inl (by decide))⟩
  exact (Eff.of_below hb1').trans' p5 (fun k i _ h=>h) |>.mono (fun k i _ h=>h)
theorem k_rU64 (H:REnv P E) (hm:P.follows .mixedOrders=true) (hBE:zb P E.tBE=some 0) (hu:qs P E.tU64=some .u64) (hb:Text P E.bU64 2 54 #[.tmp 4] (c_bU64 E)) (ht:Text P E.rU64 1 31 #[.tmp 2] (c_rU64 E)) {rb sb:Nat} {st:RSt} {W:World} (hr:RdS W rb sb st) :
  RdC P E.rU64 rb sb (rdN 8 st).2 (.int .u64 (((rdN 8 st).1:Int))) W:=by
 refine qa.enter ht (by simp) ?_
 intro a hsz hdf harg
 have e0:=harg 0 (.pointer (some ⟨rb,0,none⟩)) (by simp)
 unfold c_rU64
 refine jZ (k:=8) (zv:=.int .u64 0) H (by omega) rfl e0 hr ?_ ?_
 ·intro hlt A' W' h1 h2 h3 h4
  have:rdN 8 st=(0,[],true):=by simp[rdN,hlt]
  rw[this]
  exact ⟨by rw[h1];exact hdf,_,rO h2,rfl,h3,h4,fun h=>by cases h⟩
 ·intro hle A h1 h2 h3
  obtain ⟨v,o,cap,hc,hv,hcap,hcs⟩:=y7 (k:=8) H (by decide) hr hle
  obtain ⟨l0,bad⟩:=st
  simp only at hle hv hcap hcs
  obtain ⟨b0,b1,b2,b3,b4,b5,b6,b7,l,rfl⟩:∃ (b0 b1 b2 b3 b4 b5 b6 b7:UInt8) (l:List UInt8),l0=b0::b1::b2::b3::b4::b5::b6::b7::l:=by
   cases l0 with
   | nil=>simp at hle
   | cons b0 r0 =>
    cases r0 with
    | nil=>simp at hle
    | cons b1 r1 =>
     cases r1 with
     | nil=>simp at hle
     | cons b2 r2 =>
      cases r2 with
      | nil=>simp at hle
      | cons b3 r3 =>
       cases r3 with
       | nil=>simp at hle
       | cons b4 r4 =>
        cases r4 with
        | nil=>simp at hle
        | cons b5 r5 =>
         cases r5 with
         | nil=>simp at hle
         | cons b6 r6 =>
          cases r6 with
          | nil=>simp at hle
          | cons b7 r7 =>
           exact ⟨b0,b1,b2,b3,b4,b5,b6,b7,r7,rfl⟩
  have hN:rdN 8 (b0::b1::b2::b3::b4::b5::b6::b7::l,bad)=(beN [b0,b1,b2,b3,b4,b5,b6,b7],l,bad):=by
   simp only[rdN]
   rw[if_neg (by simp only[List.length_cons];omega)]
   rfl
  have hlt:=zQ 8 (b0::b1::b2::b3::b4::b5::b6::b7::l,bad)
  rw[hN] at hlt
  simp only at hlt
  rw[hN]
  have hS:(fun W'=>qb W' rb 0 [v,.bool bad]) { W with drawn:=W.drawn+1 }:=hc
  have hs':A.tmps.size=31:=by omega
  refine vS (xh [(0,true),(1,true),(2,false),(3,true),(4,true),(5,false),(6,true)] (fun W'=>qb W' rb 0 [v,.bool bad]) hm (by kernel_rfl) rfl (by kernel_rfl) (fun _ _ _ _ h=>False.elim h) ?_)
  refine dP rfl rfl rfl (wN rfl) (by simp only[zP,hs'];decide) hS (fun w' hS'=>qf (b:=E.vBE) (o:=0) (cs:=[]) rfl hBE (qb.nil _ _ _) (dn ⟨rfl,rfl,rfl⟩)) ?_
  refine dP rfl rfl rfl (wN rfl) (by simp only[zP,hs'];decide) hS (fun w' hS'=>rM (dn ⟨rfl,rfl,rfl⟩)) ?_
  refine qw rfl (wN rfl) ?_
  refine qV (ad:=⟨rb,0,none⟩) (by simp (disch:=(try simp only[sP]);omega) only[eV,h3]) ?_
  refine dn (qv hS ?_)
  refine dP rfl rfl rfl (wN rfl) (by simp only[zP,hs'];decide) hS (fun w' hS'=>rF (b:=rb) (o:=0) (by simp (disch:=(try simp only[sP]);omega) only[eV]) H.f0 (dn ⟨rfl,rfl,rfl⟩)) ?_
  refine dP rfl rfl rfl (wN rfl) (by simp only[zP,hs'];decide) hS (fun w' hS'=>rL (b:=rb) (o:=0+0) (v:=v) (by simp (disch:=(try simp only[sP]);omega) only[eV]) H.oBytes (hS' 0 v rfl) (dn ⟨rfl,rfl,rfl⟩)) ?_
  refine qw rfl (wN rfl) ?_
  have hcs':qb { W with drawn:=W.drawn+1 } sb o ((b0::b1::b2::b3::b4::b5::b6::b7::l).map bv):=hcs
  refine q8 (args:=#[.agg #[],.slice (some ⟨sb,o,none⟩) (b0::b1::b2::b3::b4::b5::b6::b7::l).length cap]) ?_ (be_u64 H hu hm hb hcap hcs' hr.lt) ?_
  ·simp only[lM]
   simp (disch:=(try simp only[sP]);omega) only[eV,hv]
  rintro v1 W1 ⟨rfl,hb1⟩
  have hb1':Below W.heap.size W W1:=⟨hb1.os,hb1.tape,hb1.output,hb1.size,hb1.block⟩
  have hr1:=hr.below hb1' hr.rb_lt hr.lt
  have hS1:(fun W'=>qb W' rb 0 [v,.bool bad]) W1:=hc.below hb1' hr.rb_lt
  refine dn (qv hS1 ?_)
  refine dP rfl rfl rfl (wN rfl) (by simp only[zP,hs'];decide) hS1 (fun w' hS'=>rA (dn ⟨rfl,rfl,rfl⟩)) ?_
  refine xx ?_
  refine vX ?_
  refine vz (t:=22) (n:=8) H (by simp only[zP];omega) (by decide) (by simp) (by simp (disch:=(try simp only[sP]);omega) only[eV,h3]) hr1 ?_
  intro A2 W2 p1 p2 p3 p4 p5 p6
  simp only[zP,dF] at p1 p2
  refine dn ?_
  have hv3:A2.eval (.tmp 3)=.int .u64 ((beN [b0,b1,b2,b3,b4,b5,b6,b7]:Nat):Int):=by
   rw[p3 3 (by omega)]
   simp (disch:=(try simp only[sP]);omega) only[eV]
  refine vX (rM (rA (dn (vS (vT ?_)))))
  refine ⟨by simp only[dF];rw[p2,h2];exact hdf,.int .u64 ((beN [b0,b1,b2,b3,b4,b5,b6,b7]:Nat):Int),rO (by simp (disch:=(try simp only[sP]);omega) only[eV,hv3]),rfl,by simpa using p4,?_,fun _=>p6 (.inl (by decide))⟩
  exact (Eff.of_below hb1').trans' p5 (fun k i _ h=>h) |>.mono (fun k i _ h=>h)
end
end Go.Km
namespace Go.Km
open Go
theorem vc_goto {P:Program} {l:Nat} {Q:Exit->Act->World->Prop} {a:Act} {w:World} (h:Q (.goto l) a w):vc P (.goto l) Q a w:=h
theorem vc_label {P:Program} {l:Nat} {Q:Exit->Act->World->Prop} {a:Act} {w:World} (h:Q .normal a w):vc P (.label l) Q a w:=h
theorem bare_seq_inv {c a b:Code} (h:bare c=.seq a b):∃ x y,c=.seq x y/\bare x=a/\bare y=b:=by
 cases c with
 | seq x y =>
  simp only[bare,Code.seq.injEq] at h
  exact ⟨x,y,rfl,h.1,h.2⟩
 | region id ops d=>cases d<;>simp[bare] at h
 | _=>simp[bare] at h
theorem bare_scope_inv {c b:Code} (h:bare c=.scope b):∃ y,c=.scope y/\bare y=b:=by
 cases c with
 | scope y =>
  simp only[bare,Code.scope.injEq] at h
  exact ⟨y,rfl,h⟩
 | region id ops d=>cases d<;>simp[bare] at h
 | _=>simp[bare] at h
theorem qa.of_scope {P:Program} {f:FuncId} {np nt:Nat} {res:Array ResultVar} {r0 c1 rest:Code} (ht:Text P f np nt res (.seq r0 (.scope c1))) {l:Nat} {J:Act->World->Prop} (hl:findLabel c1 l=some rest) {args:Array Value} {w:World} {S:Value->World->Prop}
  (h:∀ a,a.tmps.size=max nt args.size->a.defers=[]->(∀ i v,args[i]? = some v->a.eval (.tmp i)=v)->vc P r0 (Exit.then (vc P c1 (Exit.jump l J (Out P res S))) (Out P res S)) a w)
  (pass:∀ a w,J a w->vc P rest (Exit.jump l (fun _ _=>False) (Out P res S)) a w):qa P f args w S:=by
 refine ⟨ht.enters,?_⟩
 obtain ⟨fn,h1,h2,h3,h4,_⟩:=ht.text
 cases hb:fn.body with
 | none=>simp[hb] at h2
 | some c0 =>
  simp only[hb,Option.map_some,Option.some.injEq] at h2
  obtain ⟨x,y,rfl,hx,hy⟩:=bare_seq_inv h2
  obtain ⟨z,rfl,hz⟩:=bare_scope_inv hy
  subst h3;subst h4
  have ha:=h { tmps:=args++Array.replicate (fn.ntmps-args.size) undef,defers:=[] } (by simp;omega) rfl (by
   intro i v hv
   have hi:i<args.size:=by
    rcases Nat.lt_or_ge i args.size with h | h
    ·exact h
    ·rw[Array.getElem?_eq_none h] at hv;cases hv
   simp only[Act.eval]
   rw[Array.getD_eq_getD_getElem?,Array.getElem?_append_left hi,hv]
   rfl)
  have hf:∃ r,findLabel z l=some r/\bare r=rest:=by
   have:=vb z l
   rw[hz,hl] at this
   cases hr:findLabel z l with
   | none=>rw[hr] at this;cases this
   | some r =>
    rw[hr,Option.map_some,Option.some.injEq] at this
    exact ⟨r,rfl,this.symm⟩
  obtain ⟨r,hr,hbr⟩:=hf
  have hres:∀ t,results { (default:Func) with results:=fn.results } t=results fn t:=fun t=>rfl
  refine calls_of_wp h1 hb (wp_mono (Q:=Out P fn.results S) (wp_seq (wp_mono (wJ x (vc_bare x (hx ▸ ha))) ?_)) ?_)
  ·intro e a w h
   cases e with
   | normal =>
    refine wp_scope_jumps l J (fun _ _=>0) hr (wJ z (vc_bare z (hz ▸ h))) ?_
    intro a w hJ
    refine wp_mono (wJ r (vc_bare r (hbr ▸ pass a w hJ))) ?_
    intro e a w h
    cases e with
    | goto k=>exact h.2.elim
    | _=>exact h
   | _=>exact h
  ·intro e a w h
   cases e with
   | normal=>exact ⟨h.1,let ⟨v,hv,hs⟩:=h.2;⟨v,(hres _) ▸ hv,v,rfl,hs⟩⟩
   | ret=>exact ⟨h.1,let ⟨v,hv,hs⟩:=h.2;⟨v,(hres _) ▸ hv,v,rfl,hs⟩⟩
   | _=>exact h.elim
end Go.Km
namespace Go.Km
open Go Go.RowKit
attribute [local irreducible] vc rO_ qz qI qF
def xU:Nat->Nat->List UInt8->Option (Nat × Nat)
 | _,_,[]=>none
 | i,acc,b::r=>if i=4 then (if b.toNat<=15 then some (acc+b.toNat*2 ^ 28,5) else none) else if b.toNat<128 then some (acc+b.toNat*2 ^ (7*i),i+1) else xU (i+1) (acc+b.toNat % 128*2 ^ (7*i)) r
def qp (st:RSt):Nat × RSt:=match xU 0 0 st.1 with | none=>(0,[],true) | some (v,n)=>(v,st.1.drop n,st.2)
theorem uvDec_lt:∀ (l:List UInt8) (i acc v n:Nat),acc<2 ^ (7*i)->i<=4->xU i acc l=some (v,n)->v<4294967296/\n<=i+l.length/\i<n
 | [],i,acc,v,n,_,_,h=>by cases h
 | b::r,i,acc,v,n,ha,hi,h=>by
  have hb:=b.toNat_lt
  unfold xU at h
  split at h
  ·rename_i h4
   subst h4
   split at h
   ·simp only[Option.some.injEq,Prod.mk.injEq] at h
    obtain ⟨rfl,rfl⟩:=h
    simp only[List.length_cons]
    have:(2:Nat) ^ (7*4)=268435456:=by decide
    have h28:(2:Nat) ^ 28=268435456:=by decide
    rw[this] at ha
    rw[h28]
    omega
   ·cases h
  ·rename_i h4
   have hp:2 ^ (7*(i+1))=2 ^ (7*i)*128:=by rw[show 7*(i+1)=7*i+7 by omega,Nat.pow_add]
   have hbig:2 ^ (7*(i+1))<=2 ^ 28:=Nat.pow_le_pow_right (by decide) (by omega)
   have h28:(2:Nat) ^ 28=268435456:=by decide
   rw[h28] at hbig
   have hmul:∀ x:Nat,x<128->acc+x*2 ^ (7*i)<2 ^ (7*(i+1)):=fun x hx=>by
    have:x*2 ^ (7*i)<=127*2 ^ (7*i):=Nat.mul_le_mul_right _ (by omega)
    rw[hp]
    omega
   split at h
   ·rename_i h1
    simp only[Option.some.injEq,Prod.mk.injEq] at h
    obtain ⟨rfl,rfl⟩:=h
    have:=hmul b.toNat h1
    simp only[List.length_cons]
    omega
   ·have:=uvDec_lt r (i+1) _ v n (hmul (b.toNat % 128) (Nat.mod_lt _ (by decide))) (by omega) h
    simp only[List.length_cons]
    omega
theorem qJ {P:Program} {w:World} {a:Act} {t u:Nat} {v x:Value} (h:a.eval (.tmp t)=v) (h2:a.eval (.tmp u)=x):(results { (default:Func) with results:=#[.tmp t,.tmp u] } a.tmps).run P w=.ok (.tuple #[v,x]) w:=by
 subst h;subst h2
 simp[results,Act.eval]
section
variable {P : Program} {E : Env} {a : Act} {w : World} {r : List Oper} {Q : Exit → Act → World → Prop}
theorem r_and127 {d xt x c yt ty p af g} {n:Nat} (hx:a.eval x=.int .u8 (n:Int)) (hc:c=.const (.int .u8 127)) (hn:n<256) (h:rO_ P Q r (a.put (some d) (.int .u8 ((n % 128:Nat):Int))) w):rO_ P Q (⟨some d,.binOp .and xt x c yt,ty,p,af,g⟩::r) a w:=by
 subst hc
 refine yV (v:=.int .u8 ((n % 128:Nat):Int)) hx rfl (by simp) ?_ h
 have:=u8_and_nat n 127 hn (by decide)
 rw[show n &&& 127=n % 128 from Nat.and_two_pow_sub_one_eq_mod n 7] at this
 show (pure (Value.int .u8 (bits .and .u8 (n:Int) 127)):Sem Value)=_
 rw[show (127:Int)=((127:Nat):Int) from rfl,this]
theorem r_and128 {d xt x c yt ty p af g} {n:Nat} (hx:a.eval x=.int .u8 (n:Int)) (hc:c=.const (.int .u8 128)) (hn:n<256) (h:rO_ P Q r (a.put (some d) (.int .u8 ((if n<128 then 0 else 128:Nat):Int))) w):rO_ P Q (⟨some d,.binOp .and xt x c yt,ty,p,af,g⟩::r) a w:=by
 subst hc
 refine yV (v:=.int .u8 ((if n<128 then 0 else 128:Nat):Int)) hx rfl (by simp) ?_ h
 have:=u8_and_nat n 128 hn (by decide)
 have hd:∀ n,n<256->n &&& 128=if n<128 then 0 else 128:=by decide +kernel
 rw[hd n hn] at this
 show (pure (Value.int .u8 (bits .and .u8 (n:Int) 128)):Sem Value)=_
 rw[show (128:Int)=((128:Nat):Int) from rfl,this]
theorem qk {d x i t p af g} {vs:Array Value} {v:Value} (hx:a.eval x=.tuple vs) (hv:vs[i]? = some v) (h:rO_ P Q r (a.put (some d) v) w):rO_ P Q (⟨some d,.extract x i,t,p,af,g⟩::r) a w:=by
 refine st ?_
 have hr:(Instr.extract (a.eval x) i).run P w=.ok v w:=by rw[hx];simp[Instr.extract,hv]
 simp only[Oper.wp,execOp,Sem.run_bind,hr,Sem.run_pure,Result.andThen_ok,Oper.upon_value]
 exact h
end
section
variable {P : Program} {E : Env}
theorem uv_test (H:REnv P E) {t i:Nat} {A:Act} {W:World} {Q:Exit->Act->World->Prop} {rest:List Code} {l:List UInt8} {q o cap acc:Nat} {b:UInt8} (hs:t+9<=A.tmps.size) (ht:6<=t)
  (e0:A.eval (.tmp 0)=.slice (some ⟨q,o,none⟩) l.length cap) (hc:qb W q o (l.map bv)) (hi:l[i]? = some b) (e4:A.eval (.tmp 4)=.int .u32 (acc:Int)) (e5:A.eval (.tmp 5)=.int .i64 0)
  (h1:b.toNat<128->∀ A',A'.defers=A.defers->A'.eval (.tmp 2)=.int .u32 (acc:Int)->A'.eval (.tmp 3)=.int .i64 ((i+1:Nat):Int)->Q .ret A' W)
  (h2:¬ b.toNat<128->l.length<i+2->∀ A',A'.tmps.size=A.tmps.size->A'.defers=A.defers->A'.eval (.tmp 5)=.int .i64 0->Q (.goto 0) A' W)
  (h3:¬ b.toNat<128->i+2<=l.length->∀ A',A'.tmps.size=A.tmps.size->A'.defers=A.defers->A'.eval (.tmp 0)=.slice (some ⟨q,o,none⟩) l.length cap->A'.eval (.tmp 4)=.int .u32 (acc:Int)->A'.eval (.tmp 5)=.int .i64 0->vc P (sq rest) Q A' W) :
  vc P (sq ((sq [(rg [(oQ t (.move (.tmp 0)) E.tB),(oQ (t+1) (.indexAddr E.tB (.tmp t) (.const (.int .i64 (i:Int)))) 0),(oQ (t+2) (.load E.tU8 (.tmp (t+1))) E.tU8),
      (oQ (t+3) (.binOp .and E.tU8 (.tmp (t+2)) (.const (.int .u8 128)) E.tU8) E.tU8),(oQ (t+4) (.binOp .eql E.tU8 (.tmp (t+3)) (.const (.int .u8 0)) E.tU8) E.tO)]),
     (.cond (.tmp (t+4))
      (sq [(rg [(oQ (t+5) (.move (.tmp 4)) E.tW),(oQ 2 (.assign (.tmp (t+5))) E.tW),(oQ 3 (.assign (.const (.int .i64 ((i+1:Nat):Int)))) E.tI)]),.ret])
      (sq [(rg [(oQ (t+6) (.move (.tmp 0)) E.tB),(oQ (t+7) (.call { callee:=.builtin .len,args:=#[(.tmp (t+6))],argTypes:=#[E.tB] }) E.tI),(oQ (t+8) (.binOp .lss E.tI (.tmp (t+7)) (.const (.int .i64 ((i+2:Nat):Int))) E.tI) E.tO)]),
       (.cond (.tmp (t+8)) (.goto 0) .skip)]))])::rest)) Q A W:=by
 have hsl:=rB H.row
 have hil:i<l.length:=by
  rcases Nat.lt_or_ge i l.length with h | h
  ·exact h
  ·rw[List.getElem?_eq_none h] at hi;cases hi
 have hcell:W.cell? ⟨q,o+i*1,none⟩=some (bv b):=by
  rw[Nat.mul_one]
  exact hc i _ (by rw[List.getElem?_map,hi];rfl)
 refine vS (vX (rM ?_))
 refine qA (k:=.i64) (j:=i) (b:=q) (o:=o) (len:=l.length) (cap:=cap) hsl (by simp (disch:=(try simp only[sP]);omega) only[eV,e0]) rfl hil ?_
 refine rL (b:=q) (o:=o+i*1) (v:=bv b) (by simp (disch:=(try simp only[sP]);omega) only[eV]) H.oU8 hcell ?_
 refine r_and128 (n:=b.toNat) (by (try simp (disch:=(try simp only[sP]);omega) only[eV])<;>(first | rfl | assumption)) rfl b.toNat_lt ?_
 refine xA (k:=.u8) (m:=((if b.toNat<128 then 0 else 128:Nat):Int)) (n:=0) (by simp (disch:=(try simp only[sP]);omega) only[eV]) rfl ?_
 refine dn ?_
 refine vS (vC (t:=decide (b.toNat<128)) ?_ ?_ ?_)
 ·simp (disch:=(try simp only[sP]);omega) only[eV]
  by_cases h:b.toNat<128<;>simp[h]
 ·intro h
  have h':b.toNat<128:=by simpa using h
  refine vX (rM (rA (rA (dn (vS (vT ?_))))))
  exact h1 h' _ (by simp only[dF]) (by simp (disch:=(try simp only[sP]);omega) only[eV,e4]) (by simp (disch:=(try simp only[sP]);omega) only[eV])
 ·intro h
  have h':¬ b.toNat<128:=by simpa using h
  refine vX (rM ?_)
  refine qY (ad:=some ⟨q,o,none⟩) (n:=l.length) (c:=cap) hsl (by simp (disch:=(try simp only[sP]);omega) only[eV,e0]) ?_
  refine qW (k:=.i64) (m:=(l.length:Int)) (n:=((i+2:Nat):Int)) (by simp (disch:=(try simp only[sP]);omega) only[eV]) rfl ?_
  refine dn ?_
  refine vS (vC (t:=decide ((l.length:Int)<((i+2:Nat):Int))) (by simp (disch:=(try simp only[sP]);omega) only[eV]) ?_ ?_)
  ·intro h4
   have h4':l.length<i+2:=by simp at h4;omega
   refine vc_goto ?_
   exact h2 h' h4' _ (by simp only[zP]) (by simp only[dF]) (by simp (disch:=(try simp only[sP]);omega) only[eV,e5])
  ·intro h4
   have h4':i+2<=l.length:=by simp at h4;omega
   refine vK (vN (vN ?_))
   exact h3 h' h4' _ (by simp only[zP]) (by simp only[dF]) (by simp (disch:=(try simp only[sP]);omega) only[eV,e0]) (by simp (disch:=(try simp only[sP]);omega) only[eV,e4]) (by simp (disch:=(try simp only[sP]);omega) only[eV,e5])
theorem uv_acc (H:REnv P E) (hu:qs P E.tW=some .u32) {t i mm sh:Nat} {A:Act} {W:World} {Q:Exit->Act->World->Prop} {rest:List Code} {l:List UInt8} {q o cap acc:Nat} {b:UInt8} (hs:t+8<=A.tmps.size) (ht:6<=t) (hmm:2 ^ sh=mm) (hsh:2 ^ (min sh IntKind.u32.bits)=mm) (hacc:acc<mm) (hm128:mm*128<=268435456)
  (e0:A.eval (.tmp 0)=.slice (some ⟨q,o,none⟩) l.length cap) (hc:qb W q o (l.map bv)) (hi:l[i]? = some b) (e4:A.eval (.tmp 4)=.int .u32 (acc:Int)) (e5:A.eval (.tmp 5)=.int .i64 0)
  (h:∀ A',A'.tmps.size=A.tmps.size->A'.defers=A.defers->A'.eval (.tmp 0)=.slice (some ⟨q,o,none⟩) l.length cap->A'.eval (.tmp 4)=.int .u32 ((acc+b.toNat % 128*mm:Nat):Int)->A'.eval (.tmp 5)=.int .i64 0->vc P (sq rest) Q A' W) :
  vc P (sq ((rg [(oQ t (.move (.tmp 4)) E.tW),(oQ (t+1) (.move (.tmp 0)) E.tB),(oQ (t+2) (.indexAddr E.tB (.tmp (t+1)) (.const (.int .i64 (i:Int)))) 0),(oQ (t+3) (.load E.tU8 (.tmp (t+2))) E.tU8),
     (oQ (t+4) (.binOp .and E.tU8 (.tmp (t+3)) (.const (.int .u8 127)) E.tU8) E.tU8),(oQ (t+5) (.convert E.tU8 E.tW (.tmp (t+4))) E.tW),(oQ (t+6) (.binOp .shl E.tW (.tmp (t+5)) (.const (.int .u64 (sh:Int))) E.tUint) E.tW),
     (oQ (t+7) (.binOp .or E.tW (.tmp t) (.tmp (t+6)) E.tW) E.tW),(oQ 4 (.assign (.tmp (t+7))) E.tW)])::rest)) Q A W:=by
 have hsl:=rB H.row
 have hil:i<l.length:=by
  rcases Nat.lt_or_ge i l.length with h | h
  ·exact h
  ·rw[List.getElem?_eq_none h] at hi;cases hi
 have hcell:W.cell? ⟨q,o+i*1,none⟩=some (bv b):=by
  rw[Nat.mul_one]
  exact hc i _ (by rw[List.getElem?_map,hi];rfl)
 have hb7:b.toNat % 128<128:=Nat.mod_lt _ (by decide)
 have hmul:b.toNat % 128*mm<4294967296:=by
  have:b.toNat % 128*mm<=128*mm:=Nat.mul_le_mul_right _ (by omega)
  omega
 refine vX (rM (rM ?_))
 refine qA (k:=.i64) (j:=i) (b:=q) (o:=o) (len:=l.length) (cap:=cap) hsl (by simp (disch:=(try simp only[sP]);omega) only[eV,e0]) rfl hil ?_
 refine rL (b:=q) (o:=o+i*1) (v:=bv b) (by simp (disch:=(try simp only[sP]);omega) only[eV]) H.oU8 hcell ?_
 refine r_and127 (n:=b.toNat) (by (try simp (disch:=(try simp only[sP]);omega) only[eV])<;>(first | rfl | assumption)) rfl b.toNat_lt ?_
 refine zf (K:=4294967296) (n:=b.toNat % 128) H.u8 hu (by decide) (by simp (disch:=(try simp only[sP]);omega) only[eV]) (by omega) ?_
 refine jS (k:=.u32) (n:=b.toNat % 128) (c:=sh) (mm:=mm) (K:=4294967296) (by decide) (by simp (disch:=(try simp only[sP]);omega) only[eV]) rfl hsh hmul ?_
 refine y3 (k:=.u32) (m:=acc) (n:=b.toNat % 128*mm) (v:=acc+b.toNat % 128*mm) (K:=4294967296) (by decide) (by simp (disch:=(try simp only[sP]);omega) only[eV,e4]) (by simp (disch:=(try simp only[sP]);omega) only[eV]) (j9 sh hmm hacc) (by omega) hmul ?_
 refine rA (dn ?_)
 exact h _ (by simp only[zP]) (by simp only[dF]) (by simp (disch:=(try simp only[sP]);omega) only[eV,e0]) (by simp (disch:=(try simp only[sP]);omega) only[eV]) (by simp (disch:=(try simp only[sP]);omega) only[eV,e5])
theorem xQ {i acc:Nat} {b:UInt8} {r:List UInt8} (hi:i<4):xU i acc (b::r)=if b.toNat<128 then some (acc+b.toNat*2 ^ (7*i),i+1) else xU (i+1) (acc+b.toNat % 128*2 ^ (7*i)) r:=by
 rw[xU,if_neg (by omega)]
theorem uvDec_four {acc:Nat} {b:UInt8} {r:List UInt8}:xU 4 acc (b::r)=if b.toNat<=15 then some (acc+b.toNat*2 ^ 28,5) else none:=by
 rw[xU,if_pos rfl]
theorem k_uv (H:REnv P E) (hu:qs P E.tW=some .u32) (ht:Text P E.kUv 1 87 #[.tmp 2,.tmp 3] (c_kUv E)) {W:World} {sb:Nat} {v:Value} {l:List UInt8} (hv:j5 W sb v l) :
  qa P E.kUv #[v] W fun x w'=>w'=W/\∃ a n:Int,x=.tuple #[.int .u32 a,.int .i64 n]/\(match xU 0 0 l with | some (val,k)=>a=val/\n=k | none=>a=0/\n<=0):=by
 have hsl:=rB H.row
 obtain ⟨ad,cap,hvf,hcap⟩:=hv.form
 unfold c_kUv at ht
 refine qa.of_scope (l:=0) (J:=fun A w'=>w'=W/\A.tmps.size=87/\A.defers=[]/\xU 0 0 l=none/\∃ m:Int,A.eval (.tmp 5)=.int .i64 m/\m<=0) ht rfl ?_ ?_
 ·intro a hsz hdf harg
  have hsz':a.tmps.size=87:=by rw[hsz];rfl
  have e0:=harg 0 v (by simp)
  refine vR (by simp) ?_
  refine rA (rA (dn (vX (rA (dn (vX (rA (dn ?_))))))))
  refine vS (vX (rM ?_))
  refine qY (ad:=ad) (n:=l.length) (c:=cap) hsl (by simp (disch:=(try simp only[sP]);omega) only[eV,e0,hvf]) ?_
  refine qW (k:=.i64) (m:=(l.length:Int)) (n:=1) (by simp (disch:=(try simp only[sP]);omega) only[eV]) rfl ?_
  refine dn ?_
  refine vS (vC (t:=decide ((l.length:Int)<1)) (by simp (disch:=(try simp only[sP]);omega) only[eV]) ?_ ?_)
  ·intro h
   have h':l=[]:=List.eq_nil_of_length_eq_zero (by simp at h;omega)
   refine vc_goto ?_
   exact ⟨rfl,rfl,by simp only[zP];exact hsz',by simp only[dF];exact hdf,by rw[h'];rfl,0,(by simp (disch:=(try simp only[sP]);omega) only[eV]),by omega⟩
  intro h
  refine vK (vN ?_)
  have hlen:0<l.length:=by simp at h;omega
  obtain ⟨q,o,rfl,hc⟩:∃ q o,ad=some ⟨q,o,none⟩/\qb W q o (l.map bv):=by
   rcases hv with ⟨_,h0⟩ | ⟨o,c,h1,h2,h3⟩
   ·rw[h0] at hlen;simp at hlen
   ·rw[h1] at hvf
    simp only[Value.slice.injEq] at hvf
    exact ⟨sb,o,hvf.1.symm,h3⟩
  obtain ⟨b0,l1,rfl⟩:∃ b r,l=b::r:=by
   cases l with
   | nil=>simp at hlen
   | cons b r=>exact ⟨b,r,rfl⟩
  have hb0:=b0.toNat_lt
  refine vX (rM ?_)
  refine qA (k:=.i64) (j:=0) (b:=q) (o:=o) (len:=(b0::l1).length) (cap:=cap) hsl (by simp (disch:=(try simp only[sP]);omega) only[eV,e0,hvf]) rfl hlen ?_
  refine rL (b:=q) (o:=o+0*1) (v:=bv b0) (by simp (disch:=(try simp only[sP]);omega) only[eV]) H.oU8 (hc 0 _ rfl) ?_
  refine r_and127 (n:=b0.toNat) (by (try simp (disch:=(try simp only[sP]);omega) only[eV])<;>(first | rfl | assumption)) rfl hb0 ?_
  refine zf (K:=4294967296) (n:=b0.toNat % 128) H.u8 hu (by decide) (by simp (disch:=(try simp only[sP]);omega) only[eV]) (by omega) ?_
  refine rA (dn ?_)
  refine uv_test (t:=14) (i:=0) (q:=q) (o:=o) (cap:=cap) (l:=b0::l1) (b:=b0) (acc:=b0.toNat % 128) H (by simp only[zP];omega) (by decide) (by simp (disch:=(try simp only[sP]);omega) only[eV,e0,hvf]) hc rfl (by simp (disch:=(try simp only[sP]);omega) only[eV]) (by simp (disch:=(try simp only[sP]);omega) only[eV]) ?_ ?_ ?_
  ·intro hlt A' p1 p2 p3
   refine ⟨by rw[p1];simp only[dF];exact hdf,_,qJ p2 p3,rfl,_,_,rfl,?_⟩
   rw[xQ (by decide),if_pos hlt]
   simp[Nat.mod_eq_of_lt hlt]
  ·intro hge hsh A' p1 p2 p3
   refine ⟨rfl,rfl,by rw[p1];simp only[zP];exact hsz',by rw[p2];simp only[dF];exact hdf,?_,0,p3,by omega⟩
   have:l1=[]:=List.eq_nil_of_length_eq_zero (by simp at hsh;omega)
   subst this
   rw[xQ (by decide),if_neg hge]
   rfl
  intro hge0 hlen1 A1 p1 p2 p3 p4 p5
  simp only[zP,dF] at p1 p2
  obtain ⟨b1,l2,rfl⟩:∃ b r,l1=b::r:=by
   cases l1 with
   | nil=>simp at hlen1
   | cons b r=>exact ⟨b,r,rfl⟩
  have e1:xU 0 0 (b0::b1::l2)=xU 1 (b0.toNat % 128) (b1::l2):=by
   rw[xQ (by decide),if_neg hge0]
   simp
  have hm0:b0.toNat % 128<128:=Nat.mod_lt _ (by decide)
  refine uv_acc (t:=23) (i:=1) (mm:=128) (sh:=7) (l:=b0::b1::l2) (b:=b1) (acc:=b0.toNat % 128) H hu (by omega) (by decide) rfl rfl hm0 (by decide) p3 hc rfl p4 p5 ?_
  intro A2 q1 q2 q3 q4 q5
  refine uv_test (t:=31) (i:=1) (l:=b0::b1::l2) (b:=b1) H (by omega) (by decide) q3 hc rfl q4 q5 ?_ ?_ ?_
  ·intro hlt A' r1 r2 r3
   refine ⟨by rw[r1,q2,p2];exact hdf,_,qJ r2 r3,rfl,_,_,rfl,?_⟩
   rw[e1,xQ (by decide),if_pos hlt]
   simp[Nat.mod_eq_of_lt hlt]
  ·intro hge hsh A' r1 r2 r3
   refine ⟨rfl,rfl,by omega,by rw[r2,q2,p2];exact hdf,?_,0,r3,by omega⟩
   have:l2=[]:=List.eq_nil_of_length_eq_zero (by simp at hsh;omega)
   subst this
   rw[e1,xQ (by decide),if_neg hge]
   rfl
  intro hge1 hlen2 A3 r1 r2 r3 r4 r5
  obtain ⟨b2,l3,rfl⟩:∃ b r,l2=b::r:=by
   cases l2 with
   | nil=>simp at hlen2
   | cons b r=>exact ⟨b,r,rfl⟩
  have hm1:b1.toNat % 128<128:=Nat.mod_lt _ (by decide)
  have e2:xU 0 0 (b0::b1::b2::l3)=xU 2 (b0.toNat % 128+b1.toNat % 128*128) (b2::l3):=by
   rw[e1,xQ (by decide),if_neg hge1]
  generalize hA2:b0.toNat % 128+b1.toNat % 128*128=acc2 at *
  have ha2:acc2<16384:=by omega
  refine uv_acc (t:=40) (i:=2) (mm:=16384) (sh:=14) (l:=b0::b1::b2::l3) (b:=b2) (acc:=acc2) H hu (by omega) (by decide) rfl rfl ha2 (by decide) r3 hc rfl r4 r5 ?_
  intro A4 s1 s2 s3 s4 s5
  refine uv_test (t:=48) (i:=2) (l:=b0::b1::b2::l3) (b:=b2) H (by omega) (by decide) s3 hc rfl s4 s5 ?_ ?_ ?_
  ·intro hlt A' t1 t2 t3
   refine ⟨by rw[t1,s2,r2,q2,p2];exact hdf,_,qJ t2 t3,rfl,_,_,rfl,?_⟩
   rw[e2,xQ (by decide),if_pos hlt,Nat.mod_eq_of_lt hlt]
   exact ⟨rfl,rfl⟩
  ·intro hge hsh A' t1 t2 t3
   refine ⟨rfl,rfl,by omega,by rw[t2,s2,r2,q2,p2];exact hdf,?_,0,t3,by omega⟩
   have:l3=[]:=List.eq_nil_of_length_eq_zero (by simp at hsh;omega)
   subst this
   rw[e2,xQ (by decide),if_neg hge]
   rfl
  intro hge2 hlen3 A5 t1 t2 t3 t4 t5
  obtain ⟨b3,l4,rfl⟩:∃ b r,l3=b::r:=by
   cases l3 with
   | nil=>simp at hlen3
   | cons b r=>exact ⟨b,r,rfl⟩
  have hm2:b2.toNat % 128<128:=Nat.mod_lt _ (by decide)
  have e3:xU 0 0 (b0::b1::b2::b3::l4)=xU 3 (acc2+b2.toNat % 128*16384) (b3::l4):=by
   rw[e2,xQ (by decide),if_neg hge2]
  generalize hA3:acc2+b2.toNat % 128*16384=acc3 at *
  have ha3:acc3<2097152:=by omega
  refine uv_acc (t:=57) (i:=3) (mm:=2097152) (sh:=21) (l:=b0::b1::b2::b3::l4) (b:=b3) (acc:=acc3) H hu (by omega) (by decide) rfl rfl ha3 (by decide) t3 hc rfl t4 t5 ?_
  intro A6 u1 u2 u3 u4 u5
  refine uv_test (t:=65) (i:=3) (l:=b0::b1::b2::b3::l4) (b:=b3) H (by omega) (by decide) u3 hc rfl u4 u5 ?_ ?_ ?_
  ·intro hlt A' x1 x2 x3
   refine ⟨by rw[x1,u2,t2,s2,r2,q2,p2];exact hdf,_,qJ x2 x3,rfl,_,_,rfl,?_⟩
   rw[e3,xQ (by decide),if_pos hlt,Nat.mod_eq_of_lt hlt]
   exact ⟨rfl,rfl⟩
  ·intro hge hsh A' x1 x2 x3
   refine ⟨rfl,rfl,by omega,by rw[x2,u2,t2,s2,r2,q2,p2];exact hdf,?_,0,x3,by omega⟩
   have:l4=[]:=List.eq_nil_of_length_eq_zero (by simp at hsh;omega)
   subst this
   rw[e3,xQ (by decide),if_neg hge]
   rfl
  intro hge3 hlen4 A7 x1 x2 x3 x4 x5
  obtain ⟨b4,l5,rfl⟩:∃ b r,l4=b::r:=by
   cases l4 with
   | nil=>simp at hlen4
   | cons b r=>exact ⟨b,r,rfl⟩
  have hm3:b3.toNat % 128<128:=Nat.mod_lt _ (by decide)
  have hb4:=b4.toNat_lt
  have e4:xU 0 0 (b0::b1::b2::b3::b4::l5)=xU 4 (acc3+b3.toNat % 128*2097152) (b4::l5):=by
   rw[e3,xQ (by decide),if_neg hge3]
  generalize hA4:acc3+b3.toNat % 128*2097152=acc4 at *
  have ha4:acc4<268435456:=by omega
  have hd2:A7.defers=[]:=by rw[x2,u2,t2,s2,r2,q2,p2];exact hdf
  have hz2:A7.tmps.size=87:=by omega
  have hle:(b0::b1::b2::b3::b4::l5).length<=cap:=hcap
  refine vX (rM (rM ?_))
  refine qA (k:=.i64) (j:=4) (b:=q) (o:=o) (len:=(b0::b1::b2::b3::b4::l5).length) (cap:=cap) hsl (by simp (disch:=(try simp only[sP]);omega) only[eV,x3]) rfl hlen4 ?_
  refine rL (b:=q) (o:=o+4*1) (v:=bv b4) (by simp (disch:=(try simp only[sP]);omega) only[eV]) H.oU8 (hc 4 _ rfl) ?_
  refine zf (K:=4294967296) (n:=b4.toNat) H.u8 hu (by decide) (by (try simp (disch:=(try simp only[sP]);omega) only[eV])<;>(first | rfl | assumption)) hb4 ?_
  refine r_shl (k:=.u32) (m:=(b4.toNat:Int)) (k':=.u64) (n:=28) (by simp (disch:=(try simp only[sP]);omega) only[eV]) rfl (by decide) ?_
  have hw:IntKind.u32.wrap ((b4.toNat:Int)*2 ^ (min (28:Int).toNat IntKind.u32.bits))=((b4.toNat % 16*268435456:Nat):Int):=by
   rw[show (2:Int) ^ (min (28:Int).toNat IntKind.u32.bits)=268435456 by decide,jM]
   omega
  rw[hw]
  refine y3 (k:=.u32) (m:=acc4) (n:=b4.toNat % 16*268435456) (v:=acc4+b4.toNat % 16*268435456) (K:=4294967296) (by decide) (by simp (disch:=(try simp only[sP]);omega) only[eV,x4]) (by simp (disch:=(try simp only[sP]);omega) only[eV]) (j9 28 (by decide) ha4) (by omega) (by omega) ?_
  refine rA (dn (vS (vX (rM ?_))))
  refine qA (k:=.i64) (j:=4) (b:=q) (o:=o) (len:=(b0::b1::b2::b3::b4::l5).length) (cap:=cap) hsl (by simp (disch:=(try simp only[sP]);omega) only[eV,x3]) rfl hlen4 ?_
  refine rL (b:=q) (o:=o+4*1) (v:=bv b4) (by simp (disch:=(try simp only[sP]);omega) only[eV]) H.oU8 (hc 4 _ rfl) ?_
  refine vO (k:=.u8) (m:=(b4.toNat:Int)) (n:=15) (by (try simp (disch:=(try simp only[sP]);omega) only[eV])<;>(first | rfl | assumption)) rfl ?_
  refine dn ?_
  refine vS (vC (t:=decide ((b4.toNat:Int)<=15)) (by simp (disch:=(try simp only[sP]);omega) only[eV]) ?_ ?_)
  ·intro h15
   have h15':b4.toNat<=15:=by simp at h15;omega
   refine vX (rM (rA (rA (dn (vS (vT ?_))))))
   refine ⟨by simp only[dF];exact hd2,.tuple #[.int .u32 ((acc4+b4.toNat % 16*268435456:Nat):Int),.int .i64 5],qJ (by simp (disch:=(try simp only[sP]);omega) only[eV]) (by simp (disch:=(try simp only[sP]);omega) only[eV]),rfl,_,_,rfl,?_⟩
   rw[e4,uvDec_four,if_pos h15',Nat.mod_eq_of_lt (by omega)]
   exact ⟨rfl,rfl⟩
  ·intro h15
   have h15':¬ b4.toNat<=15:=by simp at h15;omega
   refine vK (vN (vX (rA (dn ?_))))
   refine vS (vc_label ?_)
   refine vX (rM (rA (rA (dn (vS (vT ?_))))))
   refine ⟨by simp only[dF];exact hd2,.tuple #[.int .u32 0,.int .i64 (-5)],qJ (by simp (disch:=(try simp only[sP]);omega) only[eV]) (by simp (disch:=(try simp only[sP]);omega) only[eV]),rfl,_,_,rfl,?_⟩
   rw[e4,uvDec_four,if_neg h15']
   exact ⟨rfl,by omega⟩
 ·rintro a w ⟨rfl,hz2,hd2,hnone,m,h5,hm⟩
  refine vS (c:=.skip) (r:=[(rg [(oQ 86 (.move (.tmp 5)) E.tI),
     (oQ 2 (.assign (.const (.int .u32 0))) E.tW),
     (oQ 3 (.assign (.tmp 86)) E.tI)]),.ret]) ?_
  refine vK (vX (rM (rA (rA (dn (vS (vT ?_)))))))
  refine ⟨by simp only[dF];exact hd2,.tuple #[.int .u32 0,.int .i64 m],qJ (by simp (disch:=(try simp only[sP]);omega) only[eV]) (by simp (disch:=(try simp only[sP]);omega) only[eV,h5]),rfl,_,_,rfl,?_⟩
  rw[hnone]
  exact ⟨rfl,hm⟩
end
end Go.Km
