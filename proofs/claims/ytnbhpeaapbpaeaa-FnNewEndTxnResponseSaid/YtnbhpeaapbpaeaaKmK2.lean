/- What kbin's functions that write do: texts, octets, counts. -/
import Derived.Test.YtnbhpeaapbpaeaaKmK
set_option linter.unusedSimpArgs false
set_option linter.unusedVariables false
namespace Go.Km
open Go Go.RowKit
attribute [local irreducible] vc runOps runG runS runD

section
variable {P : Program} {a : Act} {w : World} {r : List Oper} {Q : Exit → Act → World → Prop}
/-- A pointer against nil. -/
theorem r_eqNilP {d T x ty p af g ad} {e : TypeId} (hT : P.underlying T = some (.pointer e)) (hx : a.eval x = .pointer ad) (h : runOps P Q r (a.put (some d) (.bool ad.isNone)) w) :
    runOps P Q (⟨some d, .binOp .eql T x (.const (.pointer none)) T, ty, p, af, g⟩ :: r) a w := by
  refine st ?_
  have hb : (binOp .eql T (.pointer ad) (.pointer none)).run P w = .ok (.bool ad.isNone) w := by
    have h0 : ∀ k : Nat, (Op.equalIn (k + 1) T (.pointer ad) (.pointer none)).run P w = .ok ad.isNone w := fun k => by
      cases ad <;> simp [Op.equalIn, run_underlying hT]
    simp only [binOp]
    simp [Op.equal, Op.maxDepth, h0 9999]
  have hg : (eqGuard .eql T x (.const (.pointer none)) (.pointer ad) (.pointer none)) = pure () := by cases ad <;> rfl
  simp only [Oper.wp, execOp, hx, eval_const, hg, hb, Sem.run_bind, Sem.run_pure, Result.andThen_ok, Oper.upon_value]
  exact h
/-- A whole array as a slice. -/
theorem r_sliceArr {d t x ty p af g b n s} {e : TypeId} (hu : P.underlying t = some (.array n e)) (hs : (P.info? e).map (·.size) = some s) (hx : a.eval x = .pointer (some ⟨b, 0, none⟩)) (h : runOps P Q r (a.put (some d) (.slice (some ⟨b, 0, none⟩) n n)) w) :
    runOps P Q (⟨some d, .slice t x none none none, ty, p, af, g⟩ :: r) a w := by
  refine st ?_
  cases hi : P.info? e with
  | none => simp [hi] at hs
  | some i =>
    have hr : (Instr.sliceAt t (a.eval x) none none none).run P w = .ok (.slice (some ⟨b, 0, none⟩) n n) w := by
      rw [hx]
      by_cases hn : n = 0
      · simp [Instr.sliceAt, run_underlying hu, Instr.sureAddr, Instr.sliceBounds, sizeOf, typeInfo, hi, hn]
      · simp [Instr.sliceAt, run_underlying hu, Instr.sureAddr, Instr.sliceBounds, sizeOf, typeInfo, hi, hn, Addr.add_zero']
    simp only [Oper.wp, execOp, Sem.run_bind, Option.map_none, hr, Sem.run_pure, Result.andThen_ok, Oper.upon_value]
    exact h
/-- An octet of a text. -/
theorem r_indexStr {d t x i ty p af g k} {s : ByteArray} {j : Nat} {b : UInt8} (ht : P.underlying t = some .string) (hx : a.eval x = .string s) (hi : a.eval i = .int k (j : Int)) (hb : s[j]? = some b)
    (h : runOps P Q r (a.put (some d) (.int .u8 b.toNat)) w) : runOps P Q (⟨some d, .index t x i, ty, p, af, g⟩ :: r) a w := by
  refine st ?_
  have hr : (Instr.index t (a.eval x) (a.eval i)).run P w = .ok (.int .u8 b.toNat) w := by
    rw [hx, hi]
    simp [Instr.index, asIntOf, run_underlying ht, hb]
  simp only [Oper.wp, execOp, Sem.run_bind, hr, Sem.run_pure, Result.andThen_ok, Oper.upon_value]
  exact h
end

section
variable {P : Program} {E : Env} {w : World} {U : Nat}

theorem size_ba (l : List UInt8) : (⟨l.toArray⟩ : ByteArray).size = l.length := by simp [ByteArray.size]
theorem wrap_id16 (n : Int) : be 2 (IntKind.i16.wrap n) = be 2 n := by
  rw [be2, be2, wrap_i16, show ((n + 32768) % 65536 - 32768) / 256 % 256 = n / 256 % 256 by omega, show ((n + 32768) % 65536 - 32768) % 256 = n % 256 by omega]
theorem wrap_id32 {n : Nat} (h : n ≤ big) : IntKind.i32.wrap (n : Int) = n := by rw [wrap_i32]; unfold big at h; omega
theorem wrap_idu32 {n : Nat} (h : n ≤ big) : IntKind.u32.wrap (1 + IntKind.u32.wrap (n : Int)) = ((n + 1 : Nat) : Int) := by rw [wrap_u32, wrap_u32]; unfold big at h; omega
theorem wrap_okI16 (n : Int) : -32768 ≤ IntKind.i16.wrap n ∧ IntKind.i16.wrap n ≤ 32767 := by rw [wrap_i16]; omega

theorem k_str (ht : Text P E.wStr 2 13 #[.tmp 4] (c_wStr E)) (hB : rowB P E.tBytes E.tU8 1 = true) (i16 : intT P E.tI16 = some .i16) (ii : intT P E.tInt = some .i64) (hs9 : P.underlying E.tStr = some .string) (hc : ∀ n U w, Wr1 P E E.wI16 U [.int .i16 n] (be 2 n) w) {l : List UInt8} : Wr1 P E E.wStr U [.string ⟨l.toArray⟩] (wrStr false l) w := by
  intro dv xs hown hU hb
  refine CallsV.enter ht (by simp) ?_
  intro a hsz hdf harg
  have e0 := harg 0 dv (by simp)
  have e1 := harg 1 (.string ⟨l.toArray⟩) (by simp)
  unfold c_wStr
  refine vc_sq (vc_rg (by simp) ?_)
  refine r_assign ?_
  refine dn ?_
  have hl : l.length ≤ 2147483000 := by simp only [wrStr, List.length_append] at hb; unfold big at hb; omega
  have hw : be 2 (IntKind.i16.wrap ((⟨l.toArray⟩ : ByteArray).size : Nat)) = be 2 l.length := by rw [size_ba]; exact wrap_id16 _
  have hb2 : xs.length + (be 2 l.length).length + l.length ≤ big := by simp only [wrStr, List.length_append, Bool.false_eq_true, if_false] at hb; omega
  refine vc_sq (vc_rg (by simp) ?_)
  refine r_move ?_
  refine r_move ?_
  refine r_lenStr (by assumption) (by (try simp (disch := (first | omega | (simp only [sP]; omega))) only [eS, eN, eC, e1]) <;> (first | rfl | assumption)) ?_
  refine r_conv (by assumption) (by assumption) (by (try simp (disch := (first | omega | (simp only [sP]; omega))) only [eS, eN, eC]) <;> (first | rfl | assumption)) ?_
  refine r_call' (args := #[dv, .int .i16 (IntKind.i16.wrap ((⟨l.toArray⟩ : ByteArray).size : Nat))]) ?_ (hc _ U w dv xs hown hU (by rw [hw]; omega)) ?_
  · simp only [List.map_toArray, List.map_cons, List.map_nil]
    simp (disch := (first | omega | (simp only [sP]; omega))) only [eS, eN, eC, e0]
  intro v' w' hs
  rw [hw] at hs
  have hU' : U ≤ w'.heap.size := Nat.le_trans hU hs.2.size
  refine r_assign ?_
  refine dn ?_
  refine vc_sq (vc_rg (by simp) ?_)
  refine r_move ?_
  refine r_move ?_
  refine r_append (sz := 1) (U := U) (m := l.length) (news := l.map bv) hB (by simp (disch := (first | omega | (simp only [sP]; omega))) only [eS, eN, eC]) (by simp (disch := (first | omega | (simp only [sP]; omega))) only [eS, eN, eC, e1]) hs.1 hU' (src_str hs9 l) (by simp only [List.length_append]; omega) ?_
  intro v' w2 h1 h2
  rw [show (xs ++ be 2 ↑l.length).length + l.length = (xs ++ (be 2 ↑l.length ++ l)).length by simp only [List.length_append]; omega, ← List.map_append, List.append_assoc] at h1
  refine r_assign ?_
  refine dn ?_
  refine vc_sq (vc_ret ?_)
  exact ⟨by simp only [defers_put]; exact hdf, v', results_one (by simp (disch := (first | omega | (simp only [sP]; omega))) only [eS, eN, eC]), ⟨h1, hs.2.trans h2⟩⟩
theorem k_cstr (ht : Text P E.wCStr 2 14 #[.tmp 4] (c_wCStr E)) (hB : rowB P E.tBytes E.tU8 1 = true) (iu : intT P E.tU32 = some .u32) (ii : intT P E.tInt = some .i64) (hs9 : P.underlying E.tStr = some .string) (hc : ∀ (n : Nat) U w, n < 4294967296 → Wr1 P E E.wUvarint U [.int .u32 n] (Go.Km.uvar n) w) {l : List UInt8} : Wr1 P E E.wCStr U [.string ⟨l.toArray⟩] (wrStr true l) w := by
  intro dv xs hown hU hb
  refine CallsV.enter ht (by simp) ?_
  intro a hsz hdf harg
  have e0 := harg 0 dv (by simp)
  have e1 := harg 1 (.string ⟨l.toArray⟩) (by simp)
  unfold c_wCStr
  refine vc_sq (vc_rg (by simp) ?_)
  refine r_assign ?_
  refine dn ?_
  have hl : l.length ≤ big := by simp only [wrStr, List.length_append] at hb; omega
  have hw : IntKind.u32.wrap (1 + IntKind.u32.wrap (((⟨l.toArray⟩ : ByteArray).size : Nat) : Int)) = ((l.length + 1 : Nat) : Int) := by rw [size_ba]; exact wrap_idu32 hl
  have hb2 : xs.length + (Go.Km.uvar (l.length + 1)).length + l.length ≤ big := by simp only [wrStr, List.length_append, if_true] at hb; omega
  refine vc_sq (vc_rg (by simp) ?_)
  refine r_move ?_
  refine r_move ?_
  refine r_lenStr (by assumption) (by (try simp (disch := (first | omega | (simp only [sP]; omega))) only [eS, eN, eC, e1]) <;> (first | rfl | assumption)) ?_
  refine r_conv (by assumption) (by assumption) (by (try simp (disch := (first | omega | (simp only [sP]; omega))) only [eS, eN, eC]) <;> (first | rfl | assumption)) ?_
  refine r_add (by (try simp (disch := (first | omega | (simp only [sP]; omega))) only [eS, eN, eC]) <;> (first | rfl | assumption)) (by (try simp (disch := (first | omega | (simp only [sP]; omega))) only [eS, eN, eC]) <;> (first | rfl | assumption)) ?_
  refine r_call' (args := #[dv, .int .u32 (IntKind.u32.wrap (1 + IntKind.u32.wrap ((⟨l.toArray⟩ : ByteArray).size : Nat)))]) ?_ (by rw [hw]; exact hc (l.length + 1) U w (by unfold big at hl; omega) dv xs hown hU (by omega)) ?_
  · simp only [List.map_toArray, List.map_cons, List.map_nil]
    simp (disch := (first | omega | (simp only [sP]; omega))) only [eS, eN, eC, e0]
  intro v' w' hs
  have hU' : U ≤ w'.heap.size := Nat.le_trans hU hs.2.size
  refine r_assign ?_
  refine dn ?_
  refine vc_sq (vc_rg (by simp) ?_)
  refine r_move ?_
  refine r_move ?_
  refine r_append (sz := 1) (U := U) (m := l.length) (news := l.map bv) hB (by simp (disch := (first | omega | (simp only [sP]; omega))) only [eS, eN, eC]) (by simp (disch := (first | omega | (simp only [sP]; omega))) only [eS, eN, eC, e1]) hs.1 hU' (src_str hs9 l) (by simp only [List.length_append]; omega) ?_
  intro v' w2 h1 h2
  rw [show (xs ++ Go.Km.uvar (l.length + 1)).length + l.length = (xs ++ (Go.Km.uvar (l.length + 1) ++ l)).length by simp only [List.length_append]; omega, ← List.map_append, List.append_assoc] at h1
  refine r_assign ?_
  refine dn ?_
  refine vc_sq (vc_ret ?_)
  exact ⟨by simp only [defers_put]; exact hdf, v', results_one (by simp (disch := (first | omega | (simp only [sP]; omega))) only [eS, eN, eC]), ⟨h1, hs.2.trans h2⟩⟩
theorem oct_src {T e : TypeId} {v : Value} {o : Option (List UInt8)} (hT : sliceT P T = some (e, 1)) (hv : OctAt w U v o) (hU : U ≤ w.heap.size) :
    ∃ ad cap, v = .slice ad (o.getD []).length cap ∧ ∀ w', Below U w w' → Src P 1 T v (o.getD []).length ((o.getD []).map bv) w' := by
  cases o with
  | none =>
    simp only [OctAt] at hv
    subst hv
    exact ⟨none, 0, rfl, fun w' _ => src_nil hT⟩
  | some l =>
    obtain ⟨q, o, cap, rfl, hq, hc⟩ := hv
    exact ⟨_, cap, rfl, fun w' hw => src_cells hT (hc.below hw hq) (by simp) (bv_one l)⟩

theorem k_octs (ht : Text P E.wBytes 2 13 #[.tmp 4] (c_wBytes E)) (hB : rowB P E.tBytes E.tU8 1 = true) (i32 : intT P E.tI32 = some .i32) (ii : intT P E.tInt = some .i64) {v : Value} {o : Option (List UInt8)} (hv : OctAt w U v o) (hc : ∀ n U w, Wr1 P E E.wI32 U [.int .i32 n] (be 4 n) w) : Wr1 P E E.wBytes U [v] (wrBytes false (o.getD [])) w := by
  intro dv xs hown hU hb
  refine CallsV.enter ht (by simp) ?_
  intro a hsz hdf harg
  have e0 := harg 0 dv (by simp)
  have e1 := harg 1 (v) (by simp)
  unfold c_wBytes
  refine vc_sq (vc_rg (by simp) ?_)
  refine r_assign ?_
  refine dn ?_
  have hsl := rowB_slice hB
  obtain ⟨ad, cap, hve, hsrc⟩ := oct_src hsl hv hU
  generalize hlo : o.getD [] = l at *
  subst hve
  have hl : l.length ≤ big := by simp only [wrBytes, List.length_append] at hb; omega
  have hw : IntKind.i32.wrap (l.length : Int) = l.length := wrap_id32 hl
  have hb2 : xs.length + (be 4 l.length).length + l.length ≤ big := by simp only [wrBytes, List.length_append, Bool.false_eq_true, if_false] at hb; omega
  refine vc_sq (vc_rg (by simp) ?_)
  refine r_move ?_
  refine r_move ?_
  refine r_len (by assumption) (by (try simp (disch := (first | omega | (simp only [sP]; omega))) only [eS, eN, eC, e1]) <;> (first | rfl | assumption)) ?_
  refine r_conv (by assumption) (by assumption) (by (try simp (disch := (first | omega | (simp only [sP]; omega))) only [eS, eN, eC]) <;> (first | rfl | assumption)) ?_
  refine r_call' (args := #[dv, .int .i32 (IntKind.i32.wrap (l.length : Int))]) ?_ (by rw [hw]; exact hc _ U w dv xs hown hU (by omega)) ?_
  · simp only [List.map_toArray, List.map_cons, List.map_nil]
    simp (disch := (first | omega | (simp only [sP]; omega))) only [eS, eN, eC, e0]
  intro v' w' hs
  have hU' : U ≤ w'.heap.size := Nat.le_trans hU hs.2.size
  refine r_assign ?_
  refine dn ?_
  refine vc_sq (vc_rg (by simp) ?_)
  refine r_move ?_
  refine r_move ?_
  refine r_append (sz := 1) (U := U) (m := l.length) (news := l.map bv) hB (by simp (disch := (first | omega | (simp only [sP]; omega))) only [eS, eN, eC]) (by simp (disch := (first | omega | (simp only [sP]; omega))) only [eS, eN, eC, e1]) hs.1 hU' (hsrc _ hs.2) (by simp only [List.length_append]; omega) ?_
  intro v' w2 h1 h2
  rw [show (xs ++ be 4 ↑l.length).length + l.length = (xs ++ (be 4 ↑l.length ++ l)).length by simp only [List.length_append]; omega, ← List.map_append, List.append_assoc] at h1
  refine r_assign ?_
  refine dn ?_
  refine vc_sq (vc_ret ?_)
  exact ⟨by simp only [defers_put]; exact hdf, v', results_one (by simp (disch := (first | omega | (simp only [sP]; omega))) only [eS, eN, eC]), ⟨h1, hs.2.trans h2⟩⟩
theorem k_cocts (ht : Text P E.wCBytes 2 14 #[.tmp 4] (c_wCBytes E)) (hB : rowB P E.tBytes E.tU8 1 = true) (iu : intT P E.tU32 = some .u32) (ii : intT P E.tInt = some .i64) {v : Value} {o : Option (List UInt8)} (hv : OctAt w U v o) (hc : ∀ (n : Nat) U w, n < 4294967296 → Wr1 P E E.wUvarint U [.int .u32 n] (Go.Km.uvar n) w) : Wr1 P E E.wCBytes U [v] (wrBytes true (o.getD [])) w := by
  intro dv xs hown hU hb
  refine CallsV.enter ht (by simp) ?_
  intro a hsz hdf harg
  have e0 := harg 0 dv (by simp)
  have e1 := harg 1 (v) (by simp)
  unfold c_wCBytes
  refine vc_sq (vc_rg (by simp) ?_)
  refine r_assign ?_
  refine dn ?_
  have hsl := rowB_slice hB
  obtain ⟨ad, cap, hve, hsrc⟩ := oct_src hsl hv hU
  generalize hlo : o.getD [] = l at *
  subst hve
  have hl : l.length ≤ big := by simp only [wrBytes, List.length_append] at hb; omega
  have hw : IntKind.u32.wrap (1 + IntKind.u32.wrap (l.length : Int)) = ((l.length + 1 : Nat) : Int) := by skip; exact wrap_idu32 hl
  have hb2 : xs.length + (Go.Km.uvar (l.length + 1)).length + l.length ≤ big := by simp only [wrBytes, List.length_append, if_true] at hb; omega
  refine vc_sq (vc_rg (by simp) ?_)
  refine r_move ?_
  refine r_move ?_
  refine r_len (by assumption) (by (try simp (disch := (first | omega | (simp only [sP]; omega))) only [eS, eN, eC, e1]) <;> (first | rfl | assumption)) ?_
  refine r_conv (by assumption) (by assumption) (by (try simp (disch := (first | omega | (simp only [sP]; omega))) only [eS, eN, eC]) <;> (first | rfl | assumption)) ?_
  refine r_add (by (try simp (disch := (first | omega | (simp only [sP]; omega))) only [eS, eN, eC]) <;> (first | rfl | assumption)) (by (try simp (disch := (first | omega | (simp only [sP]; omega))) only [eS, eN, eC]) <;> (first | rfl | assumption)) ?_
  refine r_call' (args := #[dv, .int .u32 (IntKind.u32.wrap (1 + IntKind.u32.wrap (l.length : Int)))]) ?_ (by rw [hw]; exact hc (l.length + 1) U w (by unfold big at hl; omega) dv xs hown hU (by omega)) ?_
  · simp only [List.map_toArray, List.map_cons, List.map_nil]
    simp (disch := (first | omega | (simp only [sP]; omega))) only [eS, eN, eC, e0]
  intro v' w' hs
  have hU' : U ≤ w'.heap.size := Nat.le_trans hU hs.2.size
  refine r_assign ?_
  refine dn ?_
  refine vc_sq (vc_rg (by simp) ?_)
  refine r_move ?_
  refine r_move ?_
  refine r_append (sz := 1) (U := U) (m := l.length) (news := l.map bv) hB (by simp (disch := (first | omega | (simp only [sP]; omega))) only [eS, eN, eC]) (by simp (disch := (first | omega | (simp only [sP]; omega))) only [eS, eN, eC, e1]) hs.1 hU' (hsrc _ hs.2) (by simp only [List.length_append]; omega) ?_
  intro v' w2 h1 h2
  rw [show (xs ++ Go.Km.uvar (l.length + 1)).length + l.length = (xs ++ (Go.Km.uvar (l.length + 1) ++ l)).length by simp only [List.length_append]; omega, ← List.map_append, List.append_assoc] at h1
  refine r_assign ?_
  refine dn ?_
  refine vc_sq (vc_ret ?_)
  exact ⟨by simp only [defers_put]; exact hdf, v', results_one (by simp (disch := (first | omega | (simp only [sP]; omega))) only [eS, eN, eC]), ⟨h1, hs.2.trans h2⟩⟩
theorem k_len (ht : Text P E.wLen 2 9 #[.tmp 4] (c_wLen E)) (i32 : intT P E.tI32 = some .i32) (ii : intT P E.tInt = some .i64) {n : Nat} (hn : n ≤ big) (hc : ∀ n U w, Wr1 P E E.wI32 U [.int .i32 n] (be 4 n) w) : Wr1 P E E.wLen U [.int .i64 n] (wrLen false n) w := by
  intro dv xs hown hU hb
  refine CallsV.enter ht (by simp) ?_
  intro a hsz hdf harg
  have e0 := harg 0 dv (by simp)
  have e1 := harg 1 (.int .i64 n) (by simp)
  unfold c_wLen
  refine vc_sq (vc_rg (by simp) ?_)
  refine r_assign ?_
  refine dn ?_
  have hw : IntKind.i32.wrap (n : Int) = n := wrap_id32 hn
  refine vc_sq (vc_rg (by simp) ?_)
  refine r_move ?_
  refine r_move ?_
  refine r_conv (by assumption) (by assumption) (by (try simp (disch := (first | omega | (simp only [sP]; omega))) only [eS, eN, eC, e1]) <;> (first | rfl | assumption)) ?_
  refine r_call' (args := #[dv, .int .i32 (IntKind.i32.wrap (n : Int))]) ?_ (by rw [hw]; exact hc _ U w dv xs hown hU hb) ?_
  · simp only [List.map_toArray, List.map_cons, List.map_nil]
    simp (disch := (first | omega | (simp only [sP]; omega))) only [eS, eN, eC, e0]
  intro v' w' hs
  refine r_assign ?_
  refine dn ?_
  refine vc_sq (vc_ret ?_)
  exact ⟨by simp only [defers_put]; exact hdf, v', results_one (by simp (disch := (first | omega | (simp only [sP]; omega))) only [eS, eN, eC]), hs⟩
theorem k_clen (ht : Text P E.wCLen 2 10 #[.tmp 4] (c_wCLen E)) (iu : intT P E.tU32 = some .u32) (ii : intT P E.tInt = some .i64) {n : Nat} (hn : n ≤ big) (hc : ∀ (n : Nat) U w, n < 4294967296 → Wr1 P E E.wUvarint U [.int .u32 n] (Go.Km.uvar n) w) : Wr1 P E E.wCLen U [.int .i64 n] (wrLen true n) w := by
  intro dv xs hown hU hb
  refine CallsV.enter ht (by simp) ?_
  intro a hsz hdf harg
  have e0 := harg 0 dv (by simp)
  have e1 := harg 1 (.int .i64 n) (by simp)
  unfold c_wCLen
  refine vc_sq (vc_rg (by simp) ?_)
  refine r_assign ?_
  refine dn ?_
  have hw : IntKind.u32.wrap (1 + IntKind.u32.wrap (n : Int)) = ((n + 1 : Nat) : Int) := wrap_idu32 hn
  refine vc_sq (vc_rg (by simp) ?_)
  refine r_move ?_
  refine r_move ?_
  refine r_conv (by assumption) (by assumption) (by (try simp (disch := (first | omega | (simp only [sP]; omega))) only [eS, eN, eC, e1]) <;> (first | rfl | assumption)) ?_
  refine r_add (by (try simp (disch := (first | omega | (simp only [sP]; omega))) only [eS, eN, eC]) <;> (first | rfl | assumption)) (by (try simp (disch := (first | omega | (simp only [sP]; omega))) only [eS, eN, eC]) <;> (first | rfl | assumption)) ?_
  refine r_call' (args := #[dv, .int .u32 (IntKind.u32.wrap (1 + IntKind.u32.wrap (n : Int)))]) ?_ (by rw [hw]; exact hc (n + 1) U w (by unfold big at hn; omega) dv xs hown hU hb) ?_
  · simp only [List.map_toArray, List.map_cons, List.map_nil]
    simp (disch := (first | omega | (simp only [sP]; omega))) only [eS, eN, eC, e0]
  intro v' w' hs
  refine r_assign ?_
  refine dn ?_
  refine vc_sq (vc_ret ?_)
  exact ⟨by simp only [defers_put]; exact hdf, v', results_one (by simp (disch := (first | omega | (simp only [sP]; omega))) only [eS, eN, eC]), hs⟩
theorem k_nlen (ht : Text P E.wNLen 3 14 #[.tmp 6] (c_wNLen E)) (i32 : intT P E.tI32 = some .i32) (ii : intT P E.tInt = some .i64) {n : Nat} {b : Bool} (hn : n ≤ big) (hc : ∀ n U w, Wr1 P E E.wI32 U [.int .i32 n] (be 4 n) w) : Wr1 P E E.wNLen U [.int .i64 n, .bool b] (if b then wrNull false else wrLen false n) w := by
  intro dv xs hown hU hb
  refine CallsV.enter ht (by simp) ?_
  intro a hsz hdf harg
  have e0 := harg 0 dv (by simp)
  have e1 := harg 1 (.int .i64 n) (by simp)
  have e2 := harg 2 (.bool b) (by simp)
  unfold c_wNLen
  refine vc_sq (vc_rg (by simp) ?_)
  refine r_assign ?_
  refine dn ?_
  refine vc_sq (vc_sq (vc_rg (by simp) ?_))
  refine r_move ?_
  refine dn ?_
  refine vc_sq (vc_cond (t := b) (by simp (disch := (first | omega | (simp only [sP]; omega))) only [eS, eN, eC, e2]) ?_ ?_)
  · intro hbt
    subst hbt
    simp only [if_true] at hb ⊢
    refine vc_sq (vc_rg (by simp) ?_)
    refine r_move ?_
    refine r_call' (args := #[dv, .int .i32 (-1)]) ?_ (hc (-1) U w dv xs hown hU hb) ?_
    · simp only [List.map_toArray, List.map_cons, List.map_nil]
      simp (disch := (first | omega | (simp only [sP]; omega))) only [eS, eN, eC, e0]
    intro v' w' hs
    refine r_assign ?_
    refine dn ?_
    refine vc_sq (vc_ret ?_)
    exact ⟨by simp only [defers_put]; exact hdf, v', results_one (by simp (disch := (first | omega | (simp only [sP]; omega))) only [eS, eN, eC]), hs⟩
  · intro hbt
    subst hbt
    simp only [Bool.false_eq_true, if_false] at hb ⊢
    refine vc_skip (vc_sq_nil ?_)
    have hw : IntKind.i32.wrap (n : Int) = n := wrap_id32 hn
    refine vc_sq (vc_rg (by simp) ?_)
    refine r_move ?_
    refine r_move ?_
    refine r_conv (by assumption) (by assumption) (by (try simp (disch := (first | omega | (simp only [sP]; omega))) only [eS, eN, eC, e1]) <;> (first | rfl | assumption)) ?_
    refine r_call' (args := #[dv, .int .i32 (IntKind.i32.wrap (n : Int))]) ?_ (by rw [hw]; exact hc _ U w dv xs hown hU hb) ?_
    · simp only [List.map_toArray, List.map_cons, List.map_nil]
      simp (disch := (first | omega | (simp only [sP]; omega))) only [eS, eN, eC, e0]
    intro v' w' hs
    refine r_assign ?_
    refine dn ?_
    refine vc_sq (vc_ret ?_)
    exact ⟨by simp only [defers_put]; exact hdf, v', results_one (by simp (disch := (first | omega | (simp only [sP]; omega))) only [eS, eN, eC]), hs⟩
theorem k_cnlen (ht : Text P E.wCNLen 3 15 #[.tmp 6] (c_wCNLen E)) (iu : intT P E.tU32 = some .u32) (ii : intT P E.tInt = some .i64) {n : Nat} {b : Bool} (hn : n ≤ big) (hc : ∀ (n : Nat) U w, n < 4294967296 → Wr1 P E E.wUvarint U [.int .u32 n] (Go.Km.uvar n) w) : Wr1 P E E.wCNLen U [.int .i64 n, .bool b] (if b then wrNull true else wrLen true n) w := by
  intro dv xs hown hU hb
  refine CallsV.enter ht (by simp) ?_
  intro a hsz hdf harg
  have e0 := harg 0 dv (by simp)
  have e1 := harg 1 (.int .i64 n) (by simp)
  have e2 := harg 2 (.bool b) (by simp)
  unfold c_wCNLen
  refine vc_sq (vc_rg (by simp) ?_)
  refine r_assign ?_
  refine dn ?_
  refine vc_sq (vc_sq (vc_rg (by simp) ?_))
  refine r_move ?_
  refine dn ?_
  refine vc_sq (vc_cond (t := b) (by simp (disch := (first | omega | (simp only [sP]; omega))) only [eS, eN, eC, e2]) ?_ ?_)
  · intro hbt
    subst hbt
    simp only [if_true] at hb ⊢
    refine vc_sq (vc_rg (by simp) ?_)
    refine r_move ?_
    refine r_call' (args := #[dv, .int .u32 0]) ?_ (hc 0 U w (by decide) dv xs hown hU hb) ?_
    · simp only [List.map_toArray, List.map_cons, List.map_nil]
      simp (disch := (first | omega | (simp only [sP]; omega))) only [eS, eN, eC, e0]
    intro v' w' hs
    refine r_assign ?_
    refine dn ?_
    refine vc_sq (vc_ret ?_)
    exact ⟨by simp only [defers_put]; exact hdf, v', results_one (by simp (disch := (first | omega | (simp only [sP]; omega))) only [eS, eN, eC]), hs⟩
  · intro hbt
    subst hbt
    simp only [Bool.false_eq_true, if_false] at hb ⊢
    refine vc_skip (vc_sq_nil ?_)
    have hw : IntKind.u32.wrap (1 + IntKind.u32.wrap (n : Int)) = ((n + 1 : Nat) : Int) := wrap_idu32 hn
    refine vc_sq (vc_rg (by simp) ?_)
    refine r_move ?_
    refine r_move ?_
    refine r_conv (by assumption) (by assumption) (by (try simp (disch := (first | omega | (simp only [sP]; omega))) only [eS, eN, eC, e1]) <;> (first | rfl | assumption)) ?_
    refine r_add (by (try simp (disch := (first | omega | (simp only [sP]; omega))) only [eS, eN, eC]) <;> (first | rfl | assumption)) (by (try simp (disch := (first | omega | (simp only [sP]; omega))) only [eS, eN, eC]) <;> (first | rfl | assumption)) ?_
    refine r_call' (args := #[dv, .int .u32 (IntKind.u32.wrap (1 + IntKind.u32.wrap (n : Int)))]) ?_ (by rw [hw]; exact hc (n + 1) U w (by unfold big at hn; omega) dv xs hown hU hb) ?_
    · simp only [List.map_toArray, List.map_cons, List.map_nil]
      simp (disch := (first | omega | (simp only [sP]; omega))) only [eS, eN, eC, e0]
    intro v' w' hs
    refine r_assign ?_
    refine dn ?_
    refine vc_sq (vc_ret ?_)
    exact ⟨by simp only [defers_put]; exact hdf, v', results_one (by simp (disch := (first | omega | (simp only [sP]; omega))) only [eS, eN, eC]), hs⟩
theorem k_nocts (ht : Text P E.wNBytes 2 12 #[.tmp 4] (c_wNBytes E)) (hB : rowB P E.tBytes E.tU8 1 = true) {v : Value} {o : Option (List UInt8)} (hv : OctAt w U v o) (hn : ∀ n U w, Wr1 P E E.wI32 U [.int .i32 n] (be 4 n) w) (hc : ∀ v o U w, OctAt w U v o → Wr1 P E E.wBytes U [v] (wrBytes false (o.getD [])) w) : Wr1 P E E.wNBytes U [v] (wrNBytes false o) w := by
  intro dv xs hown hU hb
  refine CallsV.enter ht (by simp) ?_
  intro a hsz hdf harg
  have e0 := harg 0 dv (by simp)
  have e1 := harg 1 (v) (by simp)
  unfold c_wNBytes
  refine vc_sq (vc_rg (by simp) ?_)
  refine r_assign ?_
  refine dn ?_
  have hsl := rowB_slice hB
  refine vc_sq (vc_sq (vc_rg (by simp) ?_))
  refine r_move ?_
  cases o with
  | none =>
    simp only [OctAt] at hv
    subst hv
    refine r_eqNil (ad := none) (len := 0) (cap := 0) hsl (by simp (disch := (first | omega | (simp only [sP]; omega))) only [eS, eN, eC, e1]) ?_
    refine dn ?_
    refine vc_sq (vc_cond (t := true) (by (try simp (disch := (first | omega | (simp only [sP]; omega))) only [eS, eN, eC]) <;> (first | rfl | assumption)) ?_ (fun h => by cases h))
    intro _
    refine vc_sq (vc_rg (by simp) ?_)
    refine r_move ?_
    refine r_call' (args := #[dv, .int .i32 (-1)]) ?_ (hn (-1) U w dv xs hown hU hb) ?_
    · simp only [List.map_toArray, List.map_cons, List.map_nil]
      simp (disch := (first | omega | (simp only [sP]; omega))) only [eS, eN, eC, e0]
    intro v' w' hs
    refine r_assign ?_
    refine dn ?_
    refine vc_sq (vc_ret ?_)
    exact ⟨by simp only [defers_put]; exact hdf, v', results_one (by simp (disch := (first | omega | (simp only [sP]; omega))) only [eS, eN, eC]), hs⟩
  | some l =>
    have hv0 := hv
    obtain ⟨q, o, cap, hve, hq, hcl⟩ := hv
    refine r_eqNil (ad := some ⟨q, o, none⟩) (len := l.length) (cap := cap) hsl (by simp (disch := (first | omega | (simp only [sP]; omega))) only [eS, eN, eC, e1, hve]) ?_
    refine dn ?_
    refine vc_sq (vc_cond (t := false) (by (try simp (disch := (first | omega | (simp only [sP]; omega))) only [eS, eN, eC]) <;> (first | rfl | assumption)) (fun h => by cases h) ?_)
    intro _
    refine vc_skip (vc_sq_nil ?_)
    refine vc_sq (vc_rg (by simp) ?_)
    refine r_move ?_
    refine r_move ?_
    refine r_call' (args := #[dv, v]) ?_ (hc v (some l) U w hv0 dv xs hown hU hb) ?_
    · simp only [List.map_toArray, List.map_cons, List.map_nil]
      simp (disch := (first | omega | (simp only [sP]; omega))) only [eS, eN, eC, e0, e1]
    intro v' w' hs
    refine r_assign ?_
    refine dn ?_
    refine vc_sq (vc_ret ?_)
    exact ⟨by simp only [defers_put]; exact hdf, v', results_one (by simp (disch := (first | omega | (simp only [sP]; omega))) only [eS, eN, eC]), hs⟩
theorem k_cnocts (ht : Text P E.wCNBytes 2 12 #[.tmp 4] (c_wCNBytes E)) (hB : rowB P E.tBytes E.tU8 1 = true) {v : Value} {o : Option (List UInt8)} (hv : OctAt w U v o) (hn : ∀ (n : Nat) U w, n < 4294967296 → Wr1 P E E.wUvarint U [.int .u32 n] (Go.Km.uvar n) w) (hc : ∀ v o U w, OctAt w U v o → Wr1 P E E.wCBytes U [v] (wrBytes true (o.getD [])) w) : Wr1 P E E.wCNBytes U [v] (wrNBytes true o) w := by
  intro dv xs hown hU hb
  refine CallsV.enter ht (by simp) ?_
  intro a hsz hdf harg
  have e0 := harg 0 dv (by simp)
  have e1 := harg 1 (v) (by simp)
  unfold c_wCNBytes
  refine vc_sq (vc_rg (by simp) ?_)
  refine r_assign ?_
  refine dn ?_
  have hsl := rowB_slice hB
  refine vc_sq (vc_sq (vc_rg (by simp) ?_))
  refine r_move ?_
  cases o with
  | none =>
    simp only [OctAt] at hv
    subst hv
    refine r_eqNil (ad := none) (len := 0) (cap := 0) hsl (by simp (disch := (first | omega | (simp only [sP]; omega))) only [eS, eN, eC, e1]) ?_
    refine dn ?_
    refine vc_sq (vc_cond (t := true) (by (try simp (disch := (first | omega | (simp only [sP]; omega))) only [eS, eN, eC]) <;> (first | rfl | assumption)) ?_ (fun h => by cases h))
    intro _
    refine vc_sq (vc_rg (by simp) ?_)
    refine r_move ?_
    refine r_call' (args := #[dv, .int .u32 0]) ?_ (hn 0 U w (by decide) dv xs hown hU hb) ?_
    · simp only [List.map_toArray, List.map_cons, List.map_nil]
      simp (disch := (first | omega | (simp only [sP]; omega))) only [eS, eN, eC, e0]
    intro v' w' hs
    refine r_assign ?_
    refine dn ?_
    refine vc_sq (vc_ret ?_)
    exact ⟨by simp only [defers_put]; exact hdf, v', results_one (by simp (disch := (first | omega | (simp only [sP]; omega))) only [eS, eN, eC]), hs⟩
  | some l =>
    have hv0 := hv
    obtain ⟨q, o, cap, hve, hq, hcl⟩ := hv
    refine r_eqNil (ad := some ⟨q, o, none⟩) (len := l.length) (cap := cap) hsl (by simp (disch := (first | omega | (simp only [sP]; omega))) only [eS, eN, eC, e1, hve]) ?_
    refine dn ?_
    refine vc_sq (vc_cond (t := false) (by (try simp (disch := (first | omega | (simp only [sP]; omega))) only [eS, eN, eC]) <;> (first | rfl | assumption)) (fun h => by cases h) ?_)
    intro _
    refine vc_skip (vc_sq_nil ?_)
    refine vc_sq (vc_rg (by simp) ?_)
    refine r_move ?_
    refine r_move ?_
    refine r_call' (args := #[dv, v]) ?_ (hc v (some l) U w hv0 dv xs hown hU hb) ?_
    · simp only [List.map_toArray, List.map_cons, List.map_nil]
      simp (disch := (first | omega | (simp only [sP]; omega))) only [eS, eN, eC, e0, e1]
    intro v' w' hs
    refine r_assign ?_
    refine dn ?_
    refine vc_sq (vc_ret ?_)
    exact ⟨by simp only [defers_put]; exact hdf, v', results_one (by simp (disch := (first | omega | (simp only [sP]; omega))) only [eS, eN, eC]), hs⟩
theorem k_nstr (ht : Text P E.wNStr 2 14 #[.tmp 4] (c_wNStr E)) {te : TypeId} (hp9 : P.underlying E.tPStr = some (.pointer te)) (ho : oneT P E.tStr = true) {v : Value} {o : Option (List UInt8)} (hv : PStrAt w U v o) (hn : ∀ n U w, Wr1 P E E.wI16 U [.int .i16 n] (be 2 n) w) (hc : ∀ l U w, Wr1 P E E.wStr U [.string ⟨l.toArray⟩] (wrStr false l) w) : Wr1 P E E.wNStr U [v] (wrNStr false o) w := by
  intro dv xs hown hU hb
  refine CallsV.enter ht (by simp) ?_
  intro a hsz hdf harg
  have e0 := harg 0 dv (by simp)
  have e1 := harg 1 (v) (by simp)
  unfold c_wNStr
  refine vc_sq (vc_rg (by simp) ?_)
  refine r_assign ?_
  refine dn ?_
  refine vc_sq (vc_sq (vc_rg (by simp) ?_))
  refine r_move ?_
  cases o with
  | none =>
    simp only [PStrAt] at hv
    subst hv
    refine r_eqNilP (ad := none) hp9 (by simp (disch := (first | omega | (simp only [sP]; omega))) only [eS, eN, eC, e1]) ?_
    refine dn ?_
    refine vc_sq (vc_cond (t := true) (by (try simp (disch := (first | omega | (simp only [sP]; omega))) only [eS, eN, eC]) <;> (first | rfl | assumption)) ?_ (fun h => by cases h))
    intro _
    refine vc_sq (vc_rg (by simp) ?_)
    refine r_move ?_
    refine r_call' (args := #[dv, .int .i16 (-1)]) ?_ (hn (-1) U w dv xs hown hU hb) ?_
    · simp only [List.map_toArray, List.map_cons, List.map_nil]
      simp (disch := (first | omega | (simp only [sP]; omega))) only [eS, eN, eC, e0]
    intro v' w' hs
    refine r_assign ?_
    refine dn ?_
    refine vc_sq (vc_ret ?_)
    exact ⟨by simp only [defers_put]; exact hdf, v', results_one (by simp (disch := (first | omega | (simp only [sP]; omega))) only [eS, eN, eC]), hs⟩
  | some l =>
    obtain ⟨q, hve, hq, hcl⟩ := hv
    refine r_eqNilP (ad := some ⟨q, 0, none⟩) hp9 (by simp (disch := (first | omega | (simp only [sP]; omega))) only [eS, eN, eC, e1, hve]) ?_
    refine dn ?_
    refine vc_sq (vc_cond (t := false) (by (try simp (disch := (first | omega | (simp only [sP]; omega))) only [eS, eN, eC]) <;> (first | rfl | assumption)) (fun h => by cases h) ?_)
    intro _
    refine vc_skip (vc_sq_nil ?_)
    refine vc_sq (vc_rg (by simp) ?_)
    refine r_move ?_
    refine r_move ?_
    refine r_nil (ad := ⟨q, 0, none⟩) (by simp (disch := (first | omega | (simp only [sP]; omega))) only [eS, eN, eC, e1, hve]) ?_
    refine r_load (b := q) (o := 0) (by simp (disch := (first | omega | (simp only [sP]; omega))) only [eS, eN, eC]) ho hcl ?_
    refine r_call' (args := #[dv, .string ⟨l.toArray⟩]) ?_ (hc l U w dv xs hown hU hb) ?_
    · simp only [List.map_toArray, List.map_cons, List.map_nil]
      simp (disch := (first | omega | (simp only [sP]; omega))) only [eS, eN, eC, e0]
    intro v' w' hs
    refine r_assign ?_
    refine dn ?_
    refine vc_sq (vc_ret ?_)
    exact ⟨by simp only [defers_put]; exact hdf, v', results_one (by simp (disch := (first | omega | (simp only [sP]; omega))) only [eS, eN, eC]), hs⟩
theorem k_cnstr (ht : Text P E.wCNStr 2 14 #[.tmp 4] (c_wCNStr E)) {te : TypeId} (hp9 : P.underlying E.tPStr = some (.pointer te)) (ho : oneT P E.tStr = true) {v : Value} {o : Option (List UInt8)} (hv : PStrAt w U v o) (hn : ∀ (n : Nat) U w, n < 4294967296 → Wr1 P E E.wUvarint U [.int .u32 n] (Go.Km.uvar n) w) (hc : ∀ l U w, Wr1 P E E.wCStr U [.string ⟨l.toArray⟩] (wrStr true l) w) : Wr1 P E E.wCNStr U [v] (wrNStr true o) w := by
  intro dv xs hown hU hb
  refine CallsV.enter ht (by simp) ?_
  intro a hsz hdf harg
  have e0 := harg 0 dv (by simp)
  have e1 := harg 1 (v) (by simp)
  unfold c_wCNStr
  refine vc_sq (vc_rg (by simp) ?_)
  refine r_assign ?_
  refine dn ?_
  refine vc_sq (vc_sq (vc_rg (by simp) ?_))
  refine r_move ?_
  cases o with
  | none =>
    simp only [PStrAt] at hv
    subst hv
    refine r_eqNilP (ad := none) hp9 (by simp (disch := (first | omega | (simp only [sP]; omega))) only [eS, eN, eC, e1]) ?_
    refine dn ?_
    refine vc_sq (vc_cond (t := true) (by (try simp (disch := (first | omega | (simp only [sP]; omega))) only [eS, eN, eC]) <;> (first | rfl | assumption)) ?_ (fun h => by cases h))
    intro _
    refine vc_sq (vc_rg (by simp) ?_)
    refine r_move ?_
    refine r_call' (args := #[dv, .int .u32 0]) ?_ (hn 0 U w (by decide) dv xs hown hU hb) ?_
    · simp only [List.map_toArray, List.map_cons, List.map_nil]
      simp (disch := (first | omega | (simp only [sP]; omega))) only [eS, eN, eC, e0]
    intro v' w' hs
    refine r_assign ?_
    refine dn ?_
    refine vc_sq (vc_ret ?_)
    exact ⟨by simp only [defers_put]; exact hdf, v', results_one (by simp (disch := (first | omega | (simp only [sP]; omega))) only [eS, eN, eC]), hs⟩
  | some l =>
    obtain ⟨q, hve, hq, hcl⟩ := hv
    refine r_eqNilP (ad := some ⟨q, 0, none⟩) hp9 (by simp (disch := (first | omega | (simp only [sP]; omega))) only [eS, eN, eC, e1, hve]) ?_
    refine dn ?_
    refine vc_sq (vc_cond (t := false) (by (try simp (disch := (first | omega | (simp only [sP]; omega))) only [eS, eN, eC]) <;> (first | rfl | assumption)) (fun h => by cases h) ?_)
    intro _
    refine vc_skip (vc_sq_nil ?_)
    refine vc_sq (vc_rg (by simp) ?_)
    refine r_move ?_
    refine r_move ?_
    refine r_nil (ad := ⟨q, 0, none⟩) (by simp (disch := (first | omega | (simp only [sP]; omega))) only [eS, eN, eC, e1, hve]) ?_
    refine r_load (b := q) (o := 0) (by simp (disch := (first | omega | (simp only [sP]; omega))) only [eS, eN, eC]) ho hcl ?_
    refine r_call' (args := #[dv, .string ⟨l.toArray⟩]) ?_ (hc l U w dv xs hown hU hb) ?_
    · simp only [List.map_toArray, List.map_cons, List.map_nil]
      simp (disch := (first | omega | (simp only [sP]; omega))) only [eS, eN, eC, e0]
    intro v' w' hs
    refine r_assign ?_
    refine dn ?_
    refine vc_sq (vc_ret ?_)
    exact ⟨by simp only [defers_put]; exact hdf, v', results_one (by simp (disch := (first | omega | (simp only [sP]; omega))) only [eS, eN, eC]), hs⟩
theorem k_uuid (ht : Text P E.wUuid 2 8 #[.tmp 4] (c_wUuid E)) (hB : rowB P E.tBytes E.tU8 1 = true) {l : List UInt8} (hl : l.length = 16) (hu : P.underlying E.tUuid = some (.array 16 E.tU8)) (hu8 : (P.info? E.tU8).map (·.size) = some 1) : Wr1 P E E.wUuid U [.agg (l.map bv).toArray] l w := by
  intro dv xs hown hU hb
  refine CallsV.enter ht (by simp) ?_
  intro a hsz hdf harg
  have e0 := harg 0 dv (by simp)
  have e1 := harg 1 (.agg (l.map bv).toArray) (by simp)
  unfold c_wUuid
  refine vc_sq (vc_rg (by simp) ?_)
  refine r_box (v := .agg (l.map bv).toArray) (by simp (disch := (first | omega | (simp only [sP]; omega))) only [eS, eN, eC, e1]) ?_
  refine r_assign ?_
  refine dn ?_
  refine vc_sq (vc_rg (by simp) ?_)
  refine r_move ?_
  refine r_sliceArr (b := w.heap.size) (n := 16) hu hu8 (by simp (disch := (first | omega | (simp only [sP]; omega))) only [eS, eN, eC]) ?_
  refine r_append (sz := 1) (U := U) (v := dv) (n := xs.length) (xs := xs.map bv) (u := .slice (some ⟨w.heap.size, 0, none⟩) 16 16) (m := 16) (news := l.map bv) hB (by simp (disch := (first | omega | (simp only [sP]; omega))) only [eS, eN, eC, e0]) (by simp (disch := (first | omega | (simp only [sP]; omega))) only [eS, eN, eC]) (hown.alloc _) (by simp; omega) ?_ (by omega) ?_
  · refine src_cells (rowB_slice hB) ?_ (by simp [hl]) (bv_one l)
    intro j u hu
    rw [Nat.zero_add]
    exact cells_new w _ _ (by simpa [Value.cells] using hu)
  intro v' w' h1 h2
  rw [show xs.length + 16 = (xs ++ l).length by simp [hl], ← List.map_append] at h1
  refine r_assign ?_
  refine dn ?_
  refine vc_sq (vc_ret ?_)
  exact ⟨by simp only [defers_put]; exact hdf, v', results_one (by simp (disch := (first | omega | (simp only [sP]; omega))) only [eS, eN, eC]), ⟨h1, ((Below.refl U w).alloc (o := .cells _ E.tUuid) hU).trans h2⟩⟩
end
end Go.Km
