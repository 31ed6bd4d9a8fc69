/- What AppendTo writes: for every shape of a message. -/
import Derived.Test.YtnbhpeaapbpaeaaKmLoopW
set_option linter.unusedSimpArgs false
set_option linter.unusedVariables false
namespace Go.Km
open Go Go.RowKit
attribute [local irreducible] vc runOps runG

/-! ## the contracts of kbin's functions that write -/
/-- F(dst, arg) appends these octets. -/
def Wr1 (P : Program) (E : Env) (F : FuncId) (U : Nat) (args : List Value) (bs : List UInt8) (w : World) : Prop :=
  ∀ dv (xs : List UInt8), w.ownsRow U E.tU8 1 dv xs.length (xs.map bv) → U ≤ w.heap.size → xs.length + bs.length ≤ big →
    CallsV P F (#[dv] ++ args.toArray) w fun v' w' => w'.ownsRow U E.tU8 1 v' (xs ++ bs).length ((xs ++ bs).map bv) ∧ Below U w w'
/-- A pointer to a text (or none), in a block below U. -/
def PStrAt (w : World) (U : Nat) (v : Value) : Option (List UInt8) → Prop
  | none => v = .pointer none
  | some l => ∃ q, v = .pointer (some ⟨q, 0, none⟩) ∧ q < U ∧ w.cell? ⟨q, 0, none⟩ = some (.string ⟨l.toArray⟩)
/-- Octets (or nil) in a block below U. -/
def OctAt (w : World) (U : Nat) (v : Value) : Option (List UInt8) → Prop
  | none => v = .slice none 0 0
  | some l => ∃ q o cap, v = .slice (some ⟨q, o, none⟩) l.length cap ∧ q < U ∧ Cells w q o (l.map bv)

structure EnvW (P : Program) (E : Env) (T : List (Nat × List UInt8) → Prop) : Prop where
  bytes : sliceT P E.tBytes = some (E.tU8, 1)
  scal : ∀ s, E.wScal s ≠ 0 → ∀ n U w, s.ok n → Wr1 P E (E.wScal s) U [s.val n] (s.wr n) w
  uuid : E.wUuid ≠ 0 → ∀ l U w, l.length = 16 → Wr1 P E E.wUuid U [.agg (l.map bv).toArray] l w
  str : E.wStr ≠ 0 → ∀ l U w, Wr1 P E E.wStr U [.string ⟨l.toArray⟩] (wrStr false l) w
  cstr : E.wCStr ≠ 0 → ∀ l U w, Wr1 P E E.wCStr U [.string ⟨l.toArray⟩] (wrStr true l) w
  nstr : E.wNStr ≠ 0 → ∀ v o U w, PStrAt w U v o → Wr1 P E E.wNStr U [v] (wrNStr false o) w
  cnstr : E.wCNStr ≠ 0 → ∀ v o U w, PStrAt w U v o → Wr1 P E E.wCNStr U [v] (wrNStr true o) w
  octs : E.wBytes ≠ 0 → ∀ v o U w, OctAt w U v o → Wr1 P E E.wBytes U [v] (wrBytes false (o.getD [])) w
  cocts : E.wCBytes ≠ 0 → ∀ v o U w, OctAt w U v o → Wr1 P E E.wCBytes U [v] (wrBytes true (o.getD [])) w
  nocts : E.wNBytes ≠ 0 → ∀ v o U w, OctAt w U v o → Wr1 P E E.wNBytes U [v] (wrNBytes false o) w
  cnocts : E.wCNBytes ≠ 0 → ∀ v o U w, OctAt w U v o → Wr1 P E E.wCNBytes U [v] (wrNBytes true o) w
  len : E.wLen ≠ 0 → ∀ (n : Nat) U w, n ≤ big → Wr1 P E E.wLen U [.int .i64 n] (wrLen false n) w
  clen : E.wCLen ≠ 0 → ∀ (n : Nat) U w, n ≤ big → Wr1 P E E.wCLen U [.int .i64 n] (wrLen true n) w
  nlen : E.wNLen ≠ 0 → ∀ (n : Nat) (b : Bool) U w, n ≤ big → Wr1 P E E.wNLen U [.int .i64 n, .bool b] (if b then wrNull false else wrLen false n) w
  cnlen : E.wCNLen ≠ 0 → ∀ (n : Nat) (b : Bool) U w, n ≤ big → Wr1 P E E.wCNLen U [.int .i64 n, .bool b] (if b then wrNull true else wrLen true n) w
  uvar : E.wUvarint ≠ 0 → ∀ (n : Nat) U w, n < 4294967296 → Wr1 P E E.wUvarint U [.int .u32 n] (Go.Km.uvar n) w
  tlen : E.tLen ≠ 0 → ∀ W0 (sb : Sb) b o v tags w, sb.T = T → W0.cell? ⟨b, o, none⟩ = some v → TagsRep W0 sb 0 v tags → Below W0.heap.size W0 w →
    CallsV P E.tLen #[.pointer (some ⟨b, o, none⟩)] w fun r w' => r = .int .i64 (tags.length : Int) ∧ Grow w w'
  teach : E.tEach ≠ 0 → ∀ W0 (sb : Sb) b o v tags w, sb.T = T → W0.cell? ⟨b, o, none⟩ = some v → TagsRep W0 sb 0 v tags → Below W0.heap.size W0 w →
    ∀ dv (xs : List UInt8), w.ownsRow W0.heap.size E.tU8 1 dv xs.length (xs.map bv) → xs.length + ((tags.map wrTag).flatten).length ≤ big →
      CallsV P E.tEach #[.pointer (some ⟨b, o, none⟩), dv] w fun v' w' =>
        w'.ownsRow W0.heap.size E.tU8 1 v' (xs ++ (tags.map wrTag).flatten).length ((xs ++ (tags.map wrTag).flatten).map bv) ∧ Below W0.heap.size w w'

/-! ## what is asked of a shape: the numbers of its types and functions fit -/
def zeroAgg (P : Program) (t : TypeId) (n : Nat) : Bool :=
  match zeroT P t with
  | some (.agg c) => c.size == n
  | _ => false
theorem zeroAgg_inv {P : Program} {t n} (h : zeroAgg P t n = true) : ∃ z : List Value, zeroT P t = some (.agg z.toArray) ∧ z.length = n := by
  unfold zeroAgg at h
  split at h
  · rename_i c hc
    exact ⟨c.toList, by simpa using hc, by simpa using h⟩
  · cases h
/-- Of a slice type: its elements have so many cells. -/
def sliceB (P : Program) (t : TypeId) (n : Nat) : Bool :=
  match sliceT P t with
  | some (_, s) => s == n
  | none => false
theorem sliceB_inv {P : Program} {t n} (h : sliceB P t n = true) : ∃ e, sliceT P t = some (e, n) := by
  unfold sliceB at h
  split at h
  · rename_i e s hs
    simp only [beq_iff_eq] at h
    subst h
    exact ⟨e, hs⟩
  · cases h
def Cx.ok (x : Cx) (F G : FuncId) : Bool := (G != 0) && (x.fl.isNone || F != 0)
mutual
def Ty.okW (P : Program) (E : Env) (x : Cx) : Ty → Bool
  | .scal s _ => E.wScal s != 0 && oneT P (E.tScal s)
  | .named s T _ => E.wScal s != 0 && oneT P T
  | .uuid => E.wUuid != 0 && aggT P E.tUuid == some 16 && zeroAgg P E.tUuid 16
  | .text => x.ok E.wCStr E.wStr && oneT P E.tStr
  | .ntext => x.ok E.wCNStr E.wNStr && oneT P E.tPStr
  | .ntextFrom _ => false
  | .bytes => x.ok E.wCBytes E.wBytes && oneT P E.tBytes
  | .nbytes => x.ok E.wCNBytes E.wNBytes && oneT P E.tBytes
  | .list TS null e => (if null.isSome then x.ok E.wCNLen E.wNLen else x.ok E.wCLen E.wLen) && oneT P TS && sliceB P TS e.size && !e.arr && e.okW P E x
  | .struct _ TU _ fs => fs.okW P E x TU 0 0
def Flds.okW (P : Program) (E : Env) (x : Cx) (TU : TypeId) (idx off : Nat) : Flds → Bool
  | .nil tags => x.fl.isNone || (tags && fieldOff P TU idx == some off && E.tLen != 0 && E.tEach != 0 && E.wUvarint != 0)
  | .cons _ t r => fieldOff P TU idx == some off && t.okW P E x && r.okW P E x TU (idx + 1) (off + t.size)
end

/-! ## the state of AppendTo -/
structure WSt (P : Program) (E : Env) (W0 : World) (x : Cx) (ver : Nat) (fx : Bool) (a : Act) (w : World) (xs : List UInt8) : Prop where
  below : Below W0.heap.size W0 w
  own : w.ownsRow W0.heap.size E.tU8 1 (a.eval (.tmp 1)) xs.length (xs.map bv)
  ver : a.eval (.tmp x.vs) = .int .i16 (ver : Int)
  fl : ∀ f, x.fl = some f → a.eval (.tmp f) = .bool fx
/-- The slots that a statement leaves: locals below n, temporaries below t; dst is slot 1. -/
def KW (L n t : Nat) (k : Nat) : Prop := k ≠ 1 ∧ (k < n ∨ (L ≤ k ∧ k < t))
theorem KW.mono {L n n' t t' : Nat} (hn : n ≤ n') (ht : t ≤ t') : ∀ k, KW L n t k → KW L n' t' k := fun k ⟨h1, h2⟩ => ⟨h1, by omega⟩
/-- Where the slots of a statement lie. -/
structure WSl (x : Cx) (L n t : Nat) (fx : Bool) : Prop where
  one : 1 < n
  vs : x.vs < n ∧ x.vs ≠ 1
  fl : ∀ f, x.fl = some f → f < n ∧ f ≠ 1
  no : x.fl = none → fx = false
  nL : n ≤ L
  Lt : L ≤ t
theorem WSl.kt {x : Cx} {L n t : Nat} {fx : Bool} (h : WSl x L n t fx) : ∀ d, t ≤ d → ¬ KW L n t d := by
  rintro d hd ⟨_, h2⟩
  have := h.nL; have := h.Lt
  omega
theorem WSl.k1 {x : Cx} {L n t : Nat} {fx : Bool} (h : WSl x L n t fx) : ¬ KW L n t 1 := fun h => h.1 rfl
theorem WSl.up {x : Cx} {L n t n' t' : Nat} {fx : Bool} (h : WSl x L n t fx) (hn : n ≤ n') (hL : n' ≤ L) (ht : t ≤ t') : WSl x L n' t' fx :=
  ⟨by have := h.one; omega, ⟨by have := h.vs.1; omega, h.vs.2⟩, fun f hf => ⟨by have := (h.fl f hf).1; omega, (h.fl f hf).2⟩, h.no, hL, by have := h.Lt; omega⟩

section
variable {P : Program} {E : Env} {W0 : World} {sb : Sb}

theorem WSt.fr {x : Cx} {ver : Nat} {fx : Bool} {a a' : Act} {w : World} {xs : List UInt8} {L n t : Nat} (h : WSt P E W0 x ver fx a w xs) (hs : WSl x L n t fx) (hf : Fr (KW L n t) a a') (h1 : a'.eval (.tmp 1) = a.eval (.tmp 1)) :
    WSt P E W0 x ver fx a' w xs :=
  ⟨h.below, by rw [h1]; exact h.own, by rw [hf.slot _ ⟨hs.vs.2, .inl hs.vs.1⟩]; exact h.ver, fun f hh => by rw [hf.slot _ ⟨(hs.fl f hh).2, .inl (hs.fl f hh).1⟩]; exact h.fl f hh⟩
/-- Behind a call that has appended. -/
theorem WSt.step {x : Cx} {ver : Nat} {fx : Bool} {a a' : Act} {w w' : World} {xs bs : List UInt8} {v' : Value} {L n t : Nat} (h : WSt P E W0 x ver fx a w xs) (hs : WSl x L n t fx) (hf : Fr (KW L n t) a a') (h1 : a'.eval (.tmp 1) = v')
    (hc : w'.ownsRow W0.heap.size E.tU8 1 v' (xs ++ bs).length ((xs ++ bs).map bv) ∧ Below W0.heap.size w w') : WSt P E W0 x ver fx a' w' (xs ++ bs) :=
  ⟨h.below.trans hc.2, by rw [h1]; exact hc.1, by rw [hf.slot _ ⟨hs.vs.2, .inl hs.vs.1⟩]; exact h.ver, fun f hh => by rw [hf.slot _ ⟨(hs.fl f hh).2, .inl (hs.fl f hh).1⟩]; exact h.fl f hh⟩
theorem WSt.size {x : Cx} {ver : Nat} {fx : Bool} {a : Act} {w : World} {xs : List UInt8} (h : WSt P E W0 x ver fx a w xs) : W0.heap.size ≤ w.heap.size := h.below.size

/-- What slot v holds of a field whose cells are cs. -/
def Ty.Holds (W0 w : World) (a : Act) (v : Nat) (cs : List Value) (t : Ty) : Prop :=
  match t.tp with
  | some _ => ∃ b o, a.eval (.tmp v) = .pointer (some ⟨b, o, none⟩) ∧ Cells W0 b o cs
  | none => if t.arr then ∃ q, a.eval (.tmp v) = .pointer (some ⟨q, 0, none⟩) ∧ Cells w q 0 cs else cs = [a.eval (.tmp v)]

/-- The writing of a field of shape ty. -/
def Ty.WOk (P : Program) (E : Env) (W0 : World) (sb : Sb) (ty : Ty) : Prop :=
  ∀ (x : Cx) (ver : Nat) (fx : Bool) (L v n t b B : Nat) (a : Act) (w : World) (xs : List UInt8) (cs : List Value) (d : D) (Q : Exit → Act → World → Prop),
    ty.okW P E x = true → WSl x L n t fx → v < n → v ≠ 1 → n + ty.wn ≤ L → t + ty.wt x ≤ a.tmps.size →
    WSt P E W0 x ver fx a w xs → ty.Holds W0 w a v cs → ty.Rep W0 sb B cs d → xs.length + (ty.wr fx ver d).length ≤ big →
    (∀ a' w', Fr (KW L n t) a a' → WSt P E W0 x ver fx a' w' (xs ++ ty.wr fx ver d) → Q .normal a' w') → vc P (sq (ty.wc E x v n t b)) Q a w
/-- The writing of the fields fs of what slot s points to: from field idx on, whose cells begin at off. -/
def Flds.WOk (P : Program) (E : Env) (W0 : World) (sb : Sb) (fs : Flds) : Prop :=
  ∀ (x : Cx) (ver : Nat) (fx : Bool) (L TP TU s idx off n t b B pb po : Nat) (a : Act) (w : World) (xs : List UInt8) (cs : List Value) (ds : List D) (tags : List (Nat × List UInt8)) (Q : Exit → Act → World → Prop),
    fs.okW P E x TU idx off = true → WSl x L n t fx → s < n → s ≠ 1 → n + fs.wn ≤ L → t + fs.wt x ≤ a.tmps.size →
    WSt P E W0 x ver fx a w xs → a.eval (.tmp s) = .pointer (some ⟨pb, po, none⟩) → Cells W0 pb (po + off) cs → fs.Rep W0 sb B cs ds tags → xs.length + (fs.wr fx ver ds tags).length ≤ big →
    (∀ a' w', Fr (KW L n t) a a' → WSt P E W0 x ver fx a' w' (xs ++ fs.wr fx ver ds tags) → Q .normal a' w') → vc P (sq (fs.wc E x TP TU s idx n t b)) Q a w

/-- One call that appends. -/
theorem w_app {F : FuncId} {T : TypeId} {x : Cx} {ver : Nat} {fx : Bool} {L v n t : Nat} {a : Act} {w : World} {xs bs : List UInt8} {arg : Value} {Q : Exit → Act → World → Prop}
    (hs : WSl x L n t fx) (hv : v < n) (hsz : t + 3 ≤ a.tmps.size) (hst : WSt P E W0 x ver fx a w xs) (ha : a.eval (.tmp v) = arg) (hc : Wr1 P E F W0.heap.size [arg] bs w) (hb : xs.length + bs.length ≤ big)
    (k : ∀ a' w', Fr (KW L n t) a a' → WSt P E W0 x ver fx a' w' (xs ++ bs) → Q .normal a' w') : vc P (wApp E F T v t) Q a w := by
  have h1 := hs.one; have h2 := hs.nL; have h3 := hs.Lt
  exact m_app rfl ha (hc _ xs hst.own hst.size hb) hs.kt hs.k1 (by omega) (by omega) hsz (fun a' v' w' hf e hS => k a' w' hf (hst.step hs hf e hS))

/-- One call that appends, of a flexible message by one function, else by another one. -/
theorem w_flex {F G : FuncId} {T : TypeId} {x : Cx} {ver : Nat} {fx : Bool} {L v n t : Nat} {a : Act} {w : World} {xs : List UInt8} {bs : Bool → List UInt8} {arg : Value} {Q : Exit → Act → World → Prop}
    (hs : WSl x L n t fx) (hv : v < n) (hv1 : v ≠ 1) (hsz : t + x.nt 3 ≤ a.tmps.size) (hst : WSt P E W0 x ver fx a w xs) (ha : a.eval (.tmp v) = arg)
    (hF : fx = true → Wr1 P E F W0.heap.size [arg] (bs true) w) (hG : fx = false → Wr1 P E G W0.heap.size [arg] (bs false) w) (hb : xs.length + (bs fx).length ≤ big)
    (k : ∀ a' w', Fr (KW L n t) a a' → WSt P E W0 x ver fx a' w' (xs ++ bs fx) → Q .normal a' w') : vc P (wFlex E x t 3 (wApp E F T v) (wApp E G T v)) Q a w := by
  have h1 := hs.one; have h2 := hs.nL; have h3 := hs.Lt
  refine m_flex (K := KW L n t) (fx := fx) (fun f hf => ⟨hst.fl f hf, by have := (hs.fl f hf).1; omega⟩) hs.no hs.kt (by omega) hsz ?_ ?_
  · intro hfx a' t' hf ht' hsz' he
    subst hfx
    refine w_app (n := n) (L := L) (hs.up (Nat.le_refl _) hs.nL ht') hv (by rw [hf.size]; exact hsz') (hst.fr hs hf (he 1 (by omega))) (by rw [he v (by omega)]; exact ha) (hF rfl) hb ?_
    exact fun a2 w2 hf2 hst2 => k a2 w2 (hf.trans (hf2.mono (KW.mono (Nat.le_refl _) ht'))) hst2
  · intro hfx a' t' hf ht' hsz' he
    subst hfx
    refine w_app (n := n) (L := L) (hs.up (Nat.le_refl _) hs.nL ht') hv (by rw [hf.size]; exact hsz') (hst.fr hs hf (he 1 (by omega))) (by rw [he v (by omega)]; exact ha) (hG rfl) hb ?_
    exact fun a2 w2 hf2 hst2 => k a2 w2 (hf.trans (hf2.mono (KW.mono (Nat.le_refl _) ht'))) hst2

theorem Cx.ok_inv {x : Cx} {F G : FuncId} (h : x.ok F G = true) : G ≠ 0 ∧ (∀ fx, (x.fl = none → fx = false) → fx = true → F ≠ 0) := by
  simp only [Cx.ok, Bool.and_eq_true, bne_iff_ne, ne_eq, Bool.or_eq_true] at h
  refine ⟨h.1, fun fx hno hfx => ?_⟩
  rcases h.2 with h | h
  · cases hx : x.fl with
    | none => have := hno hx; rw [this] at hfx; cases hfx
    | some f => rw [hx] at h; cases h
  · exact h

theorem wok_scal (H : EnvW P E sb.T) (s : Scal) (df : Int) : (Ty.scal s df).WOk P E W0 sb := by
  intro x ver fx L v n t b B a w xs cs d Q hok hs hv hv1 hn ht hst hh hr hb k
  simp only [Ty.okW, Bool.and_eq_true, bne_iff_ne, ne_eq] at hok
  cases d with
  | int m =>
    simp only [Ty.Rep] at hr
    simp only [Ty.Holds, Ty.tp, Ty.arr] at hh
    have he : a.eval (.tmp v) = s.val m := by
      have := hh.symm.trans hr.1
      simpa using this
    simp only [Ty.wr] at hb k
    simp only [Ty.wc]
    exact w_app hs hv ht hst he (H.scal s hok.1 m _ _ hr.2) hb k
  | _ => exact absurd hr (by simp [Ty.Rep])

theorem wok_named (H : EnvW P E sb.T) (s : Scal) (T : TypeId) (df : Int) : (Ty.named s T df).WOk P E W0 sb := by
  intro x ver fx L v n t b B a w xs cs d Q hok hs hv hv1 hn ht hst hh hr hb k
  simp only [Ty.okW, Bool.and_eq_true, bne_iff_ne, ne_eq] at hok
  have h1 := hs.one; have h2 := hs.nL; have h3 := hs.Lt
  simp only [Ty.wn] at hn
  simp only [Ty.wt] at ht
  cases d with
  | int m =>
    simp only [Ty.Rep] at hr
    simp only [Ty.Holds, Ty.tp, Ty.arr] at hh
    have he : a.eval (.tmp v) = s.val m := by
      have := hh.symm.trans hr.1
      simpa using this
    simp only [Ty.wr] at hb k
    simp only [Ty.wc]
    refine vc_sq (vc_rg (by simp) ?_)
    refine r_move ?_
    refine r_assign ?_
    refine dn ?_
    have hf : Fr (KW L n t) a ((a.put (some t) (a.eval (.tmp v))).put (some n) ((a.put (some t) (a.eval (.tmp v))).eval (.tmp t))) :=
      ((Fr.refl _ a).put _ (hs.kt t (Nat.le_refl _))).put _ (by rintro ⟨_, h | h⟩ <;> omega)
    have he1 : ((a.put (some t) (a.eval (.tmp v))).put (some n) ((a.put (some t) (a.eval (.tmp v))).eval (.tmp t))).eval (.tmp 1) = a.eval (.tmp 1) := by simp (disch := (first | omega | (simp only [sP]; omega))) only [eS, eN, eC]
    have hen : ((a.put (some t) (a.eval (.tmp v))).put (some n) ((a.put (some t) (a.eval (.tmp v))).eval (.tmp t))).eval (.tmp n) = s.val m := by simp (disch := (first | omega | (simp only [sP]; omega))) only [eS, eN, eC, he]
    refine vc_sq (w_app (n := n + 1) (t := t + 1) (hs.up (by omega) (by omega) (by omega)) (by omega) (by rw [hf.size]; omega) (hst.fr hs hf he1) hen (H.scal s hok.1 m _ _ hr.2) hb ?_)
    exact fun a' w' hf' hst' => vc_sq_nil (k a' w' (hf.trans (hf'.mono (KW.mono (by omega) (by omega)))) hst')
  | _ => exact absurd hr (by simp [Ty.Rep])

theorem wok_uuid (H : EnvW P E sb.T) : (Ty.uuid).WOk P E W0 sb := by
  intro x ver fx L v n t b B a w xs cs d Q hok hs hv hv1 hn ht hst hh hr hb k
  simp only [Ty.okW, Bool.and_eq_true, bne_iff_ne, ne_eq, beq_iff_eq] at hok
  have h1 := hs.one; have h2 := hs.nL; have h3 := hs.Lt
  cases d with
  | bytes o =>
    cases o with
    | none => exact absurd hr (by simp [Ty.Rep])
    | some l =>
      simp only [Ty.Rep] at hr
      obtain ⟨hl, rfl⟩ := hr
      simp only [Ty.Holds, Ty.tp, Ty.arr, if_true] at hh
      obtain ⟨q, hq, hc⟩ := hh
      simp only [Ty.wr] at hb k
      simp only [Ty.wc]
      refine vc_sq (m_appArr (K := KW L n t) rfl hq (by rw [hok.1.2]; simp [hl]) hc (H.uuid hok.1.1 l _ _ hl _ xs hst.own hst.size hb) hs.kt hs.k1 (by omega) (by omega) ht ?_)
      exact fun a' v' w' hf e hS => vc_sq_nil (k a' w' hf (hst.step hs hf e hS))
  | _ => exact absurd hr (by simp [Ty.Rep])

theorem wok_text (H : EnvW P E sb.T) : (Ty.text).WOk P E W0 sb := by
  intro x ver fx L v n t b B a w xs cs d Q hok hs hv hv1 hn ht hst hh hr hb k
  simp only [Ty.okW, Bool.and_eq_true] at hok
  obtain ⟨hG, hF⟩ := Cx.ok_inv hok.1
  cases d with
  | bytes o =>
    cases o with
    | none => exact absurd hr (by simp [Ty.Rep])
    | some l =>
      simp only [Ty.Rep] at hr
      simp only [Ty.Holds, Ty.tp, Ty.arr] at hh
      have he : a.eval (.tmp v) = .string ⟨l.toArray⟩ := by
        have := hh.symm.trans hr
        simpa using this
      simp only [Ty.wr] at hb k
      simp only [Ty.wc]
      exact w_flex (bs := fun fx => wrStr fx l) hs hv hv1 ht hst he (fun hfx => H.cstr (hF fx hs.no hfx) l _ _) (fun _ => H.str hG l _ _) hb k
  | _ => exact absurd hr (by simp [Ty.Rep])

theorem pstr_of_rep {w : World} {B : Nat} {v : Value} {o : Option (List UInt8)} (hw : Below W0.heap.size W0 w) (h : (Ty.ntext).Rep W0 sb B [v] (.bytes o)) : PStrAt w W0.heap.size v o := by
  cases o with
  | none => simp only [Ty.Rep] at h; simpa [PStrAt] using h
  | some l =>
    simp only [Ty.Rep] at h
    obtain ⟨q, hv, _, hc⟩ := h
    have hq := lt_of_cell hc
    exact ⟨q, by simpa using hv, hq, by rw [hw.cell (p := ⟨q, 0, none⟩) hq]; exact hc⟩
theorem Cells.below {w w' : World} {B b o : Nat} {cs : List Value} (h : Cells w b o cs) (hw : Below B w w') (hb : b < B) : Cells w' b o cs :=
  fun i v hv => by rw [hw.cell (p := ⟨b, o + i, none⟩) hb]; exact h i v hv
theorem oct_of_rep {w : World} {B : Nat} {v : Value} {o : Option (List UInt8)} (hw : Below W0.heap.size W0 w) (h : (Ty.nbytes).Rep W0 sb B [v] (.bytes o)) : OctAt w W0.heap.size v o := by
  cases o with
  | none => simp only [Ty.Rep] at h; simpa [OctAt] using h
  | some l =>
    simp only [Ty.Rep] at h
    obtain ⟨q, o, cap, hv, _, hc, hq⟩ := h
    exact ⟨q, o, cap, by simpa using hv, hq, hc.below hw hq⟩

theorem wok_ntext (H : EnvW P E sb.T) : (Ty.ntext).WOk P E W0 sb := by
  intro x ver fx L v n t b B a w xs cs d Q hok hs hv hv1 hn ht hst hh hr hb k
  simp only [Ty.okW, Bool.and_eq_true] at hok
  obtain ⟨hG, hF⟩ := Cx.ok_inv hok.1
  have hh' : cs = [a.eval (.tmp v)] := by simpa [Ty.Holds, Ty.tp, Ty.arr] using hh
  subst hh'
  cases d with
  | bytes o =>
    have hp : PStrAt w W0.heap.size (a.eval (.tmp v)) o := pstr_of_rep hst.below hr
    simp only [Ty.wr] at hb k
    simp only [Ty.wc]
    exact w_flex (bs := fun fx => wrNStr fx o) hs hv hv1 ht hst rfl (fun hfx => H.cnstr (hF fx hs.no hfx) _ o _ _ hp) (fun _ => H.nstr hG _ o _ _ hp) hb k
  | _ => exact absurd hr (by simp [Ty.Rep])

theorem wok_bytes (H : EnvW P E sb.T) : (Ty.bytes).WOk P E W0 sb := by
  intro x ver fx L v n t b B a w xs cs d Q hok hs hv hv1 hn ht hst hh hr hb k
  simp only [Ty.okW, Bool.and_eq_true] at hok
  obtain ⟨hG, hF⟩ := Cx.ok_inv hok.1
  have hh' : cs = [a.eval (.tmp v)] := by simpa [Ty.Holds, Ty.tp, Ty.arr] using hh
  subst hh'
  cases d with
  | bytes o =>
    have hr' : (Ty.nbytes).Rep W0 sb B [a.eval (.tmp v)] (.bytes o) := by cases o <;> simpa [Ty.Rep] using hr
    have hp : OctAt w W0.heap.size (a.eval (.tmp v)) o := oct_of_rep hst.below hr'
    simp only [Ty.wr] at hb k
    simp only [Ty.wc]
    exact w_flex (bs := fun fx => wrBytes fx (o.getD [])) hs hv hv1 ht hst rfl (fun hfx => H.cocts (hF fx hs.no hfx) _ o _ _ hp) (fun _ => H.octs hG _ o _ _ hp) hb k
  | _ => exact absurd hr (by simp [Ty.Rep])

theorem wok_nbytes (H : EnvW P E sb.T) : (Ty.nbytes).WOk P E W0 sb := by
  intro x ver fx L v n t b B a w xs cs d Q hok hs hv hv1 hn ht hst hh hr hb k
  simp only [Ty.okW, Bool.and_eq_true] at hok
  obtain ⟨hG, hF⟩ := Cx.ok_inv hok.1
  have hh' : cs = [a.eval (.tmp v)] := by simpa [Ty.Holds, Ty.tp, Ty.arr] using hh
  subst hh'
  cases d with
  | bytes o =>
    have hp : OctAt w W0.heap.size (a.eval (.tmp v)) o := oct_of_rep hst.below hr
    simp only [Ty.wr] at hb k
    simp only [Ty.wc]
    exact w_flex (bs := fun fx => wrNBytes fx o) hs hv hv1 ht hst rfl (fun hfx => H.cnocts (hF fx hs.no hfx) _ o _ _ hp) (fun _ => H.nocts hG _ o _ _ hp) hb k
  | _ => exact absurd hr (by simp [Ty.Rep])
end
end Go.Km
