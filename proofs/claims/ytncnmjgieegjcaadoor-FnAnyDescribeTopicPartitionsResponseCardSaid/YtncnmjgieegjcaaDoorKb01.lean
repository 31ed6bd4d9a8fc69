/- The loop 'for i := range x' of AppendTo. What AppendTo writes: for every shape of a message. What AppendTo writes: tags, fields, lists, structs; every shape. What AppendTo writes: lists, structs; every shape; the whole function. What AppendTo writes: every shape; the whole function. What kbin's functions that write do. What kbin's functions that write do: texts, octets, counts. What kbin's AppendUvarint does. Tags: how many; the writing of none. All of kbin's writing together. What the small functions of the spec do. What the small functions of the spec do: Uvarint, width, counted, version. The trees and the fields of the spec in memory; has, null, whole, things, at, Same. whole, things, at, Same. Same. -/
import Derived.Test.YtncnmjgieegjcaaDoorKb00
import Derived.IntWalk
import Derived.Laws.BitsAllLaws
import Derived.Laws.Tables
set_option linter.unusedSimpArgs false
set_option linter.unusedVariables false
namespace Go.Km
open Go Go.RowKit
attribute [local irreducible] vc rO_ runG
theorem wrap_i64 {n : Int} (h0 : -9223372036854775808 ≤ n) (h1 : n ≤ 9223372036854775807) : IntKind.i64.wrap n = n := IntWalk.i64_in n ⟨h0, h1⟩
section
variable {P : Program} {Q : Exit → Act → World → Prop} {a : Act} {w : World}
set_option maxHeartbeats 1000000 in
theorem m_wloop {E : Env} {T e : TypeId} {s x t b post len cap : Nat} {ad : Option Addr} {body : Code} (hx : a.eval (.tmp x) = .slice ad len cap) (hT : sliceT P T = some (e, s)) (hlen : len ≤ 9223372036854775806)
  (hxt : x < t) (hpost : t + 4 ≤ post) (hsz : post < a.tmps.size) (I : Nat → Act → World → Prop)
  (stab : ∀ i a a' w, I i a w → a'.tmps.size = a.tmps.size → a'.defers = a.defers → (∀ k, k < t → a'.eval (.tmp k) = a.eval (.tmp k)) → I i a' w)
  (h0 : I 0 a w)
  (step : ∀ i a' w', i < len → I i a' w' → a'.eval (.tmp (t + 2)) = .int .i64 (i : Int) → a'.tmps.size = a.tmps.size →
   vc P body (fun | .normal => fun a2 w2 => I (i + 1) a2 w2 ∧ a2.eval (.tmp (t + 2)) = a'.eval (.tmp (t + 2)) ∧ a2.eval (.tmp (t + 1)) = a'.eval (.tmp (t + 1)) ∧ a2.tmps.size = a'.tmps.size | _ => fun _ _ => False) a' w')
  (done : ∀ a' w', I len a' w' → Q .normal a' w') : vc P (wLoop E T x t b post body) Q a w := by
 unfold wLoop
 refine vX (rM ?_)
 refine r_len (ad := ad) (n := len) (c := cap) hT (by simp (disch := (try simp only [sP]); omega) only [eV, hx]) ?_
 refine rM (dn ?_)
 refine vS (vc_block ?_)
 refine vc_loop (fun a' w' => ∃ i, i ≤ len ∧ I i a' w' ∧ a'.eval (.tmp (t + 2)) = .int .i64 (i : Int) ∧ a'.eval (.tmp (t + 1)) = .int .i64 (len : Int) ∧ a'.tmps.size = a.tmps.size)
  (fun a' _ => len - (intOf (a'.eval (.tmp (t + 2)))).toNat) ?_ ?_
 ·refine ⟨0, Nat.zero_le _, stab 0 a _ w h0 (by simp only [zP]) (by simp only [dF]) (fun k hk => by simp (disch := (try simp only [sP]); omega) only [eV]), ?_, ?_, by simp only [zP]⟩
  ·simp (disch := (first | omega | (simp only [zP]; omega))) only [eval_put_same]; rfl
  ·simp (disch := (try simp only [sP]); omega) only [eV]
 rintro a1 w1 ⟨i, hi, hI, h2, h1, hs1⟩
 refine vX ?_
 refine r_lss (k := .i64) (m := i) (n := len) h2 h1 ?_
 refine dn ?_
 refine vS (vC (t := decide ((i : Int) < len)) (by simp (disch := (try simp only [sP]); omega) only [eV]) ?_ ?_)
 ·intro hlt
  have hlt' : i < len := by simpa using hlt
  refine vK ?_
  refine vS (vc_block ?_)
  have hI' : I i (a1.put (some (t + 3)) (.bool (decide ((i : Int) < len)))) w1 := stab i a1 _ w1 hI (zP _ _ _) (dF _ _ _) (fun k hk => eval_put_ne _ _ _ _ (by omega))
  refine vc_mono _ (step i _ w1 hlt' hI' (by rw [eval_put_ne _ _ _ _ (by omega)]; exact h2) (by rw [zP]; exact hs1)) ?_
  intro ex a2 w2 h
  cases ex with
  | normal =>
   obtain ⟨hI2, e2, e1, hs2⟩ := h
   have e2' : a2.eval (.tmp (t + 2)) = .int .i64 (i : Int) := by rw [e2, eval_put_ne _ _ _ _ (by omega)]; exact h2
   have e1' : a2.eval (.tmp (t + 1)) = .int .i64 (len : Int) := by rw [e1, eval_put_ne _ _ _ _ (by omega)]; exact h1
   have hs2' : a2.tmps.size = a.tmps.size := by rw [hs2, zP]; exact hs1
   refine vX ?_
   refine r_add (k := .i64) (m := i) (n := 1) e2' rfl ?_
   refine rM (dn (vN ?_))
   have hw : IntKind.i64.wrap ((i : Int) + 1) = ((i + 1 : Nat) : Int) := by rw [wrap_i64 (by omega) (by omega)]; omega
   have hps : post < a2.tmps.size := by omega
   have e3 : ((a2.put (some post) (.int .i64 (IntKind.i64.wrap ((i : Int) + 1)))).put (some (t + 2)) ((a2.put (some post) (.int .i64 (IntKind.i64.wrap ((i : Int) + 1)))).eval (.tmp post))).eval (.tmp (t + 2)) = .int .i64 ((i + 1 : Nat) : Int) := by
    rw [eval_put_same _ _ _ (by rw [zP]; omega), eval_put_same _ _ _ hps, hw]
   refine ⟨⟨i + 1, hlt', stab (i + 1) a2 _ w2 hI2 (by simp only [zP]) (by simp only [dF]) (fun k hk => by simp (disch := (try simp only [sP]); omega) only [eV]), e3, ?_, by simp only [zP]; exact hs2'⟩, ?_⟩
   ·rw [eval_put_ne _ _ _ _ (by omega), eval_put_ne _ _ _ _ (by omega)]; exact e1'
   ·show len - (intOf _).toNat < len - (intOf _).toNat
    rw [e3, h2]
    simp only [intOf, Int.toNat_natCast]
    omega
  | _ => exact h.elim
 ·intro hge
  have hi' : i = len := by simp at hge; omega
  subst hi'
  refine vc_exit ?_
  show Exit.inBlock b _ (.exit b) _ _
  simp only [Exit.inBlock, if_true]
  exact vN (done _ _ (stab i a1 _ w1 hI (zP _ _ _) (dF _ _ _) (fun k hk => eval_put_ne _ _ _ _ (by omega))))
end
end Go.Km
namespace Go.Km
open Go Go.RowKit
attribute [local irreducible] vc rO_ runG
def Wr1 (P : Program) (E : Env) (F : FuncId) (U : Nat) (args : List Value) (bs : List UInt8) (w : World) : Prop :=
 ∀ dv (xs : List UInt8), w.ownsRow U E.tU8 1 dv xs.length (xs.map bv) → U ≤ w.heap.size → xs.length + bs.length ≤ big →
  CallsV P F (#[dv] ++ args.toArray) w fun v' w' => w'.ownsRow U E.tU8 1 v' (xs ++ bs).length ((xs ++ bs).map bv) ∧ Below U w w'
def PStrAt (w : World) (U : Nat) (v : Value) : Option (List UInt8) → Prop
 | none => v = .pointer none
 | some l => ∃ q, v = .pointer (some ⟨q, 0, none⟩) ∧ q < U ∧ w.cell? ⟨q, 0, none⟩ = some (.string ⟨l.toArray⟩)
def OctAt (w : World) (U : Nat) (v : Value) : Option (List UInt8) → Prop
 | none => v = .slice none 0 0
 | some l => ∃ q o cap, v = .slice (some ⟨q, o, none⟩) l.length cap ∧ q < U ∧ Cells w q o (l.map bv)
structure EnvW (P : Program) (E : Env) (T : List (Nat × List UInt8) → Prop) : Prop where
 bytes : sliceT P E.tB = some (E.tU8, 1)
 scal : ∀ s, E.wScal s ≠ 0 → ∀ n U w, s.ok n → Wr1 P E (E.wScal s) U [s.val n] (s.wr n) w
 uuid : E.wUuid ≠ 0 → ∀ l U w, l.length = 16 → Wr1 P E E.wUuid U [.agg (l.map bv).toArray] l w
 str : E.wStr ≠ 0 → ∀ l U w, Wr1 P E E.wStr U [.string ⟨l.toArray⟩] (wrStr false l) w
 cstr : E.wCStr ≠ 0 → ∀ l U w, Wr1 P E E.wCStr U [.string ⟨l.toArray⟩] (wrStr true l) w
 nstr : E.wNStr ≠ 0 → ∀ v o U w, PStrAt w U v o → Wr1 P E E.wNStr U [v] (wrNStr false o) w
 cnstr : E.wCNStr ≠ 0 → ∀ v o U w, PStrAt w U v o → Wr1 P E E.wCNStr U [v] (wrNStr true o) w
 octs : E.wBytes ≠ 0 → ∀ v o U w, OctAt w U v o → Wr1 P E E.wBytes U [v] (wrBytes false (o.getD [])) w
 cocts : E.wCBytes ≠ 0 → ∀ v o U w, OctAt w U v o → Wr1 P E E.wCBytes U [v] (wrBytes true (o.getD [])) w
 nocts : E.wNBytes ≠ 0 → ∀ v o U w, OctAt w U v o → Wr1 P E E.wNBytes U [v] (wrNBytes false o) w
 cnocts : E.wCNBytes ≠ 0 → ∀ v o U w, OctAt w U v o → Wr1 P E E.wCNBytes U [v] (wrNBytes true o) w
 len : E.wLen ≠ 0 → ∀ (n : Nat) U w, n ≤ big → Wr1 P E E.wLen U [.int .i64 n] (wrLen false n) w
 clen : E.wCLen ≠ 0 → ∀ (n : Nat) U w, n ≤ big → Wr1 P E E.wCLen U [.int .i64 n] (wrLen true n) w
 nlen : E.wNLen ≠ 0 → ∀ (n : Nat) (b : Bool) U w, n ≤ big → Wr1 P E E.wNLen U [.int .i64 n, .bool b] (if b then wrNull false else wrLen false n) w
 cnlen : E.wCNLen ≠ 0 → ∀ (n : Nat) (b : Bool) U w, n ≤ big → Wr1 P E E.wCNLen U [.int .i64 n, .bool b] (if b then wrNull true else wrLen true n) w
 uvar : E.wUvarint ≠ 0 → ∀ (n : Nat) U w, n < 4294967296 → Wr1 P E E.wUvarint U [.int .u32 n] (Go.Km.uvar n) w
 tlen : E.tLen ≠ 0 → ∀ W0 (sb : Sb) b o v tags w, sb.T = T → W0.cell? ⟨b, o, none⟩ = some v → TagsRep W0 sb 0 v tags → Below W0.heap.size W0 w →
  CallsV P E.tLen #[.pointer (some ⟨b, o, none⟩)] w fun r w' => r = .int .i64 (tags.length : Int) ∧ Grow w w'
 teach : E.tEach ≠ 0 → ∀ W0 (sb : Sb) b o v tags w, sb.T = T → W0.cell? ⟨b, o, none⟩ = some v → TagsRep W0 sb 0 v tags → Below W0.heap.size W0 w →
  ∀ dv (xs : List UInt8), w.ownsRow W0.heap.size E.tU8 1 dv xs.length (xs.map bv) → xs.length + ((tags.map wrTag).flatten).length ≤ big →
   CallsV P E.tEach #[.pointer (some ⟨b, o, none⟩), dv] w fun v' w' =>
    w'.ownsRow W0.heap.size E.tU8 1 v' (xs ++ (tags.map wrTag).flatten).length ((xs ++ (tags.map wrTag).flatten).map bv) ∧ Below W0.heap.size w w'
def zeroAgg (P : Program) (t : TypeId) (n : Nat) : Bool :=
 match zeroT P t with
 | some (.agg c) => c.size == n
 | _ => false
theorem zeroAgg_inv {P : Program} {t n} (h : zeroAgg P t n = true) : ∃ z : List Value, zeroT P t = some (.agg z.toArray) ∧ z.length = n := by
 unfold zeroAgg at h
 split at h
 ·rename_i c hc
  exact ⟨c.toList, by simpa using hc, by simpa using h⟩
 ·cases h
def sliceB (P : Program) (t : TypeId) (n : Nat) : Bool :=
 match sliceT P t with
 | some (_, s) => s == n
 | none => false
theorem sliceB_inv {P : Program} {t n} (h : sliceB P t n = true) : ∃ e, sliceT P t = some (e, n) := by
 unfold sliceB at h
 split at h
 ·rename_i e s hs
  simp only [beq_iff_eq] at h
  subst h
  exact ⟨e, hs⟩
 ·cases h
def ptrB (P : Program) (t : TypeId) : Bool :=
 match P.underlying t with
 | some (.pointer _) => true
 | _ => false
theorem ptrB_inv {P : Program} {t} (h : ptrB P t = true) : ∃ e, P.underlying t = some (.pointer e) := by
 unfold ptrB at h
 split at h
 ·rename_i e he
  exact ⟨e, he⟩
 ·cases h
def Cx.ok (x : Cx) (F G : FuncId) : Bool := (G != 0) && (x.fl.isNone || F != 0)
mutual
def Ty.okW (P : Program) (E : Env) (x : Cx) : Ty → Bool
 | .scal s _ => E.wScal s != 0 && oneT P (E.tScal s)
 | .named s T _ => E.wScal s != 0 && oneT P T
 | .uuid => E.wUuid != 0 && aggT P E.tUuid == some 16 && zeroAgg P E.tUuid 16
 | .text => x.ok E.wCStr E.wStr && oneT P E.tStr
 | .ntext => x.ok E.wCNStr E.wNStr && oneT P E.tPStr
 | .ntextFrom _ => x.ok E.wCStr E.wStr && x.ok E.wCNStr E.wNStr && oneT P E.tPStr && oneT P E.tStr && ptrB P E.tPStr
 | .bytes => x.ok E.wCBytes E.wBytes && oneT P E.tB
 | .nbytes => x.ok E.wCNBytes E.wNBytes && oneT P E.tB
 | .list TS null e => (if null.isSome then x.ok E.wCNLen E.wNLen else x.ok E.wCLen E.wLen) && oneT P TS && sliceB P TS e.size && !e.arr && e.okW P E x
 | .struct _ TU _ fs => fs.okW P E x TU 0 0
 | .nstruct TP TU _ fs PP => rowB P E.tB E.tU8 1 && ptrB P TP && oneT P TP && fs.okW P E x TU 0 0
def Flds.okW (P : Program) (E : Env) (x : Cx) (TU : TypeId) (idx off : Nat) : Flds → Bool
 | .nil tags => x.fl.isNone || (tags && fieldOff P TU idx == some off && E.tLen != 0 && E.tEach != 0 && E.wUvarint != 0)
 | .cons _ t r => fieldOff P TU idx == some off && t.okW P E x && r.okW P E x TU (idx + 1) (off + t.size)
end
structure WSt (P : Program) (E : Env) (W0 : World) (x : Cx) (ver : Nat) (fx : Bool) (a : Act) (w : World) (xs : List UInt8) : Prop where
 below : Below W0.heap.size W0 w
 own : w.ownsRow W0.heap.size E.tU8 1 (a.eval (.tmp 1)) xs.length (xs.map bv)
 ver : a.eval (.tmp x.vs) = .int .i16 (ver : Int)
 fl : ∀ f, x.fl = some f → a.eval (.tmp f) = .bool fx
def KW (L n t : Nat) (k : Nat) : Prop := k ≠ 1 ∧ (k < n ∨ (L ≤ k ∧ k < t))
theorem KW.mono {L n n' t t' : Nat} (hn : n ≤ n') (ht : t ≤ t') : ∀ k, KW L n t k → KW L n' t' k := fun k ⟨h1, h2⟩ => ⟨h1, by omega⟩
structure WSl (x : Cx) (L n t : Nat) (fx : Bool) : Prop where
 one : 1 < n
 vs : x.vs < n ∧ x.vs ≠ 1
 fl : ∀ f, x.fl = some f → f < n ∧ f ≠ 1
 no : x.fl = none → fx = false
 nL : n ≤ L
 Lt : L ≤ t
theorem WSl.kt {x : Cx} {L n t : Nat} {fx : Bool} (h : WSl x L n t fx) : ∀ d, t ≤ d → ¬ KW L n t d := by
 rintro d hd ⟨_, h2⟩
 have := h.nL; have := h.Lt
 omega
theorem WSl.k1 {x : Cx} {L n t : Nat} {fx : Bool} (h : WSl x L n t fx) : ¬ KW L n t 1 := fun h => h.1 rfl
theorem WSl.up {x : Cx} {L n t n' t' : Nat} {fx : Bool} (h : WSl x L n t fx) (hn : n ≤ n') (hL : n' ≤ L) (ht : t ≤ t') : WSl x L n' t' fx :=
 ⟨by have := h.one; omega, ⟨by have := h.vs.1; omega, h.vs.2⟩, fun f hf => ⟨by have := (h.fl f hf).1; omega, (h.fl f hf).2⟩, h.no, hL, by have := h.Lt; omega⟩
section
variable {P : Program} {E : Env} {W0 : World} {sb : Sb}
theorem WSt.fr {x : Cx} {ver : Nat} {fx : Bool} {a a' : Act} {w : World} {xs : List UInt8} {L n t : Nat} (h : WSt P E W0 x ver fx a w xs) (hs : WSl x L n t fx) (hf : Fr (KW L n t) a a') (h1 : a'.eval (.tmp 1) = a.eval (.tmp 1)) :
  WSt P E W0 x ver fx a' w xs :=
 ⟨h.below, by rw [h1]; exact h.own, by rw [hf.slot _ ⟨hs.vs.2, .inl hs.vs.1⟩]; exact h.ver, fun f hh => by rw [hf.slot _ ⟨(hs.fl f hh).2, .inl (hs.fl f hh).1⟩]; exact h.fl f hh⟩
theorem WSt.step {x : Cx} {ver : Nat} {fx : Bool} {a a' : Act} {w w' : World} {xs bs : List UInt8} {v' : Value} {L n t : Nat} (h : WSt P E W0 x ver fx a w xs) (hs : WSl x L n t fx) (hf : Fr (KW L n t) a a') (h1 : a'.eval (.tmp 1) = v')
  (hc : w'.ownsRow W0.heap.size E.tU8 1 v' (xs ++ bs).length ((xs ++ bs).map bv) ∧ Below W0.heap.size w w') : WSt P E W0 x ver fx a' w' (xs ++ bs) :=
 ⟨h.below.trans hc.2, by rw [h1]; exact hc.1, by rw [hf.slot _ ⟨hs.vs.2, .inl hs.vs.1⟩]; exact h.ver, fun f hh => by rw [hf.slot _ ⟨(hs.fl f hh).2, .inl (hs.fl f hh).1⟩]; exact h.fl f hh⟩
theorem WSt.size {x : Cx} {ver : Nat} {fx : Bool} {a : Act} {w : World} {xs : List UInt8} (h : WSt P E W0 x ver fx a w xs) : W0.heap.size ≤ w.heap.size := h.below.size
def Ty.Holds (W0 w : World) (a : Act) (v : Nat) (cs : List Value) (t : Ty) : Prop :=
 match t.tp with
 | some _ => ∃ b o, a.eval (.tmp v) = .pointer (some ⟨b, o, none⟩) ∧ Cells W0 b o cs
 | none => if t.arr then ∃ q, a.eval (.tmp v) = .pointer (some ⟨q, 0, none⟩) ∧ Cells w q 0 cs else cs = [a.eval (.tmp v)]
def Ty.WOk (P : Program) (E : Env) (W0 : World) (sb : Sb) (ty : Ty) : Prop :=
 ∀ (x : Cx) (ver : Nat) (fx : Bool) (L v n t b B : Nat) (a : Act) (w : World) (xs : List UInt8) (cs : List Value) (d : D) (Q : Exit → Act → World → Prop),
  ty.okW P E x = true → WSl x L n t fx → v < n → v ≠ 1 → n + ty.wn ≤ L → t + ty.wt x ≤ a.tmps.size →
  WSt P E W0 x ver fx a w xs → ty.Holds W0 w a v cs → ty.Rep W0 sb B cs d → xs.length + (ty.wr fx ver d).length ≤ big →
  (∀ a' w', Fr (KW L n t) a a' → WSt P E W0 x ver fx a' w' (xs ++ ty.wr fx ver d) → Q .normal a' w') → vc P (sq (ty.wc E x v n t b)) Q a w
def Flds.WOk (P : Program) (E : Env) (W0 : World) (sb : Sb) (fs : Flds) : Prop :=
 ∀ (x : Cx) (ver : Nat) (fx : Bool) (L TP TU s idx off n t b B pb po : Nat) (a : Act) (w : World) (xs : List UInt8) (cs : List Value) (ds : List D) (tags : List (Nat × List UInt8)) (Q : Exit → Act → World → Prop),
  fs.okW P E x TU idx off = true → WSl x L n t fx → s < n → s ≠ 1 → n + fs.wn ≤ L → t + fs.wt x ≤ a.tmps.size →
  WSt P E W0 x ver fx a w xs → a.eval (.tmp s) = .pointer (some ⟨pb, po, none⟩) → Cells W0 pb (po + off) cs → fs.Rep W0 sb B cs ds tags → xs.length + (fs.wr fx ver ds tags).length ≤ big →
  (∀ a' w', Fr (KW L n t) a a' → WSt P E W0 x ver fx a' w' (xs ++ fs.wr fx ver ds tags) → Q .normal a' w') → vc P (sq (fs.wc E x TP TU s idx n t b)) Q a w
theorem w_app {F : FuncId} {T : TypeId} {x : Cx} {ver : Nat} {fx : Bool} {L v n t : Nat} {a : Act} {w : World} {xs bs : List UInt8} {arg : Value} {Q : Exit → Act → World → Prop}
  (hs : WSl x L n t fx) (hv : v < n) (hsz : t + 3 ≤ a.tmps.size) (hst : WSt P E W0 x ver fx a w xs) (ha : a.eval (.tmp v) = arg) (hc : Wr1 P E F W0.heap.size [arg] bs w) (hb : xs.length + bs.length ≤ big)
  (k : ∀ a' w', Fr (KW L n t) a a' → WSt P E W0 x ver fx a' w' (xs ++ bs) → Q .normal a' w') : vc P (wApp E F T v t) Q a w := by
 have h1 := hs.one; have h2 := hs.nL; have h3 := hs.Lt
 exact m_app rfl ha (hc _ xs hst.own hst.size hb) hs.kt hs.k1 (by omega) (by omega) hsz (fun a' v' w' hf e hS => k a' w' hf (hst.step hs hf e hS))
theorem w_flex {F G : FuncId} {T : TypeId} {x : Cx} {ver : Nat} {fx : Bool} {L v n t : Nat} {a : Act} {w : World} {xs : List UInt8} {bs : Bool → List UInt8} {arg : Value} {Q : Exit → Act → World → Prop}
  (hs : WSl x L n t fx) (hv : v < n) (hv1 : v ≠ 1) (hsz : t + x.nt 3 ≤ a.tmps.size) (hst : WSt P E W0 x ver fx a w xs) (ha : a.eval (.tmp v) = arg)
  (hF : fx = true → Wr1 P E F W0.heap.size [arg] (bs true) w) (hG : fx = false → Wr1 P E G W0.heap.size [arg] (bs false) w) (hb : xs.length + (bs fx).length ≤ big)
  (k : ∀ a' w', Fr (KW L n t) a a' → WSt P E W0 x ver fx a' w' (xs ++ bs fx) → Q .normal a' w') : vc P (wFlex E x t 3 (wApp E F T v) (wApp E G T v)) Q a w := by
 have h1 := hs.one; have h2 := hs.nL; have h3 := hs.Lt
 refine m_flex (K := KW L n t) (fx := fx) (fun f hf => ⟨hst.fl f hf, by have := (hs.fl f hf).1; omega⟩) hs.no hs.kt (by omega) hsz ?_ ?_
 ·intro hfx a' t' hf ht' hsz' he
  subst hfx
  refine w_app (n := n) (L := L) (hs.up (Nat.le_refl _) hs.nL ht') hv (by rw [hf.size]; exact hsz') (hst.fr hs hf (he 1 (by omega))) (by rw [he v (by omega)]; exact ha) (hF rfl) hb ?_
  exact fun a2 w2 hf2 hst2 => k a2 w2 (hf.trans (hf2.mono (KW.mono (Nat.le_refl _) ht'))) hst2
 ·intro hfx a' t' hf ht' hsz' he
  subst hfx
  refine w_app (n := n) (L := L) (hs.up (Nat.le_refl _) hs.nL ht') hv (by rw [hf.size]; exact hsz') (hst.fr hs hf (he 1 (by omega))) (by rw [he v (by omega)]; exact ha) (hG rfl) hb ?_
  exact fun a2 w2 hf2 hst2 => k a2 w2 (hf.trans (hf2.mono (KW.mono (Nat.le_refl _) ht'))) hst2
theorem Cx.ok_inv {x : Cx} {F G : FuncId} (h : x.ok F G = true) : G ≠ 0 ∧ (∀ fx, (x.fl = none → fx = false) → fx = true → F ≠ 0) := by
 simp only [Cx.ok, Bool.and_eq_true, bne_iff_ne, ne_eq, Bool.or_eq_true] at h
 refine ⟨h.1, fun fx hno hfx => ?_⟩
 rcases h.2 with h | h
 ·cases hx : x.fl with
  | none => have := hno hx; rw [this] at hfx; cases hfx
  | some f => rw [hx] at h; cases h
 ·exact h
theorem wok_scal (H : EnvW P E sb.T) (s : Scal) (df : Int) : (Ty.scal s df).WOk P E W0 sb := by
 intro x ver fx L v n t b B a w xs cs d Q hok hs hv hv1 hn ht hst hh hr hb k
 simp only [Ty.okW, Bool.and_eq_true, bne_iff_ne, ne_eq] at hok
 cases d with
 | int m =>
  simp only [Ty.Rep] at hr
  simp only [Ty.Holds, Ty.tp, Ty.arr] at hh
  have he : a.eval (.tmp v) = s.val m := by
   have := hh.symm.trans hr.1
   simpa using this
  simp only [Ty.wr] at hb k
  simp only [Ty.wc]
  exact w_app hs hv ht hst he (H.scal s hok.1 m _ _ hr.2) hb k
 | _ => exact absurd hr (by simp [Ty.Rep])
theorem wok_named (H : EnvW P E sb.T) (s : Scal) (T : TypeId) (df : Int) : (Ty.named s T df).WOk P E W0 sb := by
 intro x ver fx L v n t b B a w xs cs d Q hok hs hv hv1 hn ht hst hh hr hb k
 simp only [Ty.okW, Bool.and_eq_true, bne_iff_ne, ne_eq] at hok
 have h1 := hs.one; have h2 := hs.nL; have h3 := hs.Lt
 simp only [Ty.wn] at hn
 simp only [Ty.wt] at ht
 cases d with
 | int m =>
  simp only [Ty.Rep] at hr
  simp only [Ty.Holds, Ty.tp, Ty.arr] at hh
  have he : a.eval (.tmp v) = s.val m := by
   have := hh.symm.trans hr.1
   simpa using this
  simp only [Ty.wr] at hb k
  simp only [Ty.wc]
  refine vX (rM (rA (dn ?_)))
  have hf : Fr (KW L n t) a ((a.put (some t) (a.eval (.tmp v))).put (some n) ((a.put (some t) (a.eval (.tmp v))).eval (.tmp t))) :=
   ((Fr.refl _ a).put _ (hs.kt t (Nat.le_refl _))).put _ (by rintro ⟨_, h | h⟩ <;> omega)
  have he1 : ((a.put (some t) (a.eval (.tmp v))).put (some n) ((a.put (some t) (a.eval (.tmp v))).eval (.tmp t))).eval (.tmp 1) = a.eval (.tmp 1) := by simp (disch := (try simp only [sP]); omega) only [eV]
  have hen : ((a.put (some t) (a.eval (.tmp v))).put (some n) ((a.put (some t) (a.eval (.tmp v))).eval (.tmp t))).eval (.tmp n) = s.val m := by simp (disch := (try simp only [sP]); omega) only [eV, he]
  refine vS (w_app (n := n + 1) (t := t + 1) (hs.up (by omega) (by omega) (by omega)) (by omega) (by rw [hf.size]; omega) (hst.fr hs hf he1) hen (H.scal s hok.1 m _ _ hr.2) hb ?_)
  exact fun a' w' hf' hst' => vN (k a' w' (hf.trans (hf'.mono (KW.mono (by omega) (by omega)))) hst')
 | _ => exact absurd hr (by simp [Ty.Rep])
theorem wok_uuid (H : EnvW P E sb.T) : (Ty.uuid).WOk P E W0 sb := by
 intro x ver fx L v n t b B a w xs cs d Q hok hs hv hv1 hn ht hst hh hr hb k
 simp only [Ty.okW, Bool.and_eq_true, bne_iff_ne, ne_eq, beq_iff_eq] at hok
 have h1 := hs.one; have h2 := hs.nL; have h3 := hs.Lt
 cases d with
 | bytes o =>
  cases o with
  | none => exact absurd hr (by simp [Ty.Rep])
  | some l =>
   simp only [Ty.Rep] at hr
   obtain ⟨hl, rfl⟩ := hr
   simp only [Ty.Holds, Ty.tp, Ty.arr, if_true] at hh
   obtain ⟨q, hq, hc⟩ := hh
   simp only [Ty.wr] at hb k
   simp only [Ty.wc]
   refine vS (m_appArr (K := KW L n t) rfl hq (by rw [hok.1.2]; simp [hl]) hc (H.uuid hok.1.1 l _ _ hl _ xs hst.own hst.size hb) hs.kt hs.k1 (by omega) (by omega) ht ?_)
   exact fun a' v' w' hf e hS => vN (k a' w' hf (hst.step hs hf e hS))
 | _ => exact absurd hr (by simp [Ty.Rep])
theorem wok_text (H : EnvW P E sb.T) : (Ty.text).WOk P E W0 sb := by
 intro x ver fx L v n t b B a w xs cs d Q hok hs hv hv1 hn ht hst hh hr hb k
 simp only [Ty.okW, Bool.and_eq_true] at hok
 obtain ⟨hG, hF⟩ := Cx.ok_inv hok.1
 cases d with
 | bytes o =>
  cases o with
  | none => exact absurd hr (by simp [Ty.Rep])
  | some l =>
   simp only [Ty.Rep] at hr
   simp only [Ty.Holds, Ty.tp, Ty.arr] at hh
   have he : a.eval (.tmp v) = .string ⟨l.toArray⟩ := by
    have := hh.symm.trans hr
    simpa using this
   simp only [Ty.wr] at hb k
   simp only [Ty.wc]
   exact w_flex (bs := fun fx => wrStr fx l) hs hv hv1 ht hst he (fun hfx => H.cstr (hF fx hs.no hfx) l _ _) (fun _ => H.str hG l _ _) hb k
 | _ => exact absurd hr (by simp [Ty.Rep])
theorem pstr_of_rep {w : World} {B : Nat} {v : Value} {o : Option (List UInt8)} (hw : Below W0.heap.size W0 w) (h : (Ty.ntext).Rep W0 sb B [v] (.bytes o)) : PStrAt w W0.heap.size v o := by
 cases o with
 | none => simp only [Ty.Rep] at h; simpa [PStrAt] using h
 | some l =>
  simp only [Ty.Rep] at h
  obtain ⟨q, hv, _, hc⟩ := h
  have hq := lt_of_cell hc
  exact ⟨q, by simpa using hv, hq, by rw [hw.cell (p := ⟨q, 0, none⟩) hq]; exact hc⟩
theorem Cells.below {w w' : World} {B b o : Nat} {cs : List Value} (h : Cells w b o cs) (hw : Below B w w') (hb : b < B) : Cells w' b o cs :=
 fun i v hv => by rw [hw.cell (p := ⟨b, o + i, none⟩) hb]; exact h i v hv
theorem oct_of_rep {w : World} {B : Nat} {v : Value} {o : Option (List UInt8)} (hw : Below W0.heap.size W0 w) (h : (Ty.nbytes).Rep W0 sb B [v] (.bytes o)) : OctAt w W0.heap.size v o := by
 cases o with
 | none => simp only [Ty.Rep] at h; simpa [OctAt] using h
 | some l =>
  simp only [Ty.Rep] at h
  obtain ⟨q, o, cap, hv, _, hc, hq⟩ := h
  exact ⟨q, o, cap, by simpa using hv, hq, hc.below hw hq⟩
theorem wok_ntext (H : EnvW P E sb.T) : (Ty.ntext).WOk P E W0 sb := by
 intro x ver fx L v n t b B a w xs cs d Q hok hs hv hv1 hn ht hst hh hr hb k
 simp only [Ty.okW, Bool.and_eq_true] at hok
 obtain ⟨hG, hF⟩ := Cx.ok_inv hok.1
 have hh' : cs = [a.eval (.tmp v)] := by simpa [Ty.Holds, Ty.tp, Ty.arr] using hh
 subst hh'
 cases d with
 | bytes o =>
  have hp : PStrAt w W0.heap.size (a.eval (.tmp v)) o := pstr_of_rep hst.below hr
  simp only [Ty.wr] at hb k
  simp only [Ty.wc]
  exact w_flex (bs := fun fx => wrNStr fx o) hs hv hv1 ht hst rfl (fun hfx => H.cnstr (hF fx hs.no hfx) _ o _ _ hp) (fun _ => H.nstr hG _ o _ _ hp) hb k
 | _ => exact absurd hr (by simp [Ty.Rep])
theorem r_neNilP {d T x ty p af g ad} {e : TypeId} {a : Act} {w : World} {r : List Oper} {Q : Exit → Act → World → Prop} (hT : P.underlying T = some (.pointer e)) (hx : a.eval x = .pointer ad) (h : rO_ P Q r (a.put (some d) (.bool (!ad.isNone))) w) :
  rO_ P Q (⟨some d, .binOp .neq T x (.const (.pointer none)) T, ty, p, af, g⟩ :: r) a w := by
 refine st ?_
 have hb : (binOp .neq T (.pointer ad) (.pointer none)).run P w = .ok (.bool (!ad.isNone)) w := by
  have h0 : ∀ k : Nat, (Op.equalIn (k + 1) T (.pointer ad) (.pointer none)).run P w = .ok ad.isNone w := fun k => by
   cases ad <;> simp [Op.equalIn, run_underlying hT]
  simp only [binOp]
  simp [Op.equal, Op.maxDepth, h0 9999]
 have hg : (eqGuard .neq T x (.const (.pointer none)) (.pointer ad) (.pointer none)) = pure () := by cases ad <;> rfl
 simp only [Oper.wp, execOp, hx, eval_const, hg, hb, Sem.run_bind, Sem.run_pure, Result.andThen_ok, Oper.upon_value]
 exact h
set_option maxHeartbeats 1000000 in
theorem wok_ntextFrom (H : EnvW P E sb.T) (N : Nat) : (Ty.ntextFrom N).WOk P E W0 sb := by
 intro x ver fx L v n t b B a w xs cs d Q hok hs hv hv1 hn ht hst hh hr hb k
 simp only [Ty.okW, Bool.and_eq_true] at hok
 obtain ⟨⟨⟨⟨hok1, hok2⟩, hP⟩, hS⟩, hT⟩ := hok
 obtain ⟨hG1, hF1⟩ := Cx.ok_inv hok1
 obtain ⟨hG2, hF2⟩ := Cx.ok_inv hok2
 obtain ⟨te, hT⟩ := ptrB_inv hT
 have h1 := hs.one; have h2 := hs.nL; have h3 := hs.Lt
 simp only [Ty.wn] at hn
 simp only [Ty.wt] at ht
 have hh' : cs = [a.eval (.tmp v)] := by simpa [Ty.Holds, Ty.tp, Ty.arr] using hh
 subst hh'
 cases d with
 | bytes o =>
  have hr' : (Ty.ntext).Rep W0 sb B [a.eval (.tmp v)] (.bytes o) := by cases o <;> simpa [Ty.Rep] using hr
  have hp : PStrAt w W0.heap.size (a.eval (.tmp v)) o := pstr_of_rep hst.below hr'
  simp only [Ty.wr] at hb k
  simp only [Ty.wc]
  refine vS (m_ifLss (K := KW L n t) hst.ver (by have := hs.vs.1; omega) hs.kt (by omega) ?_ ?_)
  ·intro hlt a1 hf1 he1
   rw [if_pos hlt] at hb
   simp only [if_pos hlt] at k
   have hz1 := hf1.size
   have fin : ∀ a2, Fr (KW L n t) a a2 → a2.eval (.tmp n) = .string ⟨(o.getD []).toArray⟩ → a2.eval (.tmp 1) = a.eval (.tmp 1) →
     vc P (sq [rg [oMove (t + 7) (.tmp n) E.tStr, oAssign (n + 1) (.tmp (t + 7)) E.tStr], wFlex E x (t + 8) 3 (wApp E E.wCStr E.tStr (n + 1)) (wApp E E.wStr E.tStr (n + 1))]) (Exit.then (vc P (sq []) Q) Q) a2 w := by
    intro a2 hf2 hen he21
    have hz2 := hf2.size
    refine vX (rM (rA (dn ?_)))
    generalize ha3 : Act.put _ (some (n + 1)) _ = a3
    have hf3 : Fr (KW L n t) a a3 := by
     subst ha3
     exact (hf2.put _ (hs.kt _ (by omega))).put _ (by rintro ⟨_, h | h⟩ <;> omega)
    have he3 : a3.eval (.tmp (n + 1)) = .string ⟨(o.getD []).toArray⟩ := by subst ha3; simp (disch := (try simp only [sP]); omega) only [eV, hen]
    have he31 : a3.eval (.tmp 1) = a.eval (.tmp 1) := by subst ha3; simp (disch := (try simp only [sP]); omega) only [eV, he21]
    clear ha3
    refine vS (w_flex (n := n + 2) (L := L) (t := t + 8) (bs := fun fx => wrStr fx (o.getD [])) (hs.up (by omega) (by omega) (by omega)) (by omega) (by omega) (by rw [hf3.size]; omega) (hst.fr hs hf3 he31) he3 (fun hfx => H.cstr (hF1 fx hs.no hfx) _ _ _) (fun _ => H.str hG1 _ _ _) hb ?_)
    exact fun a4 w4 hf4 hst4 => vN (vN (k a4 w4 (hf3.trans (hf4.mono (KW.mono (by omega) (by omega)))) hst4))
   have hva : a1.eval (.tmp v) = a.eval (.tmp v) := he1 v (by omega)
   have h11 : a1.eval (.tmp 1) = a.eval (.tmp 1) := he1 1 (by omega)
   refine vX (rA (dn ?_))
   generalize ha2 : Act.put a1 (some n) _ = a2
   have hf2 : Fr (KW L n t) a a2 := by subst ha2; exact hf1.put _ (by rintro ⟨_, h | h⟩ <;> omega)
   have hz2 := hf2.size
   have he2 : a2.eval (.tmp n) = .string ⟨#[]⟩ := by subst ha2; simp (disch := (try simp only [sP]); omega) only [eV]
   have he2v : a2.eval (.tmp v) = a.eval (.tmp v) := by subst ha2; simp (disch := (try simp only [sP]); omega) only [eV, hva]
   have he21 : a2.eval (.tmp 1) = a.eval (.tmp 1) := by subst ha2; simp (disch := (try simp only [sP]); omega) only [eV, h11]
   clear ha2
   refine vS (vX (rM ?_))
   cases o with
   | none =>
    have hpv : a.eval (.tmp v) = .pointer none := hp
    refine r_neNilP (ad := none) hT (by simp (disch := (try simp only [sP]); omega) only [eV, he2v, hpv]) ?_
    refine dn ?_
    refine vS (vC (t := false) (by simp (disch := (try simp only [sP]); omega) only [eV, Option.isNone, Bool.not_true]) (fun h => by cases h) (fun _ => ?_))
    refine vK (vN ?_)
    refine fin _ ((hf2.put _ (hs.kt _ (by omega))).put _ (hs.kt _ (by omega))) ?_ ?_
    ·simp (disch := (try simp only [sP]); omega) only [eV, he2]
     rfl
    ·simp (disch := (try simp only [sP]); omega) only [eV, he21]
   | some l =>
    obtain ⟨q, hpv, hq, hqc⟩ := hp
    refine r_neNilP (ad := some ⟨q, 0, none⟩) hT (by simp (disch := (try simp only [sP]); omega) only [eV, he2v, hpv]) ?_
    refine dn ?_
    refine vS (vC (t := true) (by simp (disch := (try simp only [sP]); omega) only [eV, Option.isNone, Bool.not_false]) (fun _ => ?_) (fun h => by cases h))
    refine vR (by simp) ?_
    refine rM ?_
    refine r_nil (ad := ⟨q, 0, none⟩) (by simp (disch := (try simp only [sP]); omega) only [eV, he2v, hpv]) ?_
    refine rL (b := q) (o := 0) (v := .string ⟨l.toArray⟩) (by simp (disch := (try simp only [sP]); omega) only [eV]) hS hqc ?_
    refine rA (dn (vN ?_))
    refine fin _ ((((((hf2.put _ (hs.kt _ (by omega))).put _ (hs.kt _ (by omega))).put _ (hs.kt _ (by omega))).put _ (hs.kt _ (by omega))).put _ (hs.kt _ (by omega))).put _ (by rintro ⟨_, h | h⟩ <;> omega)) ?_ ?_
    ·simp (disch := (try simp only [sP]); omega) only [eV]
     rfl
    ·simp (disch := (try simp only [sP]); omega) only [eV, he21]
  ·intro hlt a1 hf1 he1
   rw [if_neg hlt] at hb
   simp only [if_neg hlt] at k
   have hva : a1.eval (.tmp v) = a.eval (.tmp v) := he1 v (by omega)
   have h11 : a1.eval (.tmp 1) = a.eval (.tmp 1) := he1 1 (by omega)
   refine w_flex (n := n) (L := L) (t := t + 8 + x.nt 3) (bs := fun fx => wrNStr fx o) (hs.up (Nat.le_refl _) (by omega) (by omega)) hv hv1 (by rw [hf1.size]; omega) (hst.fr hs hf1 h11) hva (fun hfx => H.cnstr (hF2 fx hs.no hfx) _ o _ _ hp) (fun _ => H.nstr hG2 _ o _ _ hp) hb ?_
   exact fun a4 w4 hf4 hst4 => vN (k a4 w4 (hf1.trans (hf4.mono (KW.mono (by omega) (by omega)))) hst4)
 | _ => exact absurd hr (by simp [Ty.Rep])
theorem wok_bytes (H : EnvW P E sb.T) : (Ty.bytes).WOk P E W0 sb := by
 intro x ver fx L v n t b B a w xs cs d Q hok hs hv hv1 hn ht hst hh hr hb k
 simp only [Ty.okW, Bool.and_eq_true] at hok
 obtain ⟨hG, hF⟩ := Cx.ok_inv hok.1
 have hh' : cs = [a.eval (.tmp v)] := by simpa [Ty.Holds, Ty.tp, Ty.arr] using hh
 subst hh'
 cases d with
 | bytes o =>
  have hr' : (Ty.nbytes).Rep W0 sb B [a.eval (.tmp v)] (.bytes o) := by cases o <;> simpa [Ty.Rep] using hr
  have hp : OctAt w W0.heap.size (a.eval (.tmp v)) o := oct_of_rep hst.below hr'
  simp only [Ty.wr] at hb k
  simp only [Ty.wc]
  exact w_flex (bs := fun fx => wrBytes fx (o.getD [])) hs hv hv1 ht hst rfl (fun hfx => H.cocts (hF fx hs.no hfx) _ o _ _ hp) (fun _ => H.octs hG _ o _ _ hp) hb k
 | _ => exact absurd hr (by simp [Ty.Rep])
theorem wok_nbytes (H : EnvW P E sb.T) : (Ty.nbytes).WOk P E W0 sb := by
 intro x ver fx L v n t b B a w xs cs d Q hok hs hv hv1 hn ht hst hh hr hb k
 simp only [Ty.okW, Bool.and_eq_true] at hok
 obtain ⟨hG, hF⟩ := Cx.ok_inv hok.1
 have hh' : cs = [a.eval (.tmp v)] := by simpa [Ty.Holds, Ty.tp, Ty.arr] using hh
 subst hh'
 cases d with
 | bytes o =>
  have hp : OctAt w W0.heap.size (a.eval (.tmp v)) o := oct_of_rep hst.below hr
  simp only [Ty.wr] at hb k
  simp only [Ty.wc]
  exact w_flex (bs := fun fx => wrNBytes fx o) hs hv hv1 ht hst rfl (fun hfx => H.cnocts (hF fx hs.no hfx) _ o _ _ hp) (fun _ => H.nocts hG _ o _ _ hp) hb k
 | _ => exact absurd hr (by simp [Ty.Rep])
end
end Go.Km
namespace Go.Km
open Go Go.RowKit
attribute [local irreducible] vc rO_ runG
theorem uvF_pos (f n : Nat) : 1 ≤ (uvF f n).length := by
 cases f with
 | zero => simp [uvF]
 | succ f => simp only [uvF]; split <;> simp
theorem uvar_pos (n : Nat) : 1 ≤ (uvar n).length := uvF_pos 9 n
theorem tags_short (tags : List (Nat × List UInt8)) : tags.length ≤ ((tags.map wrTag).flatten).length := by
 induction tags with
 | nil => simp
 | cons x l ih =>
  have := uvar_pos x.1
  simp only [List.map_cons, List.flatten_cons, List.length_cons, List.length_append, wrTag]
  omega
section
variable {P : Program} {E : Env} {W0 : World} {sb : Sb}
structure EnvI (P : Program) (E : Env) : Prop where
 int : intT P E.tI = some .i64
 u32 : intT P E.tW = some .u32
theorem ownsRow_grow {w w' : World} {B e s : Nat} {v : Value} {n : Nat} {xs : List Value} (h : w.ownsRow B e s v n xs) (hg : Grow w w') : w'.ownsRow B e s v n xs := by
 refine ⟨h.1, ?_⟩
 rcases h.2 with hn | ⟨g, cap, cur, hv, hb, hh, r⟩
 ·exact .inl hn
 ·refine .inr ⟨g, cap, cur, hv, hb, ?_, r⟩
  rw [hg.blockEq (Array.getElem?_eq_some_iff.1 hh).1 (fun _ h => h)]
  exact hh
theorem OctRep.mono {w : World} {B B' : Nat} {v : Value} {l : List UInt8} (h : OctRep w sb B v l) (hB : B' ≤ B) : OctRep w sb B' v l := by
 rcases h with h | ⟨c, o, cap, hv, hc, h⟩
 ·exact .inl h
 ·exact .inr ⟨c, o, cap, hv, hc.imp id (fun h => by omega), h⟩
theorem TagsRep.mono {w : World} {B B' : Nat} {v : Value} {tags : List (Nat × List UInt8)} (h : TagsRep w sb B v tags) (hB : B' ≤ B) : TagsRep w sb B' v tags := by
 obtain ⟨h1, h0, h2⟩ := h
 refine ⟨h1, h0, ?_⟩
 rcases h2 with h2 | ⟨q, es, clock, hv, hq, hs, hm, hb, hn, l, hl, hsz, he⟩
 ·exact .inl h2
 ·refine .inr ⟨q, es, clock, hv, by omega, hs, hm, hb, hn, l, hl, hsz, fun i x hx => ?_⟩
  obtain ⟨e, h1, h2, h3⟩ := he i x hx
  exact ⟨e, h1, h2, h3.mono hB⟩
section
variable {Q : Exit → Act → World → Prop} {a : Act} {w : World} {K : Nat → Prop}
theorem m_tagsA {TP TU : TypeId} {s f t pb po off : Nat} {dv : Value} {n : Nat} {S1 : World → Prop} {S : Value → World → Prop} (HI : EnvI P E) (hd : a.eval (.tmp 1) = dv) (hp : a.eval (.tmp s) = .pointer (some ⟨pb, po, none⟩)) (hoff : fieldOff P TU f = some off)
  (hlen : CallsV P E.tLen #[.pointer (some ⟨pb, po + off, none⟩)] w fun r w' => r = .int .i64 (n : Int) ∧ S1 w') (hn : n < 4294967296)
  (happ : ∀ w1, S1 w1 → CallsV P E.wUvarint #[dv, .int .u32 (n : Int)] w1 S) (ht : ∀ d, t ≤ d → ¬ K d) (hk1 : ¬ K 1) (h1 : 1 < t) (hst : s < t) (hsz : t + 9 ≤ a.tmps.size)
  (k : ∀ a' v' w', Fr K a a' → a'.eval (.tmp 1) = v' → S v' w' → Q .normal a' w') :
  vc P (rg [oMove (t + 1) (.tmp 1) E.tB, oMove (t + 2) (.tmp s) TP, oNil (t + 3) (.tmp (t + 2)), oField (t + 4) TU (.tmp (t + 3)) f, oCall (some (t + 5)) E.tLen #[.tmp (t + 4)] #[E.tTags] E.tI,
    oConv (t + 6) E.tI E.tW (.tmp (t + 5)), oBin (t + 7) .add E.tW (.const (.int .u32 0)) (.tmp (t + 6)) E.tW E.tW,
    oCall (some (t + 8)) E.wUvarint #[.tmp (t + 1), .tmp (t + 7)] #[E.tB, E.tW] E.tB, oAssign 1 (.tmp (t + 8)) E.tB]) Q a w := by
 have hwr : IntKind.u32.wrap (n : Int) = (n : Int) := IntWalk.u32_in _ ⟨by omega, by omega⟩
 refine vR (by simp) ?_
 refine rM (rM ?_)
 refine r_nil (ad := ⟨pb, po, none⟩) (by simp (disch := (try simp only [sP]); omega) only [eV, hp]) ?_
 refine rF (b := pb) (o := po) (by simp (disch := (try simp only [sP]); omega) only [eV]) hoff ?_
 refine r_call' (args := #[.pointer (some ⟨pb, po + off, none⟩)]) ?_ hlen ?_
 ·simp only [lM]
  simp (disch := (try simp only [sP]); omega) only [eV]
 rintro r w1 ⟨rfl, hs1⟩
 refine r_conv (k := .i64) (k' := .u32) (m := n) HI.int HI.u32 (by simp (disch := (try simp only [sP]); omega) only [eV]) ?_
 rw [hwr]
 refine r_add (k := .u32) (m := 0) (n := n) rfl (by simp (disch := (try simp only [sP]); omega) only [eV]) ?_
 rw [Int.zero_add, hwr]
 refine r_call' (args := #[dv, .int .u32 (n : Int)]) ?_ (happ w1 hs1) ?_
 ·simp only [lM]
  simp (disch := (try simp only [sP]); omega) only [eV, hd]
 intro v' w2 hs2
 refine rA (dn ?_)
 refine k _ v' w2 ?_ (by simp (disch := (try simp only [sP]); omega) only [eV]) hs2
 exact (((((((((Fr.refl K a).put _ (ht _ (by omega))).put _ (ht _ (by omega))).put _ (ht _ (by omega))).put _ (ht _ (by omega))).put _ (ht _ (by omega))).put _ (ht _ (by omega))).put _ (ht _ (by omega))).put _ (ht _ (by omega))).put _ hk1
theorem m_tagsB {TP TU : TypeId} {s f t pb po off : Nat} {dv : Value} {S : Value → World → Prop} (hd : a.eval (.tmp 1) = dv) (hp : a.eval (.tmp s) = .pointer (some ⟨pb, po, none⟩)) (hoff : fieldOff P TU f = some off)
  (hc : CallsV P E.tEach #[.pointer (some ⟨pb, po + off, none⟩), dv] w S) (ht : ∀ d, t ≤ d → ¬ K d) (hk1 : ¬ K 1) (h1 : 1 < t) (hst : s < t) (hsz : t + 14 ≤ a.tmps.size)
  (k : ∀ a' v' w', Fr K a a' → a'.eval (.tmp 1) = v' → S v' w' → Q .normal a' w') :
  vc P (rg [oMove (t + 9) (.tmp s) TP, oNil (t + 10) (.tmp (t + 9)), oField (t + 11) TU (.tmp (t + 10)) f, oMove (t + 12) (.tmp 1) E.tB,
    oCall (some (t + 13)) E.tEach #[.tmp (t + 11), .tmp (t + 12)] #[E.tTags, E.tB] E.tB, oAssign 1 (.tmp (t + 13)) E.tB]) Q a w := by
 refine vR (by simp) ?_
 refine rM ?_
 refine r_nil (ad := ⟨pb, po, none⟩) (by simp (disch := (try simp only [sP]); omega) only [eV, hp]) ?_
 refine rF (b := pb) (o := po) (by simp (disch := (try simp only [sP]); omega) only [eV]) hoff ?_
 refine rM ?_
 refine r_call' (args := #[.pointer (some ⟨pb, po + off, none⟩), dv]) ?_ hc ?_
 ·simp only [lM]
  simp (disch := (try simp only [sP]); omega) only [eV, hd]
 intro v' w2 hs2
 refine rA (dn ?_)
 refine k _ v' w2 ?_ (by simp (disch := (try simp only [sP]); omega) only [eV]) hs2
 exact ((((((Fr.refl K a).put _ (ht _ (by omega))).put _ (ht _ (by omega))).put _ (ht _ (by omega))).put _ (ht _ (by omega))).put _ (ht _ (by omega))).put _ hk1
end
theorem wok_nil (H : EnvW P E sb.T) (HI : EnvI P E) (tg : Bool) : (Flds.nil tg).WOk P E W0 sb := by
 intro x ver fx L TP TU s idx off n t b B pb po a w xs cs ds tags Q hok hs hsn hs1 hn ht hst hp hc hr hb k
 have h1 := hs.one; have h2 := hs.nL; have h3 := hs.Lt
 simp only [Flds.wc, wTags]
 cases hx : x.fl with
 | none =>
  have hfx := hs.no hx
  subst hfx
  refine vN (k a w (Fr.refl _ _) ?_)
  simpa [Flds.wr] using hst
 | some f =>
  simp only [Flds.okW, hx, Option.isNone_some, Bool.false_or, Bool.and_eq_true, bne_iff_ne, ne_eq, beq_iff_eq] at hok
  obtain ⟨⟨⟨⟨rfl, hoff⟩, htl⟩, hte⟩, hu⟩ := hok
  simp only [Flds.wt, hx] at ht
  cases ds with
  | cons d ds => exact absurd hr (by simp [Flds.Rep])
  | nil =>
  simp only [Flds.Rep, if_true] at hr
  obtain ⟨v, rfl, htr0⟩ := hr
  have htr := htr0.mono (Nat.zero_le B)
  have hcv : W0.cell? ⟨pb, po + off, none⟩ = some v := by have := hc 0 v rfl; simpa using this
  have hfl := hst.fl f hx
  have hfn := hs.fl f hx
  refine vS (vX (rM (dn ?_)))
  have hf0 : Fr (KW L n t) a (a.put (some t) (a.eval (.tmp f))) := (Fr.refl _ a).put _ (hs.kt t (Nat.le_refl _))
  have hst0 := hst.fr hs hf0 (eval_put_ne _ _ _ _ (by omega))
  have hsz0 : (a.put (some t) (a.eval (.tmp f))).tmps.size = a.tmps.size := zP _ _ _
  refine vS (vC (t := fx) (by simp (disch := (try simp only [sP]); omega) only [eV, hfl]) ?_ ?_)
  ·intro hfx
   subst hfx
   simp only [Flds.wr, if_true] at hb k
   have htb := tags_short tags
   simp only [wrTags, List.length_append] at hb
   have hlt : tags.length < 4294967296 := by unfold big at hb; omega
   refine vS (m_tagsA (K := KW L n t) (n := tags.length) (S1 := Grow w) HI rfl (by rw [eval_put_ne _ _ _ _ (by omega)]; exact hp) hoff (H.tlen htl W0 sb pb (po + off) v tags _ rfl hcv htr hst.below) hlt
    (S := fun v' w' => w'.ownsRow W0.heap.size E.tU8 1 v' (xs ++ uvar tags.length).length ((xs ++ uvar tags.length).map bv) ∧ Below W0.heap.size w w') ?_ hs.kt hs.k1 (by omega) (by omega) (by omega) ?_)
   ·intro w1 hg
    refine (H.uvar hu tags.length W0.heap.size w1 hlt _ xs (ownsRow_grow hst0.own hg) (by have := hg.size; have := hst.size; omega) (by omega)).mono ?_
    rintro v' w' ⟨h1, h2⟩
    exact ⟨h1, (hg.below.mono hst.size).trans h2⟩
   intro a1 v1 w1 hf1 e1 hS1
   have hst1 := hst0.step hs hf1 e1 hS1
   refine vS (m_tagsB (K := KW L n t) rfl (by rw [hf1.slot s ⟨hs1, .inl hsn⟩, eval_put_ne _ _ _ _ (by omega)]; exact hp) hoff
    (H.teach hte W0 sb pb (po + off) v tags w1 rfl hcv htr hst1.below _ _ hst1.own (by simp only [List.length_append]; omega)) hs.kt hs.k1 (by omega) (by omega) (by rw [hf1.size]; omega) ?_)
   intro a2 v2 w2 hf2 e2 hS2
   have hst2 := hst1.step hs hf2 e2 hS2
   refine vN (vN (vN (k a2 w2 ((hf0.trans hf1).trans hf2) ?_)))
   simpa [wrTags] using hst2
  ·intro hfx
   subst hfx
   refine vK (vN (vN (k _ w hf0 ?_)))
   simpa [Flds.wr] using hst0
def KW1 (L n t : Nat) (k : Nat) : Prop := k < n ∨ (L ≤ k ∧ k < t)
theorem okW_one {x : Cx} {ty : Ty} (h : ty.okW P E x = true) (h1 : ty.tp = none) (h2 : ty.arr = false) : oneT P (ty.T E) = true ∧ ty.size = 1 := by
 cases ty <;> simp_all [Ty.okW, Ty.tp, Ty.arr, Ty.T, Ty.size]
theorem okW_arr {x : Cx} {ty : Ty} (h : ty.okW P E x = true) (h2 : ty.arr = true) : ty.tp = none ∧ aggT P (ty.T E) = some 16 ∧ zeroAgg P (ty.T E) 16 = true ∧ ty.size = 16 ∧
  ∀ cs B d, ty.Rep W0 sb B cs d → cs.length = 16 ∧ ∀ v ∈ cs, v.oneCell' = true := by
 cases ty <;> simp_all [Ty.okW, Ty.tp, Ty.arr, Ty.T, Ty.size]
 intro cs B d hr
 cases d with
 | bytes o =>
  cases o with
  | none => exact absurd hr (by simp [Ty.Rep])
  | some l =>
   simp only [Ty.Rep] at hr
   obtain ⟨hl, rfl⟩ := hr
   refine ⟨by simp [hl], ?_⟩
   intro v hv
   obtain ⟨b, _, rfl⟩ := List.mem_map.1 hv
   rfl
 | _ => exact absurd hr (by simp [Ty.Rep])
theorem Cells.take {w : World} {b o : Nat} {cs : List Value} (h : Cells w b o cs) (n : Nat) : Cells w b o (cs.take n) := fun i v hv => h i v (by
 rw [List.getElem?_take] at hv
 split at hv
 ·exact hv
 ·cases hv)
theorem Cells.drop {w : World} {b o : Nat} {cs : List Value} (h : Cells w b o cs) (n : Nat) : Cells w b (o + n) (cs.drop n) := fun i v hv => by
 rw [List.getElem?_drop] at hv
 have := h (n + i) v hv
 rwa [show o + n + i = o + (n + i) by omega]
set_option maxHeartbeats 1000000 in
theorem wok_cons (v : Ver) (ty : Ty) (r : Flds) (hty : ty.WOk P E W0 sb) (hr' : r.WOk P E W0 sb) (hrep : ∀ cs B d, ty.Rep W0 sb B cs d → ty.tp = none → ty.arr = false → ∃ u, cs = [u]) : (Flds.cons v ty r).WOk P E W0 sb := by
 intro x ver fx L TP TU s idx off n t b B pb po a w xs cs ds tags Q hok hs hsn hs1 hn ht hst hp hc hr hb k
 have h1 := hs.one; have h2 := hs.nL; have h3 := hs.Lt
 simp only [Flds.okW, Bool.and_eq_true, beq_iff_eq] at hok
 obtain ⟨⟨hoff, hokt⟩, hokr⟩ := hok
 cases ds with
 | nil => exact absurd hr (by simp [Flds.Rep])
 | cons d ds =>
 simp only [Flds.Rep] at hr
 obtain ⟨hrt, hrr⟩ := hr
 simp only [Flds.wn] at hn
 simp only [Flds.wt] at ht
 simp only [Flds.wr] at hb k
 simp only [Flds.wc]
 -- the rest
 have hrest : ∀ (part : List UInt8) a1 w1, part = (if v.has ver = true then ty.wr fx ver d else []) → Fr (KW L n t) a a1 → WSt P E W0 x ver fx a1 w1 (xs ++ part) →
   vc P (sq (r.wc E x TP TU s (idx + 1) (n + 1 + ty.wn) (t + v.nt + ty.h + ty.wt x) (b + ty.wb))) Q a1 w1 := by
  intro part a1 w1 hpart hf hst1
  refine hr' x ver fx L TP TU s (idx + 1) (off + ty.size) (n + 1 + ty.wn) _ (b + ty.wb) B pb po a1 w1 (xs ++ part) (cs.drop ty.size) ds tags Q hokr (hs.up (by omega) (by omega) (by omega)) (by omega) hs1 (by omega) (by rw [hf.size]; omega) hst1 (by rw [hf.slot s ⟨hs1, .inl hsn⟩]; exact hp) (by have := hc.drop ty.size; rwa [Nat.add_assoc] at this) hrr ?_ ?_
  ·rw [hpart]
   simp only [List.length_append] at hb ⊢
   omega
  ·intro a2 w2 hf2 hst2
   refine k a2 w2 (hf.trans (hf2.mono (KW.mono (by omega) (by omega)))) ?_
   rw [hpart] at hst2
   simpa [List.append_assoc] using hst2
 refine vS (m_ver (K := KW L n t) hst.ver (by have := hs.vs.1; omega) hs.kt (by omega) ?_ ?_)
 ·intro hhas a0 hf0 he0
  have hst0 := hst.fr hs hf0 (he0 1 (by omega))
  have hp0 : a0.eval (.tmp s) = .pointer (some ⟨pb, po, none⟩) := by rw [he0 s (by omega)]; exact hp
  have hsz0 := hf0.size
  have hpart : ty.wr fx ver d = (if v.has ver = true then ty.wr fx ver d else []) := by rw [if_pos hhas]
  have hbt : xs.length + (ty.wr fx ver d).length ≤ big := by
   rw [hhas] at hb
   simp only [if_true, List.length_append] at hb
   omega
  have hct : Cells W0 pb (po + off) (cs.take ty.size) := hc.take _
  have hpbW := hc
  cases htp : ty.tp with
  | some TP' =>
   have hh : ty.h = 3 := by simp [Ty.h, htp]
   simp only [hh] at ht hrest ⊢
   refine vX (rM ?_)
   refine r_nil (ad := ⟨pb, po, none⟩) (by simp (disch := (try simp only [sP]); omega) only [eV, hp0]) ?_
   refine rF (b := pb) (o := po) (by simp (disch := (try simp only [sP]); omega) only [eV]) hoff ?_
   refine rA (dn ?_)
   generalize hA : (((a0.put (some (t + v.nt)) (a0.eval (.tmp s))).put (some (t + v.nt + 1)) (.pointer (some ⟨pb, po, none⟩))).put (some (t + v.nt + 2)) (.pointer (some ⟨pb, po + off, none⟩))) = A
   have hAe : A.eval (.tmp (t + v.nt + 2)) = .pointer (some ⟨pb, po + off, none⟩) := by rw [← hA]; simp (disch := (try simp only [sP]); omega) only [eV]
   have hA1 : ∀ k, k < t → A.eval (.tmp k) = a0.eval (.tmp k) := by intro k hk; rw [← hA]; simp (disch := (try simp only [sP]); omega) only [eV]
   have hAs : A.tmps.size = a0.tmps.size := by rw [← hA]; simp only [zP]
   have hAf : Fr (KW L n t) a0 A := by
    rw [← hA]
    exact (((Fr.refl _ _).put _ (hs.kt _ (by omega))).put _ (hs.kt _ (by omega))).put _ (hs.kt _ (by omega))
   have hf1 : Fr (KW L n t) a (A.put (some n) (A.eval (.tmp (t + v.nt + 2)))) := (hf0.trans hAf).put _ (by rintro ⟨_, h | h⟩ <;> omega)
   have hst1 := hst.fr hs hf1 (by rw [eval_put_ne _ _ _ _ (by omega), hA1 1 (by omega), he0 1 (by omega)])
   refine hty x ver fx L n (n + 1) (t + v.nt + 3) b B _ w xs (cs.take ty.size) d _ hokt (hs.up (by omega) (by omega) (by omega)) (by omega) (by omega) (by omega) (by rw [hf1.size]; omega) hst1 ?_ hrt hbt ?_
   ·simp only [Ty.Holds, htp]
    exact ⟨pb, po + off, by rw [eval_put_same _ _ _ (by rw [hAs, hsz0]; omega), hAe], hct⟩
   ·intro a2 w2 hf2 hst2
    exact hrest _ a2 w2 hpart (hf1.trans (hf2.mono (KW.mono (by omega) (by omega)))) hst2
  | none =>
   have hh : ty.h = 4 := by simp [Ty.h, htp]
   simp only [hh] at ht hrest ⊢
   cases harr : ty.arr with
   | true =>
    simp only [if_true]
    obtain ⟨_, hagg, hz, hsz16, hcell⟩ := okW_arr (W0 := W0) (sb := sb) hokt harr
    obtain ⟨z, hz, hzl⟩ := zeroAgg_inv hz
    obtain ⟨hl16, h1c⟩ := hcell _ _ _ hrt
    have hw : Cells w pb (po + off) (cs.take ty.size) := by
     have : pb < W0.heap.size := by
      have h0 := hct.get (i := 0) (by omega)
      exact lt_of_cell h0
     exact hct.below hst.below this
    refine vS (m_loadArr (K := KW1 L n t) (z := z) (cs := cs.take ty.size) hp0 hoff (by rw [hl16]; exact hagg) hz (by omega) h1c hw (by rintro (h | h) <;> omega) (fun d hd => by rintro (h | h) <;> omega) (by omega) (by rw [hsz0]; omega) ?_)
    intro a1 w1 q hf1' hq hqs hqc hg
    have hf1 : Fr (KW L n t) a0 a1 := hf1'.mono (fun k hk => hk.2)
    have hbw1 : Below W0.heap.size w w1 := hg.below.mono hst.size
    have hst1 : WSt P E W0 x ver fx a1 w1 xs := by
     have h1' : a1.eval (.tmp 1) = a0.eval (.tmp 1) := hf1'.slot 1 (.inl (by omega))
     exact ⟨hst.below.trans hbw1, by rw [h1']; exact ownsRow_grow hst0.own hg, by rw [hf1.slot _ ⟨hs.vs.2, .inl hs.vs.1⟩]; exact hst0.ver, fun f hh => by rw [hf1.slot _ ⟨(hs.fl f hh).2, .inl (hs.fl f hh).1⟩]; exact hst0.fl f hh⟩
    refine hty x ver fx L n (n + 1) (t + v.nt + 4) b B a1 w1 xs (cs.take ty.size) d _ hokt (hs.up (by omega) (by omega) (by omega)) (by omega) (by omega) (by omega) (by rw [hf1.size, hsz0]; omega) hst1 ?_ hrt hbt ?_
    ·simp only [Ty.Holds, htp, harr, if_true]
     exact ⟨q, hq, hqc⟩
    ·intro a2 w2 hf2 hst2
     exact hrest _ a2 w2 hpart ((hf0.trans hf1).trans (hf2.mono (KW.mono (by omega) (by omega)))) hst2
   | false =>
    simp only [Bool.false_eq_true, if_false]
    obtain ⟨hone, hsz1⟩ := okW_one hokt htp harr
    obtain ⟨u, hu⟩ := hrep _ _ _ hrt htp harr
    have hcu : W0.cell? ⟨pb, po + off, none⟩ = some u := by have := hct 0 u (by rw [hu]; rfl); simpa using this
    have hcw : w.cell? ⟨pb, po + off, none⟩ = some u := by rw [hst.below.cell (p := ⟨pb, po + off, none⟩) (lt_of_cell hcu)]; exact hcu
    refine vS (m_load (K := KW1 L n t) hp0 hoff hone hcw (by rintro (h | h) <;> omega) (fun d hd => by rintro (h | h) <;> omega) (by omega) (by rw [hsz0]; omega) ?_)
    intro a1 hf1' he1
    have hf1 : Fr (KW L n t) a0 a1 := hf1'.mono (fun k hk => hk.2)
    have hst1 : WSt P E W0 x ver fx a1 w xs := by
     have h1' : a1.eval (.tmp 1) = a0.eval (.tmp 1) := hf1'.slot 1 (.inl (by omega))
     exact hst0.fr hs hf1 h1'
    refine hty x ver fx L n (n + 1) (t + v.nt + 4) b B a1 w xs (cs.take ty.size) d _ hokt (hs.up (by omega) (by omega) (by omega)) (by omega) (by omega) (by omega) (by rw [hf1.size, hsz0]; omega) hst1 ?_ hrt hbt ?_
    ·simp only [Ty.Holds, htp, harr, Bool.false_eq_true, if_false]
     rw [hu, he1]
    ·intro a2 w2 hf2 hst2
     exact hrest _ a2 w2 hpart ((hf0.trans hf1).trans (hf2.mono (KW.mono (by omega) (by omega)))) hst2
 ·intro hhas a0 hf0 he0
  refine hrest [] a0 w (by rw [hhas]; simp) hf0 ?_
  rw [List.append_nil]
  exact hst.fr hs hf0 (he0 1 (by omega))
end
end Go.Km
namespace Go.Km
open Go Go.RowKit
attribute [local irreducible] vc rO_ runG
section
variable {P : Program} {E : Env} {W0 : World} {sb : Sb}
theorem wok_struct (TP TU : TypeId) (FD : FuncId) (fs : Flds) (h : fs.WOk P E W0 sb) : (Ty.struct TP TU FD fs).WOk P E W0 sb := by
 intro x ver fx L v n t b B a w xs cs d Q hok hs hv hv1 hn ht hst hh hr hb k
 cases d with
 | obj ds tags =>
  simp only [Ty.Rep] at hr
  simp only [Ty.Holds, Ty.tp] at hh
  obtain ⟨pb, po, hp, hc⟩ := hh
  simp only [Ty.wr] at hb k
  simp only [Ty.wc]
  exact h x ver fx L TP TU v 0 0 n t b B pb po a w xs cs ds tags Q hok hs hv hv1 hn ht hst hp (by simpa using hc) hr hb k
 | _ => exact absurd hr (by simp [Ty.Rep])
theorem w_lit {x : Cx} {ver : Nat} {fx : Bool} {L n t : Nat} {a : Act} {w : World} {xs : List UInt8} {z : UInt8} {c : Int} {Q : Exit → Act → World → Prop} (hB : rowB P E.tB E.tU8 1 = true) (hc : Value.int .u8 c = bv z)
  (hs : WSl x L n t fx) (hsz : t + 3 ≤ a.tmps.size) (hst : WSt P E W0 x ver fx a w xs) (hb : xs.length + 1 ≤ big)
  (k : ∀ a' w', Fr (KW L n t) a a' → WSt P E W0 x ver fx a' w' (xs ++ [z]) → Q .normal a' w') :
  vc P (rg [oMove t (.tmp 1) E.tB, oBuildSlice (t + 1) E.tB 1 #[(0, .const (.int .u8 c))], oBuiltin (t + 2) .append #[.tmp t, .tmp (t + 1)] #[E.tB, E.tB] E.tB, oAssign 1 (.tmp (t + 2)) E.tB]) Q a w := by
 have h1 := hs.one; have h2 := hs.nL; have h3 := hs.Lt
 have hsize := hst.size
 refine vR (by simp) ?_
 refine rM ?_
 refine r_buildSlice (s := 1) (vs := [bv z]) hB (by simp [eval_const, hc]) rfl (by intro v hv; simp only [List.mem_singleton] at hv; subst hv; rfl) (by omega) (by omega) ?_
 refine r_append (sz := 1) (m := 1) (U := W0.heap.size) (v := a.eval (.tmp 1)) (n := xs.length) (xs := xs.map bv) (u := .slice (some ⟨w.heap.size, 0, none⟩) 1 1) (news := [bv z]) hB (by simp (disch := (try simp only [sP]); omega) only [eV]) (by simp (disch := (try simp only [sP]); omega) only [eV]) (hst.own.alloc _) (by simp; omega) ?_ hb ?_
 ·refine src_cells (rB hB) ?_ rfl (bv_one [z])
  intro j u hu
  rw [Nat.zero_add]
  exact cells_new w _ E.tU8 (by simpa [bv, Value.cells] using hu)
 intro v' w' hown hbel
 refine rA (dn ?_)
 have hf : ∀ v1 v2 v3 v4, Fr (KW L n t) a ((((a.put (some t) v1).put (some (t + 1)) v2).put (some (t + 2)) v3).put (some 1) v4) := fun v1 v2 v3 v4 =>
  ((((Fr.refl _ a).put _ (hs.kt t (Nat.le_refl _))).put _ (hs.kt _ (by omega))).put _ (hs.kt _ (by omega))).put _ hs.k1
 refine k _ w' (hf _ _ _ _) (hst.step hs (hf _ _ _ _) (v' := v') (by simp (disch := (try simp only [sP]); omega) only [eV]) ⟨?_, ?_⟩)
 ·rw [List.map_append, List.length_append]
  exact hown
 ·exact ((Below.refl W0.heap.size w).alloc hsize _).trans hbel
theorem r_eqNilPW {d T x ty p af g ad} {e : TypeId} {a : Act} {w : World} {r : List Oper} {Q : Exit → Act → World → Prop} (hT : P.underlying T = some (.pointer e)) (hx : a.eval x = .pointer ad) (h : rO_ P Q r (a.put (some d) (.bool ad.isNone)) w) :
  rO_ P Q (⟨some d, .binOp .eql T x (.const (.pointer none)) T, ty, p, af, g⟩ :: r) a w := by
 refine st ?_
 have hb : (binOp .eql T (.pointer ad) (.pointer none)).run P w = .ok (.bool ad.isNone) w := by
  have h0 : ∀ k : Nat, (Op.equalIn (k + 1) T (.pointer ad) (.pointer none)).run P w = .ok ad.isNone w := fun k => by
   cases ad <;> simp [Op.equalIn, run_underlying hT]
  simp only [binOp]
  simp [Op.equal, Op.maxDepth, h0 9999]
 have hg : (eqGuard .eql T x (.const (.pointer none)) (.pointer ad) (.pointer none)) = pure () := by cases ad <;> rfl
 simp only [Oper.wp, execOp, hx, eval_const, hg, hb, Sem.run_bind, Sem.run_pure, Result.andThen_ok, Oper.upon_value]
 exact h
theorem wok_nstruct (TP TU : TypeId) (FD : FuncId) (fs : Flds) (PP : TypeId) (h : fs.WOk P E W0 sb) : (Ty.nstruct TP TU FD fs PP).WOk P E W0 sb := by
 intro x ver fx L v n t b B a w xs cs d Q hok hs hv hv1 hn ht hst hh hr hb k
 simp only [Ty.okW, Bool.and_eq_true] at hok
 obtain ⟨⟨⟨hB, hT⟩, _⟩, hF⟩ := hok
 obtain ⟨te, hT⟩ := ptrB_inv hT
 have h1 := hs.one; have h2 := hs.nL; have h3 := hs.Lt
 simp only [Ty.wn] at hn
 simp only [Ty.wt] at ht
 have hh' : cs = [a.eval (.tmp v)] := by simpa [Ty.Holds, Ty.tp, Ty.arr] using hh
 subst hh'
 simp only [Ty.wc]
 have hf2 : ∀ u v2, Fr (KW L n t) a ((a.put (some t) u).put (some (t + 1)) v2) := fun u v2 => ((Fr.refl _ a).put _ (hs.kt t (Nat.le_refl _))).put _ (hs.kt _ (by omega))
 cases d with
 | list o =>
  rcases o with _ | l
  ·have hpv : a.eval (.tmp v) = .pointer none := by simpa [Ty.Rep] using hr
   simp only [Ty.wr] at hb k
   refine vS (vX (rM ?_))
   refine r_eqNilPW (ad := none) hT (by simp (disch := (try simp only [sP]); omega) only [eV, hpv]) ?_
   refine dn ?_
   refine vS (vC (t := true) (by simp (disch := (try simp only [sP]); omega) only [eV, Option.isNone]) (fun _ => ?_) (fun h => by cases h))
   refine w_lit (z := 255) (n := n) (L := L) (t := t + 2) hB rfl (hs.up (Nat.le_refl _) hs.nL (by omega)) (by rw [(hf2 _ _).size]; omega) (hst.fr hs (hf2 _ _) (by simp (disch := (try simp only [sP]); omega) only [eV])) (by simpa using hb) ?_
   exact fun a' w' hf hst' => vN (vN (k a' w' ((hf2 _ _).trans (hf.mono (KW.mono (Nat.le_refl _) (by omega)))) hst'))
  ·rcases l with _ | ⟨d0, _ | ⟨d1, r⟩⟩
   ·exact absurd hr (by simp [Ty.Rep])
   ·cases d0 with
    | obj ds tags =>
     simp only [Ty.Rep] at hr
     obtain ⟨q, c, hcv, hBq, hq, hcl, hcc, hrep⟩ := hr
     have hpv : a.eval (.tmp v) = .pointer (some ⟨q, 0, none⟩) := by simpa using hcv
     simp only [Ty.wr, List.length_cons] at hb k
     refine vS (vX (rM ?_))
     refine r_eqNilPW (ad := some ⟨q, 0, none⟩) hT (by simp (disch := (try simp only [sP]); omega) only [eV, hpv]) ?_
     refine dn ?_
     refine vS (vC (t := false) (by simp (disch := (try simp only [sP]); omega) only [eV, Option.isNone]) (fun h => by cases h) (fun _ => ?_))
     refine vS (w_lit (z := 1) (n := n) (L := L) (t := t + 5) hB rfl (hs.up (Nat.le_refl _) hs.nL (by omega)) (by rw [(hf2 _ _).size]; omega) (hst.fr hs (hf2 _ _) (by simp (disch := (try simp only [sP]); omega) only [eV])) (by omega) ?_)
     intro a' w' hf hst'
     have hf' : Fr (KW L n t) a a' := (hf2 _ _).trans (hf.mono (KW.mono (Nat.le_refl _) (by omega)))
     refine h x ver fx L TP TU v 0 0 n (t + 8) b (q + 1) q 0 a' w' (xs ++ [1]) c ds tags _ hF (hs.up (Nat.le_refl _) hs.nL (by omega)) hv hv1 hn (by rw [hf'.size]; omega) hst' (by rw [hf'.slot v ⟨hv1, .inl hv⟩]; exact hpv) hcc hrep (by simp only [List.length_append, List.length_cons, List.length_nil]; omega) ?_
     intro a2 w2 hf3 hst2
     refine vN (vN (k a2 w2 (hf'.trans (hf3.mono (KW.mono (Nat.le_refl _) (by omega)))) ?_))
     rw [List.append_assoc] at hst2
     exact hst2
    | _ => exact absurd hr (by simp [Ty.Rep])
   ·exact absurd hr (by cases d0 <;> simp [Ty.Rep])
 | _ => exact absurd hr (by simp [Ty.Rep])
def listHead (null : Bool) (fx : Bool) (o : Option (List D)) : List UInt8 := if null && o.isNone then wrNull fx else wrLen fx (o.getD []).length
theorem wr_list (fx : Bool) (ver : Nat) (TS : TypeId) (null : Option Nat) (e : Ty) (o : Option (List D)) :
  (Ty.list TS null e).wr fx ver (.list o) = listHead null.isSome fx o ++ ((o.getD []).map fun d => e.wr fx ver d).flatten := by
 cases o with
 | none => cases null <;> simp [Ty.wr, listHead]
 | some l => simp [Ty.wr, listHead]
theorem w_lens (H : EnvW P E sb.T) {x : Cx} {ver : Nat} {fx : Bool} {TS e : TypeId} {sz L v n t len cap : Nat} {ad : Option Addr} {a : Act} {w : World} {xs : List UInt8} {o : Option (List D)} {null : Bool} {Q : Exit → Act → World → Prop}
  (hok : (if null then x.ok E.wCNLen E.wNLen else x.ok E.wCLen E.wLen) = true) (hT : sliceT P TS = some (e, sz))
  (hs : WSl x L n t fx) (hv : v < n) (hv1 : v ≠ 1) (hsz : t + x.nt (if null then 6 else 4) ≤ a.tmps.size) (hst : WSt P E W0 x ver fx a w xs) (ha : a.eval (.tmp v) = .slice ad len cap)
  (hlen : len = (o.getD []).length) (had : ad.isNone = o.isNone) (hbig : len ≤ big) (hb : xs.length + (listHead null fx o).length ≤ big)
  (k : ∀ a' w', Fr (KW L n t) a a' → WSt P E W0 x ver fx a' w' (xs ++ listHead null fx o) → Q .normal a' w') :
  vc P (if null = true then wFlex E x t 6 (wNLens E E.wCNLen TS v) (wNLens E E.wNLen TS v) else wFlex E x t 4 (wLens E E.wCLen TS v) (wLens E E.wLen TS v)) Q a w := by
 have h1 := hs.one; have h2 := hs.nL; have h3 := hs.Lt
 cases null with
 | true =>
  simp only [if_true] at hok hsz ⊢
  obtain ⟨hG, hF⟩ := Cx.ok_inv hok
  have hd : ∀ f, listHead true f o = if ad.isNone = true then wrNull f else wrLen f len := by
   intro f
   rw [had, hlen]
   cases o <;> simp [listHead]
  rw [hd] at hb
  refine m_flex (K := KW L n t) (fx := fx) (fun f hf => ⟨hst.fl f hf, by have := (hs.fl f hf).1; omega⟩) hs.no hs.kt (by omega) hsz ?_ ?_
  ·intro hfx a' t' hf ht' hsz' he
   subst hfx
   have hs' := hs.up (Nat.le_refl n) hs.nL ht'
   have hst' := hst.fr hs hf (he 1 (by omega))
   refine m_nlens (K := KW L n t') rfl (by rw [he v (by omega)]; exact ha) hT (H.cnlen (hF _ hs.no rfl) len ad.isNone _ _ hbig _ xs hst'.own hst'.size hb) hs'.kt hs'.k1 (by omega) (by omega) (by rw [hf.size]; exact hsz') ?_
   intro a2 v2 w2 hf2 e2 hS
   rw [← hd] at hS
   exact k a2 w2 (hf.trans (hf2.mono (KW.mono (Nat.le_refl _) ht'))) (hst'.step hs' hf2 e2 hS)
  ·intro hfx a' t' hf ht' hsz' he
   subst hfx
   have hs' := hs.up (Nat.le_refl n) hs.nL ht'
   have hst' := hst.fr hs hf (he 1 (by omega))
   refine m_nlens (K := KW L n t') rfl (by rw [he v (by omega)]; exact ha) hT (H.nlen hG len ad.isNone _ _ hbig _ xs hst'.own hst'.size hb) hs'.kt hs'.k1 (by omega) (by omega) (by rw [hf.size]; exact hsz') ?_
   intro a2 v2 w2 hf2 e2 hS
   rw [← hd] at hS
   exact k a2 w2 (hf.trans (hf2.mono (KW.mono (Nat.le_refl _) ht'))) (hst'.step hs' hf2 e2 hS)
 | false =>
  simp only [Bool.false_eq_true, if_false] at hok hsz ⊢
  obtain ⟨hG, hF⟩ := Cx.ok_inv hok
  have hd : ∀ f, listHead false f o = wrLen f len := by
   intro f
   rw [hlen]
   simp [listHead]
  rw [hd] at hb
  refine m_flex (K := KW L n t) (fx := fx) (fun f hf => ⟨hst.fl f hf, by have := (hs.fl f hf).1; omega⟩) hs.no hs.kt (by omega) hsz ?_ ?_
  ·intro hfx a' t' hf ht' hsz' he
   subst hfx
   have hs' := hs.up (Nat.le_refl n) hs.nL ht'
   have hst' := hst.fr hs hf (he 1 (by omega))
   refine m_lens (K := KW L n t') rfl (by rw [he v (by omega)]; exact ha) hT (H.clen (hF _ hs.no rfl) len _ _ hbig _ xs hst'.own hst'.size hb) hs'.kt hs'.k1 (by omega) (by omega) (by rw [hf.size]; exact hsz') ?_
   intro a2 v2 w2 hf2 e2 hS
   rw [← hd] at hS
   exact k a2 w2 (hf.trans (hf2.mono (KW.mono (Nat.le_refl _) ht'))) (hst'.step hs' hf2 e2 hS)
  ·intro hfx a' t' hf ht' hsz' he
   subst hfx
   have hs' := hs.up (Nat.le_refl n) hs.nL ht'
   have hst' := hst.fr hs hf (he 1 (by omega))
   refine m_lens (K := KW L n t') rfl (by rw [he v (by omega)]; exact ha) hT (H.len hG len _ _ hbig _ xs hst'.own hst'.size hb) hs'.kt hs'.k1 (by omega) (by omega) (by rw [hf.size]; exact hsz') ?_
   intro a2 v2 w2 hf2 e2 hS
   rw [← hd] at hS
   exact k a2 w2 (hf.trans (hf2.mono (KW.mono (Nat.le_refl _) ht'))) (hst'.step hs' hf2 e2 hS)
theorem flatten_take {α : Type} (l : List D) (f : D → List α) (i : Nat) (h : i < l.length) : ((l.take (i + 1)).map f).flatten = ((l.take i).map f).flatten ++ f l[i] := by
 rw [List.take_succ_eq_append_getElem h, List.map_append, List.flatten_append]
 simp
theorem flatten_take_le {α : Type} (l : List D) (f : D → List α) (i : Nat) : ((l.take i).map f).flatten.length ≤ ((l.map f).flatten).length := by
 have : l = l.take i ++ l.drop i := (List.take_append_drop i l).symm
 conv => rhs; rw [this]
 rw [List.map_append, List.flatten_append, List.length_append]
 omega
set_option maxHeartbeats 1000000 in
theorem wok_list (H : EnvW P E sb.T) (TS : TypeId) (null : Option Nat) (e : Ty) (he : e.WOk P E W0 sb) (hrep : ∀ cs B d, e.Rep W0 sb B cs d → e.tp = none → e.arr = false → ∃ u, cs = [u]) : (Ty.list TS null e).WOk P E W0 sb := by
 intro x ver fx L v n t b B a w xs cs d Q hok hs hv hv1 hn ht hst hh hr hb k
 have h1 := hs.one; have h2 := hs.nL; have h3 := hs.Lt
 simp only [Ty.okW, Bool.and_eq_true, Bool.not_eq_true'] at hok
 obtain ⟨⟨⟨⟨hfn, hTS⟩, hslice⟩, hearr⟩, hoke⟩ := hok
 obtain ⟨te, hT⟩ := sliceB_inv hslice
 have hh' : cs = [a.eval (.tmp v)] := by simpa [Ty.Holds, Ty.tp, Ty.arr] using hh
 subst hh'
 simp only [Ty.wn] at hn
 simp only [Ty.wt] at ht
 cases d with
 | list o =>
  rw [wr_list] at hb k
  -- what the slot holds
  obtain ⟨ad, cap, ha, had, hbig, hel⟩ : ∃ ad cap, a.eval (.tmp v) = .slice ad (o.getD []).length cap ∧ ad.isNone = o.isNone ∧ (o.getD []).length ≤ big ∧
    ∀ (i : Nat) (h : i < (o.getD []).length), ∃ q, ad = some ⟨q, 0, none⟩ ∧ q < W0.heap.size ∧ ∃ c : List Value, c.length = e.size ∧ Cells W0 q (i * e.size) c ∧ e.Rep W0 sb (q + 1) c (o.getD [])[i] := by
   cases o with
   | none =>
    simp only [Ty.Rep, List.cons.injEq, and_true] at hr
    exact ⟨none, 0, hr, rfl, Nat.zero_le _, fun i h => by simp at h⟩
   | some l =>
    simp only [Ty.Rep] at hr
    obtain ⟨q, cap, hv', hB, hq, hbg, hall⟩ := hr
    simp only [List.cons.injEq, and_true] at hv'
    refine ⟨some ⟨q, 0, none⟩, cap, hv', rfl, hbg, fun i h => ⟨q, rfl, hq, ?_⟩⟩
    exact hall i _ (List.getElem?_eq_getElem h)
  generalize hl : o.getD [] = l at *
  have hh0 : (listHead null.isSome fx o).length ≤ (listHead null.isSome fx o ++ (l.map fun d => e.wr fx ver d).flatten).length := by simp
  simp only [Ty.wc]
  generalize ht1 : t + x.nt (if null.isSome = true then 6 else 4) = t1 at *
  have htt1 : t ≤ t1 := by omega
  refine vS (w_lens H hfn hT hs hv hv1 (by rw [ht1]; omega) hst ha (by rw [hl]) had hbig (by omega) ?_)
  intro a1 w1 hf1 hst1
  have hav1 : a1.eval (.tmp v) = .slice ad l.length cap := by rw [hf1.slot v ⟨hv1, .inl hv⟩]; exact ha
  have hs1 : WSl x L n t1 fx := hs.up (Nat.le_refl _) hs.nL htt1
  -- the state at the head of round i
  let I : Nat → Act → World → Prop := fun i a' w' => Fr (KW L n t) a a' ∧ WSt P E W0 x ver fx a' w' (xs ++ listHead null.isSome fx o ++ ((l.take i).map fun d => e.wr fx ver d).flatten)
  have stab : ∀ i a' a2 w', I i a' w' → a2.tmps.size = a'.tmps.size → a2.defers = a'.defers → (∀ k, k < t1 → a2.eval (.tmp k) = a'.eval (.tmp k)) → I i a2 w' := by
   rintro i a' a2 w' ⟨hfr, hw⟩ hsz hdf hsl
   refine ⟨⟨hsz.trans hfr.size, hdf.trans hfr.defers, fun k hk => ?_⟩, ⟨hw.below, by rw [hsl 1 (by omega)]; exact hw.own, by rw [hsl x.vs (by have := hs.vs.1; omega)]; exact hw.ver, fun f hf => by rw [hsl f (by have := (hs.fl f hf).1; omega)]; exact hw.fl f hf⟩⟩
   rw [hsl k (by have := hk.2; omega)]
   exact hfr.slot k hk
  have hI0 : I 0 a1 w1 := ⟨hf1, by simpa using hst1⟩
  have hdone : ∀ a' w', I l.length a' w' → vc P (sq []) Q a' w' := by
   rintro a' w' ⟨hfr, hw⟩
   refine vN (k a' w' hfr ?_)
   rw [List.take_length] at hw
   simpa [List.append_assoc] using hw
  have hsize1 : a1.tmps.size = a.tmps.size := hf1.size
  refine vS ?_
  cases htp : e.tp with
  | some TP' =>
   have hh : e.h = 3 := by simp [Ty.h, htp]
   rw [hh] at ht
   refine m_wloop hav1 hT (by unfold big at hbig; omega) (by omega) (by omega) (by omega) I stab hI0 ?_ hdone
   intro i a2 w2 hi ⟨hfr2, hw2⟩ hcnt hsz2
   obtain ⟨q, rfl, hq, c, hcl, hcc, hrc⟩ := hel i hi
   have hav2 : a2.eval (.tmp v) = .slice (some ⟨q, 0, none⟩) l.length cap := by rw [hfr2.slot v ⟨hv1, .inl hv⟩]; exact ha
   refine vX (rM (rA (dn (vX (rM (rM ?_))))))
   refine r_index (j := i) (k := .i64) (b := q) (o := 0) (len := l.length) (cap := cap) hT (by simp (disch := (try simp only [sP]); omega) only [eV, hav2]) (by simp (disch := (try simp only [sP]); omega) only [eV, hcnt]) hi ?_
   refine rA (dn ?_)
   generalize hA : ((((((a2.put (some (t1 + 4)) (a2.eval (.tmp (t1 + 2)))).put (some n) ((a2.put (some (t1 + 4)) (a2.eval (.tmp (t1 + 2)))).eval (.tmp (t1 + 4))))).put (some (t1 + 5)) _).put (some (t1 + 6)) _).put (some (t1 + 7)) (.pointer (some ⟨q, 0 + i * e.size, none⟩))) = A
   have hA7 : A.eval (.tmp (t1 + 7)) = .pointer (some ⟨q, 0 + i * e.size, none⟩) := by rw [← hA]; simp (disch := (try simp only [sP]); omega) only [eV]
   have hAk : ∀ k, k ≠ n → k < t1 + 4 → A.eval (.tmp k) = a2.eval (.tmp k) := by intro k hk hkt; rw [← hA]; simp (disch := (try simp only [sP]); omega) only [eV]
   have hAs : A.tmps.size = a2.tmps.size := by rw [← hA]; simp only [zP]
   have hAd : A.defers = a2.defers := by rw [← hA]; simp only [dF]
   have hB1 : ∀ k, k ≠ n → k ≠ n + 1 → k < t1 + 4 → (A.put (some (n + 1)) (A.eval (.tmp (t1 + 7)))).eval (.tmp k) = a2.eval (.tmp k) := by
    intro k h h' h''
    rw [eval_put_ne _ _ _ _ (by omega)]
    exact hAk k h h''
   have hBf : Fr (KW L n t) a2 (A.put (some (n + 1)) (A.eval (.tmp (t1 + 7)))) := ⟨by rw [zP, hAs], by rw [dF, hAd], fun k hk => hB1 k (by have := hk.2; omega) (by have := hk.2; omega) (by have := hk.2; omega)⟩
   have hstB := hw2.fr hs hBf (hB1 1 (by omega) (by omega) (by omega))
   refine he x ver fx L (n + 1) (n + 2) (t1 + 8) (b + 2) (q + 1) _ w2 _ c l[i] _ hoke (hs.up (by omega) (by omega) (by omega)) (by omega) (by omega) (by omega) (by rw [hBf.size]; omega) hstB ?_ hrc ?_ ?_
   ·simp only [Ty.Holds, htp]
    refine ⟨q, 0 + i * e.size, ?_, by rw [Nat.zero_add]; exact hcc⟩
    rw [eval_put_same _ _ _ (by rw [hAs]; omega), hA7]
   ·have := flatten_take_le l (fun d => e.wr fx ver d) (i + 1)
    rw [flatten_take _ _ _ hi] at this
    simp only [List.length_append] at this hb ⊢
    omega
   ·intro a3 w3 hf3 hst3
    refine ⟨⟨(hfr2.trans hBf).trans (hf3.mono (KW.mono (by omega) (by omega))), ?_⟩, ?_, ?_, ?_⟩
    ·rw [flatten_take _ _ _ hi]
     simpa [List.append_assoc] using hst3
    ·rw [hf3.slot (t1 + 2) ⟨by omega, .inr ⟨by omega, by omega⟩⟩]; exact hB1 _ (by omega) (by omega) (by omega)
    ·rw [hf3.slot (t1 + 1) ⟨by omega, .inr ⟨by omega, by omega⟩⟩]; exact hB1 _ (by omega) (by omega) (by omega)
    ·rw [hf3.size, hBf.size]
  | none =>
   have hh : e.h = 4 := by simp [Ty.h, htp]
   rw [hh] at ht
   obtain ⟨hone, hsz1⟩ := okW_one hoke htp hearr
   refine m_wloop hav1 hT (by unfold big at hbig; omega) (by omega) (by omega) (by omega) I stab hI0 ?_ hdone
   intro i a2 w2 hi ⟨hfr2, hw2⟩ hcnt hsz2
   obtain ⟨q, rfl, hq, c, hcl, hcc, hrc⟩ := hel i hi
   have hav2 : a2.eval (.tmp v) = .slice (some ⟨q, 0, none⟩) l.length cap := by rw [hfr2.slot v ⟨hv1, .inl hv⟩]; exact ha
   obtain ⟨u, rfl⟩ := hrep _ _ _ hrc htp hearr
   have hcu : w2.cell? ⟨q, 0 + i * e.size, none⟩ = some u := by
    have := hcc 0 u rfl
    rw [Nat.add_zero] at this
    rw [Nat.zero_add, hw2.below.cell (p := ⟨q, i * e.size, none⟩) hq]
    exact this
   refine vX (rM (rA (dn (vX (rM (rM ?_))))))
   refine r_index (j := i) (k := .i64) (b := q) (o := 0) (len := l.length) (cap := cap) hT (by simp (disch := (try simp only [sP]); omega) only [eV, hav2]) (by simp (disch := (try simp only [sP]); omega) only [eV, hcnt]) hi ?_
   refine rL (b := q) (o := 0 + i * e.size) (by simp (disch := (try simp only [sP]); omega) only [eV]) hone hcu ?_
   refine rA (dn ?_)
   generalize hA : (((((((a2.put (some (t1 + 4)) (a2.eval (.tmp (t1 + 2)))).put (some n) ((a2.put (some (t1 + 4)) (a2.eval (.tmp (t1 + 2)))).eval (.tmp (t1 + 4))))).put (some (t1 + 5)) _).put (some (t1 + 6)) _).put (some (t1 + 7)) (.pointer (some ⟨q, 0 + i * e.size, none⟩))).put (some (t1 + 8)) u) = A
   have hA7 : A.eval (.tmp (t1 + 8)) = u := by rw [← hA]; simp (disch := (try simp only [sP]); omega) only [eV]
   have hAk : ∀ k, k ≠ n → k < t1 + 4 → A.eval (.tmp k) = a2.eval (.tmp k) := by intro k hk hkt; rw [← hA]; simp (disch := (try simp only [sP]); omega) only [eV]
   have hAs : A.tmps.size = a2.tmps.size := by rw [← hA]; simp only [zP]
   have hAd : A.defers = a2.defers := by rw [← hA]; simp only [dF]
   have hB1 : ∀ k, k ≠ n → k ≠ n + 1 → k < t1 + 4 → (A.put (some (n + 1)) (A.eval (.tmp (t1 + 8)))).eval (.tmp k) = a2.eval (.tmp k) := by
    intro k h h' h''
    rw [eval_put_ne _ _ _ _ (by omega)]
    exact hAk k h h''
   have hBf : Fr (KW L n t) a2 (A.put (some (n + 1)) (A.eval (.tmp (t1 + 8)))) := ⟨by rw [zP, hAs], by rw [dF, hAd], fun k hk => hB1 k (by have := hk.2; omega) (by have := hk.2; omega) (by have := hk.2; omega)⟩
   have hstB := hw2.fr hs hBf (hB1 1 (by omega) (by omega) (by omega))
   refine he x ver fx L (n + 1) (n + 2) (t1 + 9) (b + 2) (q + 1) _ w2 _ [u] l[i] _ hoke (hs.up (by omega) (by omega) (by omega)) (by omega) (by omega) (by omega) (by rw [hBf.size]; omega) hstB ?_ hrc ?_ ?_
   ·simp only [Ty.Holds, htp, hearr, Bool.false_eq_true, if_false]
    rw [eval_put_same _ _ _ (by rw [hAs]; omega), hA7]
   ·have := flatten_take_le l (fun d => e.wr fx ver d) (i + 1)
    rw [flatten_take _ _ _ hi] at this
    simp only [List.length_append] at this hb ⊢
    omega
   ·intro a3 w3 hf3 hst3
    refine ⟨⟨(hfr2.trans hBf).trans (hf3.mono (KW.mono (by omega) (by omega))), ?_⟩, ?_, ?_, ?_⟩
    ·rw [flatten_take _ _ _ hi]
     simpa [List.append_assoc] using hst3
    ·rw [hf3.slot (t1 + 2) ⟨by omega, .inr ⟨by omega, by omega⟩⟩]; exact hB1 _ (by omega) (by omega) (by omega)
    ·rw [hf3.slot (t1 + 1) ⟨by omega, .inr ⟨by omega, by omega⟩⟩]; exact hB1 _ (by omega) (by omega) (by omega)
    ·rw [hf3.size, hBf.size]
 | _ => exact absurd hr (by simp [Ty.Rep])
end
end Go.Km
namespace Go.Km
open Go Go.RowKit
attribute [local irreducible] vc rO_ runG
theorem rep_one {w : World} {sb : Sb} (ty : Ty) : ∀ cs B d, ty.Rep w sb B cs d → ty.tp = none → ty.arr = false → ∃ u, cs = [u] := by
 intro cs B d h ht ha
 cases ty <;> first | (cases d <;> simp_all [Ty.Rep, Ty.tp, Ty.arr]; done) | skip
 all_goals
  cases d with
  | bytes o => cases o <;> simp only [Ty.Rep, Ty.tp, Ty.arr, reduceCtorEq] at h ht ha <;> first | exact ⟨_, h⟩ | exact ⟨_, h.1⟩ | (obtain ⟨_, h, _⟩ := h; exact ⟨_, h⟩) | (obtain ⟨_, _, h, _⟩ := h; exact ⟨_, h⟩) | (obtain ⟨_, _, _, h, _⟩ := h; exact ⟨_, h⟩)
  | list o =>
   rcases o with _ | ⟨_ | ⟨d0, _ | ⟨d1, r⟩⟩⟩ <;> (try cases d0) <;> simp only [Ty.Rep, Ty.tp, Ty.arr, reduceCtorEq] at h ht ha <;> first | exact ⟨_, h⟩ | (obtain ⟨_, _, h, _⟩ := h; exact ⟨_, h⟩) | (obtain ⟨_, h, _⟩ := h; exact ⟨_, h⟩)
  | int m => simp [Ty.Rep, Ty.tp, Ty.arr] at h ht ha
  | obj l t => simp [Ty.Rep, Ty.tp, Ty.arr] at h ht ha
section
variable {P : Program} {E : Env} {W0 : World} {sb : Sb}
mutual
theorem wok_ty (H : EnvW P E sb.T) (HI : EnvI P E) : ∀ (ty : Ty), ty.WOk P E W0 sb
 | .scal s df => wok_scal H s df
 | .named s T df => wok_named H s T df
 | .uuid => wok_uuid H
 | .text => wok_text H
 | .ntext => wok_ntext H
 | .ntextFrom N => wok_ntextFrom H N
 | .bytes => wok_bytes H
 | .nbytes => wok_nbytes H
 | .list TS null e => wok_list H TS null e (wok_ty H HI e) (rep_one e)
 | .struct TP TU FD fs => wok_struct TP TU FD fs (wok_flds H HI fs)
 | .nstruct TP TU FD fs PP => wok_nstruct TP TU FD fs PP (wok_flds H HI fs)
theorem wok_flds (H : EnvW P E sb.T) (HI : EnvI P E) : ∀ (fs : Flds), fs.WOk P E W0 sb
 | .nil tg => wok_nil H HI tg
 | .cons v ty r => wok_cons v ty r (wok_ty H HI ty) (wok_flds H HI r) (rep_one ty)
end
def Msg.wtop (m : Msg) : Nat := m.wlocals + (match m.flex with | none => 5 | some _ => 8) + m.wfs.wt m.wx + 1
def Msg.isFlex (m : Msg) (ver : Nat) : Bool := match m.flex with | none => false | some f => decide (f ≤ ver)
def Msg.okW (P : Program) (E : Env) (m : Msg) : Bool :=
 oneT P E.tI16 && fieldOff P m.TU 0 == some 0 && m.wfs.okW P E m.wx m.TU m.wi m.wi
theorem rO {P : Program} {w : World} {a : Act} {t : Nat} {v : Value} (h : a.eval (.tmp t) = v) : (results { (default : Func) with results := #[.tmp t] } a.tmps).run P w = .ok v w := by
 subst h
 simp [results, Act.eval]
theorem CallsV.enter {P : Program} {f : FuncId} {np nt : Nat} {res : Array ResultVar} {c : Code} (ht : Text P f np nt res c) {args : Array Value} {w : World} {S : Value → World → Prop} (hn : args.size ≤ nt)
  (h : ∀ a, a.tmps.size = nt → a.defers = [] → (∀ i v, args[i]? = some v → a.eval (.tmp i) = v) → vc P c (Out P res S) a w) : CallsV P f args w S := by
 refine CallsV.of_vc ht (h _ (by simp; omega) rfl ?_)
 intro i v hv
 have hi : i < args.size := by
  rcases Nat.lt_or_ge i args.size with h | h
  ·exact h
  ·simp [Array.getElem?_eq_none h] at hv
 simp [Act.eval, Array.getElem?_append_left hi, hv]
theorem appendTo (H : EnvW P E sb.T) (HI : EnvI P E) {m : Msg} {f : FuncId} {np ntmps : Nat} (ht : Text P f np ntmps #[.tmp 4] (m.wcode E)) (hn : m.wtop ≤ ntmps) (hok : m.okW P E = true)
  {pb po ver : Nat} {cs : List Value} {ds : List D} {tags : List (Nat × List UInt8)} {B : Nat}
  (hver : W0.cell? ⟨pb, po, none⟩ = some (.int .i16 (ver : Int))) (hc : Cells W0 pb (po + m.wi) cs) (hr : m.wfs.Rep W0 sb B cs ds tags) (hb : (m.wfs.wr (m.isFlex ver) ver ds tags).length ≤ big) :
  CallsV P f #[.pointer (some ⟨pb, po, none⟩), .slice none 0 0] W0 fun v w => w.ownsRow W0.heap.size E.tU8 1 v (m.wfs.wr (m.isFlex ver) ver ds tags).length ((m.wfs.wr (m.isFlex ver) ver ds tags).map bv) ∧ Below W0.heap.size W0 w := by
 simp only [Msg.okW, Bool.and_eq_true, beq_iff_eq] at hok
 obtain ⟨⟨ho16, hof⟩, hokf⟩ := hok
 have hlw : 6 ≤ m.wlocals := by unfold Msg.wlocals; cases m.flex <;> simp <;> omega
 have hnt : m.wlocals + 6 ≤ ntmps := by unfold Msg.wtop at hn; cases hfl : m.flex <;> rw [hfl] at hn <;> simp only at hn <;> omega
 refine CallsV.enter ht (by simp; omega) ?_
 intro a0 hs0 hd0 hargs
 have e0 : a0.eval (.tmp 0) = .pointer (some ⟨pb, po, none⟩) := hargs 0 _ rfl
 have e1 : a0.eval (.tmp 1) = .slice none 0 0 := hargs 1 _ rfl
 unfold Msg.wcode
 have htop : m.wlocals + (match m.flex with | none => 5 | some _ => 8) + m.wfs.wt m.wx + 1 ≤ ntmps := hn
 have hloc : m.wlocals = (match m.flex with | none => 6 | some _ => 7) + m.wfs.wn := rfl
 generalize hL : m.wlocals = L at *
 simp only [List.cons_append, List.nil_append, List.append_assoc]
 refine vX (rA (dn (vS ?_)))
 refine m_load (K := fun k => k < L ∧ k ≠ 5) (b := pb) (o := po) (off := 0) (val := .int .i16 (ver : Int)) (by simp (disch := (try simp only [sP]); omega) only [eV, e0]) hof ho16 hver (by simp) (fun d hd => by omega) (by omega) (by simp only [zP]; omega) ?_
 intro a1 hf1 he5
 have hs1 : a1.tmps.size = ntmps := by rw [hf1.size, zP, hs0]
 have hd1 : a1.defers = [] := by rw [hf1.defers, dF, hd0]
 have e10 : a1.eval (.tmp 0) = .pointer (some ⟨pb, po, none⟩) := by rw [hf1.slot 0 (by omega), eval_put_ne _ _ _ _ (by omega), e0]
 have e11 : a1.eval (.tmp 1) = .slice none 0 0 := by rw [hf1.slot 1 (by omega), eval_put_ne _ _ _ _ (by omega), e1]
 refine vX (rM (dn ?_))
 have hown : W0.ownsRow W0.heap.size E.tU8 1 (.slice none 0 0) 0 [] := World.ownsRow_nil _ _ _ _
 have hbel : Below W0.heap.size W0 W0 := Grow.below (Eff.refl _ _)
 have hend : ∀ (t1 : Nat) (a2 : Act) (w2 : World), L ≤ t1 → t1 < ntmps → a2.tmps.size = ntmps → a2.defers = [] → WSt P E W0 m.wx ver (m.isFlex ver) a2 w2 ([] ++ m.wfs.wr (m.isFlex ver) ver ds tags) →
   vc P (sq [rg [oMove t1 (.tmp 1) E.tB, oAssign 4 (.tmp t1) E.tB], .ret]) (Out P #[.tmp 4] fun v w => w.ownsRow W0.heap.size E.tU8 1 v (m.wfs.wr (m.isFlex ver) ver ds tags).length ((m.wfs.wr (m.isFlex ver) ver ds tags).map bv) ∧ Below W0.heap.size W0 w) a2 w2 := by
  intro t1 a2 w2 hLt htn hs2 hd2 hst
  refine vX (rM (rA (dn (vS (vT ?_)))))
  refine ⟨by simp only [dF]; exact hd2, a2.eval (.tmp 1), rO (by simp (disch := (try simp only [sP]); omega) only [eV]), ?_, hst.below⟩
  simpa using hst.own
 cases hfl : m.flex with
 | none =>
  simp only [hfl] at htop hloc ⊢
  have hfx : m.isFlex ver = false := by simp [Msg.isFlex, hfl]
  have hx : m.wx = ⟨5, none⟩ := by simp [Msg.wx, hfl]
  refine vc_sq_append ?_
  generalize hA : a1.put (some (L + 4)) (a1.eval (.tmp 5)) = A
  have hAe : ∀ k, k < L → A.eval (.tmp k) = a1.eval (.tmp k) := fun k hk => by rw [← hA, eval_put_ne _ _ _ _ (by omega)]
  have hAs : A.tmps.size = ntmps := by rw [← hA, zP, hs1]
  have hAd : A.defers = a1.defers := by rw [← hA, dF]
  refine wok_flds (W0 := W0) (sb := sb) H HI m.wfs m.wx ver (m.isFlex ver) L m.TP m.TU 0 m.wi m.wi 6 (L + 5) 0 B pb po A W0 [] cs ds tags _ hokf ⟨by omega, by rw [hx]; exact ⟨by decide, by decide⟩, by rw [hx]; simp, fun _ => hfx, by omega, by omega⟩ (by omega) (by omega) (by omega) (by omega) ?_ (by rw [hAe 0 (by omega), e10]) hc hr (by simpa using hb) ?_
  ·exact ⟨hbel, by rw [hAe 1 (by omega), e11]; exact hown, by rw [hx]; exact (hAe 5 (by omega)).trans he5, by rw [hx]; simp⟩
  ·intro a2 w2 hf2 hst
   exact hend _ a2 w2 (by omega) (by omega) (by rw [hf2.size, hAs]) (by rw [hf2.defers, hAd, hd1]) hst
 | some f =>
  simp only [hfl] at htop hloc ⊢
  have hfx : m.isFlex ver = decide ((ver : Int) ≥ (f : Int)) := by simp [Msg.isFlex, hfl]
  have hx : m.wx = ⟨5, some 6⟩ := by simp [Msg.wx, hfl]
  simp only [List.cons_append, List.nil_append, List.append_assoc]
  refine vX (rM ?_)
  refine r_geq (k := .i16) (m := (ver : Int)) (n := (f : Int)) (by simp (disch := (try simp only [sP]); omega) only [eV, he5]) rfl ?_
  refine rA (dn ?_)
  generalize hB : (((a1.put (some (L + 4)) (a1.eval (.tmp 5))).put (some (L + 5)) _).put (some (L + 6)) (Value.bool (decide ((ver : Int) ≥ (f : Int))))).put (some 6) _ = Bf
  have hBe : ∀ k, k < L → k ≠ 6 → Bf.eval (.tmp k) = a1.eval (.tmp k) := fun k hk hk' => by rw [← hB]; simp (disch := (try simp only [sP]); omega) only [eV]
  have hB6 : Bf.eval (.tmp 6) = .bool (m.isFlex ver) := by rw [← hB, hfx]; simp (disch := (try simp only [sP]); omega) only [eV]
  have hBs : Bf.tmps.size = ntmps := by rw [← hB]; simp only [zP]; exact hs1
  have hBd : Bf.defers = a1.defers := by rw [← hB]; simp only [dF]
  clear hB
  refine vX (rM (dn ?_))
  refine vc_sq_append ?_
  generalize hA : Bf.put (some (L + 7)) (Bf.eval (.tmp 6)) = A
  have hAe : ∀ k, k < L → A.eval (.tmp k) = Bf.eval (.tmp k) := fun k hk => by rw [← hA, eval_put_ne _ _ _ _ (by omega)]
  have hAs : A.tmps.size = ntmps := by rw [← hA, zP, hBs]
  have hAd : A.defers = a1.defers := by rw [← hA, dF, hBd]
  refine wok_flds (W0 := W0) (sb := sb) H HI m.wfs m.wx ver (m.isFlex ver) L m.TP m.TU 0 m.wi m.wi 7 (L + 8) 0 B pb po A W0 [] cs ds tags _ hokf ⟨by omega, by rw [hx]; exact ⟨by decide, by decide⟩, by rw [hx]; simp, by rw [hx]; simp, by omega, by omega⟩ (by omega) (by omega) (by omega) (by omega) ?_ (by rw [hAe 0 (by omega), hBe 0 (by omega) (by omega), e10]) hc hr (by simpa using hb) ?_
  ·exact ⟨hbel, by rw [hAe 1 (by omega), hBe 1 (by omega) (by omega), e11]; exact hown, by rw [hx]; exact (hAe 5 (by omega)).trans ((hBe 5 (by omega) (by omega)).trans he5), by rw [hx]; intro f' hf'; simp only [Option.some.injEq] at hf'; subst hf'; exact (hAe 6 (by omega)).trans hB6⟩
  ·intro a2 w2 hf2 hst
   exact hend _ a2 w2 (by omega) (by omega) (by rw [hf2.size, hAs]) (by rw [hf2.defers, hAd, hd1]) hst
end
end Go.Km
namespace Go.Km
open Go Go.RowKit
attribute [local irreducible] vc rO_ runG runS runD
def o8 (z : Int) : UInt8 := UInt8.ofNat z.toNat
theorem bv_o8 {z : Int} (h0 : 0 ≤ z) (h1 : z < 256) : bv (o8 z) = .int .u8 z := by
 unfold bv o8
 have : z.toNat < 256 := by omega
 rw [UInt8.toNat_ofNat']
 congr 1
 omega
theorem map_o8 {zs : List Int} (h : ∀ z ∈ zs, 0 ≤ z ∧ z < 256) : (zs.map o8).map bv = zs.map fun z => .int .u8 z := by
 rw [List.map_map]
 apply List.map_congr_left
 intro z hz
 exact bv_o8 (h z hz).1 (h z hz).2
theorem wrap8 (n : Int) : IntKind.u8.wrap n = n % 256 := IntKind.wrap_u8' n
theorem wrap8_ok (n : Int) : 0 ≤ IntKind.u8.wrap n ∧ IntKind.u8.wrap n < 256 := by rw [wrap8]; omega
theorem flat_u8 : ∀ zs : List Int, ((zs.map fun z => Value.int .u8 z).flatMap fun v => v.cells.toList) = zs.map fun z => Value.int .u8 z
 | [] => rfl
 | z :: r => by simp only [List.map_cons, List.flatMap_cons, flat_u8 r]; rfl
section
variable {P : Program} {a : Act} {w : World} {r : List Oper} {Q : Exit → Act → World → Prop}
theorem r_litApp {d d2 s : Nat} {t n ps ty p af g ty2 p2 af2 g2 e U v} {xs : List UInt8} {zs : List Int} (hB : rowB P t e 1 = true) (hp : (ps.map fun (x : Nat × Operand) => (x.1, a.eval x.2)).toList = ((zs.map fun z => Value.int .u8 z).zipIdx 0).map fun x => (x.2, x.1)) (h8 : ∀ z ∈ zs, 0 ≤ z ∧ z < 256) (hn : zs.length = n)
  (hlim : n ≤ 1000) (hn0 : 0 < n) (hs : a.eval (.tmp s) = v) (hsd : d ≠ s) (hd : d < a.tmps.size) (hown : w.ownsRow U e 1 v xs.length (xs.map bv)) (hU : U ≤ w.heap.size) (hb : xs.length + n ≤ big)
  (h : ∀ v' w', w'.ownsRow U e 1 v' (xs ++ zs.map o8).length ((xs ++ zs.map o8).map bv) → Below U w w' → rO_ P Q r ((a.put (some d) (.slice (some ⟨w.heap.size, 0, none⟩) n n)).put (some d2) v') w') :
  rO_ P Q (⟨some d, .buildSlice t n ps, ty, p, af, g⟩ :: ⟨some d2, .call { callee := .builtin .append, args := #[.tmp s, .tmp d], argTypes := #[t, t] }, ty2, p2, af2, g2⟩ :: r) a w := by
 refine r_buildSlice (s := 1) (vs := zs.map fun z => .int .u8 z) hB hp (by simpa using hn) (by intro v hv; obtain ⟨z, _, rfl⟩ := List.mem_map.1 hv; rfl) (by omega) hn0 ?_
 have hcs : ((zs.map fun z => Value.int .u8 z).flatMap fun v => v.cells.toList) = (zs.map o8).map bv := by
  rw [map_o8 h8, flat_u8]
 rw [hcs]
 have hlen : (zs.map o8).length = n := by simpa using hn
 refine r_append (sz := 1) (m := n) (U := U) (v := v) (n := xs.length) (xs := xs.map bv) (news := (zs.map o8).map bv) hB (by rw [eval_put_ne _ _ _ _ hsd]; exact hs) (eval_put_same _ _ _ hd) (hown.alloc _) (by simp; omega) ?_ hb ?_
 ·refine src_cells (rB hB) ?_ (by simp [hn]) (bv_one _)
  intro j u hu
  rw [Nat.zero_add]
  exact cells_new w _ e (by simpa using hu)
 ·intro v' w' h1 h2
  refine h v' w' (by simpa [hn] using h1) ?_
  exact ((Below.refl U w).alloc (o := .cells _ e) hU).trans h2
end
theorem wrap_i16 (n : Int) : IntKind.i16.wrap n = (n + 32768) % 65536 - 32768 := by
 simp [IntKind.wrap, IntKind.bits, IntKind.signed]
 split <;> omega
theorem wrap_i32 (n : Int) : IntKind.i32.wrap n = (n + 2147483648) % 4294967296 - 2147483648 := by
 simp [IntKind.wrap, IntKind.bits, IntKind.signed]
 split <;> omega
theorem wrap_u16 (n : Int) : IntKind.u16.wrap n = n % 65536 := by simp [IntKind.wrap, IntKind.bits, IntKind.signed]
theorem wrap_u32 (n : Int) : IntKind.u32.wrap n = n % 4294967296 := by simp [IntKind.wrap, IntKind.bits, IntKind.signed]
theorem wrap_u64 (n : Int) : IntKind.u64.wrap n = n % 18446744073709551616 := by simp [IntKind.wrap, IntKind.bits, IntKind.signed]
theorem be1 (n : Int) : be 1 n = [o8 (n % 256)] := by simp [be, o8]
theorem be2 (n : Int) : be 2 n = [o8 (n / 256 % 256), o8 (n % 256)] := by simp [be, o8, Int.fdiv_eq_ediv_of_nonneg]
theorem be4 (n : Int) : be 4 n = [o8 (n / 16777216 % 256), o8 (n / 65536 % 256), o8 (n / 256 % 256), o8 (n % 256)] := by simp [be, o8, Int.fdiv_eq_ediv_of_nonneg]
theorem be8 (n : Int) : be 8 n = [o8 (n / 72057594037927936 % 256), o8 (n / 281474976710656 % 256), o8 (n / 1099511627776 % 256), o8 (n / 4294967296 % 256), o8 (n / 16777216 % 256), o8 (n / 65536 % 256), o8 (n / 256 % 256), o8 (n % 256)] := by
 simp [be, o8, Int.fdiv_eq_ediv_of_nonneg]
theorem be2_mod (n : Int) : be 2 (IntKind.u16.wrap n) = be 2 n := by
 rw [be2, be2, wrap_u16, show n % 65536 / 256 % 256 = n / 256 % 256 by omega, show n % 65536 % 256 = n % 256 by omega]
theorem be4_mod (n : Int) : be 4 (IntKind.u32.wrap n) = be 4 n := by
 rw [be4, be4, wrap_u32, show n % 4294967296 / 16777216 % 256 = n / 16777216 % 256 by omega, show n % 4294967296 / 65536 % 256 = n / 65536 % 256 by omega, show n % 4294967296 / 256 % 256 = n / 256 % 256 by omega, show n % 4294967296 % 256 = n % 256 by omega]
theorem be8_mod (n : Int) : be 8 (IntKind.u64.wrap n) = be 8 n := by
 rw [be8, be8, wrap_u64, show n % 18446744073709551616 / 72057594037927936 % 256 = n / 72057594037927936 % 256 by omega, show n % 18446744073709551616 / 281474976710656 % 256 = n / 281474976710656 % 256 by omega,
  show n % 18446744073709551616 / 1099511627776 % 256 = n / 1099511627776 % 256 by omega, show n % 18446744073709551616 / 4294967296 % 256 = n / 4294967296 % 256 by omega, show n % 18446744073709551616 / 16777216 % 256 = n / 16777216 % 256 by omega,
  show n % 18446744073709551616 / 65536 % 256 = n / 65536 % 256 by omega, show n % 18446744073709551616 / 256 % 256 = n / 256 % 256 by omega, show n % 18446744073709551616 % 256 = n % 256 by omega]
section
variable {P : Program} {E : Env} {w : World} {U : Nat}
theorem k_u16 (ht : Text P E.wU16 2 13 #[.tmp 4] (c_wU16 E)) (hB : rowB P E.tB E.tU8 1 = true) (i16 : intT P E.tU16 = some .u16) (i8 : intT P E.tU8 = some .u8) {n : Int} (hn : 0 ≤ n ∧ n ≤ 65535) : Wr1 P E E.wU16 U [.int .u16 n] (be 2 n) w := by
 intro dv xs hown hU hb
 refine CallsV.enter ht (by simp) ?_
 intro a hsz hdf harg
 have e0 := harg 0 dv (by simp)
 have e1 := harg 1 (.int .u16 n) (by simp)
 unfold c_wU16
 refine vX (rA (dn (vX (rM (rM ?_)))))
 refine r_shr (by (try simp (disch := (try simp only [sP]); omega) only [eV, e1]) <;> (first | rfl | assumption)) (by (try simp (disch := (try simp only [sP]); omega) only [eV, e1]) <;> (first | rfl | assumption)) (by decide) ?_
 refine r_conv (by assumption) (by assumption) (by (try simp (disch := (try simp only [sP]); omega) only [eV]) <;> (first | rfl | assumption)) ?_
 refine rM ?_
 refine r_conv (by assumption) (by assumption) (by (try simp (disch := (try simp only [sP]); omega) only [eV, e1]) <;> (first | rfl | assumption)) ?_
 refine r_litApp (zs := [IntKind.u8.wrap (n.fdiv (2 ^ (min 8 16))), IntKind.u8.wrap n]) hB ?_ (by intro z hz; simp only [List.mem_cons, List.not_mem_nil, or_false] at hz; rcases hz with rfl | rfl <;> first | exact wrap8_ok _ | decide) rfl (by omega) (by omega) (by simp (disch := (try simp only [sP]); omega) only [eV, e0]) (by omega) (by simp only [zP]; omega) hown hU (by simpa [be] using hb) ?_
 ·simp only [lM]
  simp (disch := (try simp only [sP]); omega) only [eV]
  rfl
 intro v' w' h1 h2
 rw [show [IntKind.u8.wrap (n.fdiv (2 ^ (min 8 16))), IntKind.u8.wrap n].map o8 = be 2 n by rw [be2]; simp only [List.map_cons, List.map_nil, wrap8]; rw [Int.fdiv_eq_ediv_of_nonneg _ (by decide)]; rfl] at h1
 refine rA (dn (vS (vT ?_)))
 exact ⟨by simp only [dF]; exact hdf, v', rO (by simp (disch := (try simp only [sP]); omega) only [eV]), ⟨h1, h2⟩⟩
theorem k_u32 (ht : Text P E.wU32 2 19 #[.tmp 4] (c_wU32 E)) (hB : rowB P E.tB E.tU8 1 = true) (i32 : intT P E.tW = some .u32) (i8 : intT P E.tU8 = some .u8) {n : Int} (hn : 0 ≤ n ∧ n ≤ 4294967295) : Wr1 P E E.wU32 U [.int .u32 n] (be 4 n) w := by
 intro dv xs hown hU hb
 refine CallsV.enter ht (by simp) ?_
 intro a hsz hdf harg
 have e0 := harg 0 dv (by simp)
 have e1 := harg 1 (.int .u32 n) (by simp)
 unfold c_wU32
 refine vX (rA (dn (vX (rM (rM ?_)))))
 refine r_shr (by (try simp (disch := (try simp only [sP]); omega) only [eV, e1]) <;> (first | rfl | assumption)) (by (try simp (disch := (try simp only [sP]); omega) only [eV, e1]) <;> (first | rfl | assumption)) (by decide) ?_
 refine r_conv (by assumption) (by assumption) (by (try simp (disch := (try simp only [sP]); omega) only [eV]) <;> (first | rfl | assumption)) ?_
 refine rM ?_
 refine r_shr (by (try simp (disch := (try simp only [sP]); omega) only [eV, e1]) <;> (first | rfl | assumption)) (by (try simp (disch := (try simp only [sP]); omega) only [eV, e1]) <;> (first | rfl | assumption)) (by decide) ?_
 refine r_conv (by assumption) (by assumption) (by (try simp (disch := (try simp only [sP]); omega) only [eV]) <;> (first | rfl | assumption)) ?_
 refine rM ?_
 refine r_shr (by (try simp (disch := (try simp only [sP]); omega) only [eV, e1]) <;> (first | rfl | assumption)) (by (try simp (disch := (try simp only [sP]); omega) only [eV, e1]) <;> (first | rfl | assumption)) (by decide) ?_
 refine r_conv (by assumption) (by assumption) (by (try simp (disch := (try simp only [sP]); omega) only [eV]) <;> (first | rfl | assumption)) ?_
 refine rM ?_
 refine r_conv (by assumption) (by assumption) (by (try simp (disch := (try simp only [sP]); omega) only [eV, e1]) <;> (first | rfl | assumption)) ?_
 refine r_litApp (zs := [IntKind.u8.wrap (n.fdiv (2 ^ (min 24 32))), IntKind.u8.wrap (n.fdiv (2 ^ (min 16 32))), IntKind.u8.wrap (n.fdiv (2 ^ (min 8 32))), IntKind.u8.wrap n]) hB ?_ (by intro z hz; simp only [List.mem_cons, List.not_mem_nil, or_false] at hz; rcases hz with rfl | rfl | rfl | rfl <;> first | exact wrap8_ok _ | decide) rfl (by omega) (by omega) (by simp (disch := (try simp only [sP]); omega) only [eV, e0]) (by omega) (by simp only [zP]; omega) hown hU (by simpa [be] using hb) ?_
 ·simp only [lM]
  simp (disch := (try simp only [sP]); omega) only [eV]
  rfl
 intro v' w' h1 h2
 rw [show [IntKind.u8.wrap (n.fdiv (2 ^ (min 24 32))), IntKind.u8.wrap (n.fdiv (2 ^ (min 16 32))), IntKind.u8.wrap (n.fdiv (2 ^ (min 8 32))), IntKind.u8.wrap n].map o8 = be 4 n by rw [be4]; simp only [List.map_cons, List.map_nil, wrap8]; simp only [Int.fdiv_eq_ediv_of_nonneg _ (show (0 : Int) ≤ 2 ^ (min 24 32) by decide), Int.fdiv_eq_ediv_of_nonneg _ (show (0 : Int) ≤ 2 ^ (min 16 32) by decide), Int.fdiv_eq_ediv_of_nonneg _ (show (0 : Int) ≤ 2 ^ (min 8 32) by decide)]; rfl] at h1
 refine rA (dn (vS (vT ?_)))
 exact ⟨by simp only [dF]; exact hdf, v', rO (by simp (disch := (try simp only [sP]); omega) only [eV]), ⟨h1, h2⟩⟩
theorem k_u64 (ht : Text P E.wU64 2 31 #[.tmp 4] (c_wU64 E)) (hB : rowB P E.tB E.tU8 1 = true) (i64 : intT P E.tU64 = some .u64) (i8 : intT P E.tU8 = some .u8) {n : Int} (hn : 0 ≤ n ∧ n ≤ 18446744073709551615) : Wr1 P E E.wU64 U [.int .u64 n] (be 8 n) w := by
 intro dv xs hown hU hb
 refine CallsV.enter ht (by simp) ?_
 intro a hsz hdf harg
 have e0 := harg 0 dv (by simp)
 have e1 := harg 1 (.int .u64 n) (by simp)
 unfold c_wU64
 refine vX (rA (dn (vX (rM (rM ?_)))))
 refine r_shr (by (try simp (disch := (try simp only [sP]); omega) only [eV, e1]) <;> (first | rfl | assumption)) (by (try simp (disch := (try simp only [sP]); omega) only [eV, e1]) <;> (first | rfl | assumption)) (by decide) ?_
 refine r_conv (by assumption) (by assumption) (by (try simp (disch := (try simp only [sP]); omega) only [eV]) <;> (first | rfl | assumption)) ?_
 refine rM ?_
 refine r_shr (by (try simp (disch := (try simp only [sP]); omega) only [eV, e1]) <;> (first | rfl | assumption)) (by (try simp (disch := (try simp only [sP]); omega) only [eV, e1]) <;> (first | rfl | assumption)) (by decide) ?_
 refine r_conv (by assumption) (by assumption) (by (try simp (disch := (try simp only [sP]); omega) only [eV]) <;> (first | rfl | assumption)) ?_
 refine rM ?_
 refine r_shr (by (try simp (disch := (try simp only [sP]); omega) only [eV, e1]) <;> (first | rfl | assumption)) (by (try simp (disch := (try simp only [sP]); omega) only [eV, e1]) <;> (first | rfl | assumption)) (by decide) ?_
 refine r_conv (by assumption) (by assumption) (by (try simp (disch := (try simp only [sP]); omega) only [eV]) <;> (first | rfl | assumption)) ?_
 refine rM ?_
 refine r_shr (by (try simp (disch := (try simp only [sP]); omega) only [eV, e1]) <;> (first | rfl | assumption)) (by (try simp (disch := (try simp only [sP]); omega) only [eV, e1]) <;> (first | rfl | assumption)) (by decide) ?_
 refine r_conv (by assumption) (by assumption) (by (try simp (disch := (try simp only [sP]); omega) only [eV]) <;> (first | rfl | assumption)) ?_
 refine rM ?_
 refine r_shr (by (try simp (disch := (try simp only [sP]); omega) only [eV, e1]) <;> (first | rfl | assumption)) (by (try simp (disch := (try simp only [sP]); omega) only [eV, e1]) <;> (first | rfl | assumption)) (by decide) ?_
 refine r_conv (by assumption) (by assumption) (by (try simp (disch := (try simp only [sP]); omega) only [eV]) <;> (first | rfl | assumption)) ?_
 refine rM ?_
 refine r_shr (by (try simp (disch := (try simp only [sP]); omega) only [eV, e1]) <;> (first | rfl | assumption)) (by (try simp (disch := (try simp only [sP]); omega) only [eV, e1]) <;> (first | rfl | assumption)) (by decide) ?_
 refine r_conv (by assumption) (by assumption) (by (try simp (disch := (try simp only [sP]); omega) only [eV]) <;> (first | rfl | assumption)) ?_
 refine rM ?_
 refine r_shr (by (try simp (disch := (try simp only [sP]); omega) only [eV, e1]) <;> (first | rfl | assumption)) (by (try simp (disch := (try simp only [sP]); omega) only [eV, e1]) <;> (first | rfl | assumption)) (by decide) ?_
 refine r_conv (by assumption) (by assumption) (by (try simp (disch := (try simp only [sP]); omega) only [eV]) <;> (first | rfl | assumption)) ?_
 refine rM ?_
 refine r_conv (by assumption) (by assumption) (by (try simp (disch := (try simp only [sP]); omega) only [eV, e1]) <;> (first | rfl | assumption)) ?_
 refine r_litApp (zs := [IntKind.u8.wrap (n.fdiv (2 ^ (min 56 64))), IntKind.u8.wrap (n.fdiv (2 ^ (min 48 64))), IntKind.u8.wrap (n.fdiv (2 ^ (min 40 64))), IntKind.u8.wrap (n.fdiv (2 ^ (min 32 64))), IntKind.u8.wrap (n.fdiv (2 ^ (min 24 64))), IntKind.u8.wrap (n.fdiv (2 ^ (min 16 64))), IntKind.u8.wrap (n.fdiv (2 ^ (min 8 64))), IntKind.u8.wrap n]) hB ?_ (by intro z hz; simp only [List.mem_cons, List.not_mem_nil, or_false] at hz; rcases hz with rfl | rfl | rfl | rfl | rfl | rfl | rfl | rfl <;> first | exact wrap8_ok _ | decide) rfl (by omega) (by omega) (by simp (disch := (try simp only [sP]); omega) only [eV, e0]) (by omega) (by simp only [zP]; omega) hown hU (by simpa [be] using hb) ?_
 ·simp only [lM]
  simp (disch := (try simp only [sP]); omega) only [eV]
  rfl
 intro v' w' h1 h2
 rw [show [IntKind.u8.wrap (n.fdiv (2 ^ (min 56 64))), IntKind.u8.wrap (n.fdiv (2 ^ (min 48 64))), IntKind.u8.wrap (n.fdiv (2 ^ (min 40 64))), IntKind.u8.wrap (n.fdiv (2 ^ (min 32 64))), IntKind.u8.wrap (n.fdiv (2 ^ (min 24 64))), IntKind.u8.wrap (n.fdiv (2 ^ (min 16 64))), IntKind.u8.wrap (n.fdiv (2 ^ (min 8 64))), IntKind.u8.wrap n].map o8 = be 8 n by rw [be8]; simp only [List.map_cons, List.map_nil, wrap8]; simp only [Int.fdiv_eq_ediv_of_nonneg _ (show (0 : Int) ≤ 2 ^ (min 56 64) by decide), Int.fdiv_eq_ediv_of_nonneg _ (show (0 : Int) ≤ 2 ^ (min 48 64) by decide), Int.fdiv_eq_ediv_of_nonneg _ (show (0 : Int) ≤ 2 ^ (min 40 64) by decide), Int.fdiv_eq_ediv_of_nonneg _ (show (0 : Int) ≤ 2 ^ (min 32 64) by decide), Int.fdiv_eq_ediv_of_nonneg _ (show (0 : Int) ≤ 2 ^ (min 24 64) by decide), Int.fdiv_eq_ediv_of_nonneg _ (show (0 : Int) ≤ 2 ^ (min 16 64) by decide), Int.fdiv_eq_ediv_of_nonneg _ (show (0 : Int) ≤ 2 ^ (min 8 64) by decide)]; rfl] at h1
 refine rA (dn (vS (vT ?_)))
 exact ⟨by simp only [dF]; exact hdf, v', rO (by simp (disch := (try simp only [sP]); omega) only [eV]), ⟨h1, h2⟩⟩
theorem k_i16 (ht : Text P E.wI16 2 9 #[.tmp 4] (c_wI16 E)) (is : intT P E.tI16 = some .i16) (iu : intT P E.tU16 = some .u16) (hc : ∀ n U w, 0 ≤ n ∧ n ≤ 65535 → Wr1 P E E.wU16 U [.int .u16 n] (be 2 n) w) {n : Int} : Wr1 P E E.wI16 U [.int .i16 n] (be 2 n) w := by
 intro dv xs hown hU hb
 refine CallsV.enter ht (by simp) ?_
 intro a hsz hdf harg
 have e0 := harg 0 dv (by simp)
 have e1 := harg 1 (.int .i16 n) (by simp)
 unfold c_wI16
 refine vX (rA (dn (vX (rM (rM ?_)))))
 refine r_conv (by assumption) (by assumption) (by (try simp (disch := (try simp only [sP]); omega) only [eV, e1]) <;> (first | rfl | assumption)) ?_
 refine r_call' (args := #[dv, .int .u16 (IntKind.u16.wrap n)]) ?_ (hc (IntKind.u16.wrap n) U w (by rw [wrap_u16]; omega) dv xs hown hU (by rw [be2_mod]; exact hb)) ?_
 ·simp only [lM]
  simp (disch := (try simp only [sP]); omega) only [eV, e0]
 intro v' w' hs
 rw [be2_mod] at hs
 refine rA (dn (vS (vT ?_)))
 exact ⟨by simp only [dF]; exact hdf, v', rO (by simp (disch := (try simp only [sP]); omega) only [eV]), hs⟩
theorem k_i32 (ht : Text P E.wI32 2 9 #[.tmp 4] (c_wI32 E)) (is : intT P E.tI32 = some .i32) (iu : intT P E.tW = some .u32) (hc : ∀ n U w, 0 ≤ n ∧ n ≤ 4294967295 → Wr1 P E E.wU32 U [.int .u32 n] (be 4 n) w) {n : Int} : Wr1 P E E.wI32 U [.int .i32 n] (be 4 n) w := by
 intro dv xs hown hU hb
 refine CallsV.enter ht (by simp) ?_
 intro a hsz hdf harg
 have e0 := harg 0 dv (by simp)
 have e1 := harg 1 (.int .i32 n) (by simp)
 unfold c_wI32
 refine vX (rA (dn (vX (rM (rM ?_)))))
 refine r_conv (by assumption) (by assumption) (by (try simp (disch := (try simp only [sP]); omega) only [eV, e1]) <;> (first | rfl | assumption)) ?_
 refine r_call' (args := #[dv, .int .u32 (IntKind.u32.wrap n)]) ?_ (hc (IntKind.u32.wrap n) U w (by rw [wrap_u32]; omega) dv xs hown hU (by rw [be4_mod]; exact hb)) ?_
 ·simp only [lM]
  simp (disch := (try simp only [sP]); omega) only [eV, e0]
 intro v' w' hs
 rw [be4_mod] at hs
 refine rA (dn (vS (vT ?_)))
 exact ⟨by simp only [dF]; exact hdf, v', rO (by simp (disch := (try simp only [sP]); omega) only [eV]), hs⟩
theorem k_i64 (ht : Text P E.wI64 2 9 #[.tmp 4] (c_wI64 E)) (is : intT P E.tI64 = some .i64) (iu : intT P E.tU64 = some .u64) (hc : ∀ n U w, 0 ≤ n ∧ n ≤ 18446744073709551615 → Wr1 P E E.wU64 U [.int .u64 n] (be 8 n) w) {n : Int} : Wr1 P E E.wI64 U [.int .i64 n] (be 8 n) w := by
 intro dv xs hown hU hb
 refine CallsV.enter ht (by simp) ?_
 intro a hsz hdf harg
 have e0 := harg 0 dv (by simp)
 have e1 := harg 1 (.int .i64 n) (by simp)
 unfold c_wI64
 refine vX (rA (dn (vX (rM (rM ?_)))))
 refine r_conv (by assumption) (by assumption) (by (try simp (disch := (try simp only [sP]); omega) only [eV, e1]) <;> (first | rfl | assumption)) ?_
 refine r_call' (args := #[dv, .int .u64 (IntKind.u64.wrap n)]) ?_ (hc (IntKind.u64.wrap n) U w (by rw [wrap_u64]; omega) dv xs hown hU (by rw [be8_mod]; exact hb)) ?_
 ·simp only [lM]
  simp (disch := (try simp only [sP]); omega) only [eV, e0]
 intro v' w' hs
 rw [be8_mod] at hs
 refine rA (dn (vS (vT ?_)))
 exact ⟨by simp only [dF]; exact hdf, v', rO (by simp (disch := (try simp only [sP]); omega) only [eV]), hs⟩
theorem k_i8 (ht : Text P E.wI8 2 10 #[.tmp 4] (c_wI8 E)) (hB : rowB P E.tB E.tU8 1 = true) (is : intT P E.tI8 = some .i8) (i8 : intT P E.tU8 = some .u8) {n : Int} : Wr1 P E E.wI8 U [.int .i8 n] (be 1 n) w := by
 intro dv xs hown hU hb
 refine CallsV.enter ht (by simp) ?_
 intro a hsz hdf harg
 have e0 := harg 0 dv (by simp)
 have e1 := harg 1 (.int .i8 n) (by simp)
 unfold c_wI8
 refine vX (rA (dn (vX (rM (rM ?_)))))
 refine r_conv (by assumption) (by assumption) (by (try simp (disch := (try simp only [sP]); omega) only [eV, e1]) <;> (first | rfl | assumption)) ?_
 refine r_litApp (zs := [IntKind.u8.wrap n]) hB ?_ (by intro z hz; simp only [List.mem_cons, List.not_mem_nil, or_false] at hz; rcases hz with rfl <;> first | exact wrap8_ok _ | decide) rfl (by omega) (by omega) (by simp (disch := (try simp only [sP]); omega) only [eV, e0]) (by omega) (by simp only [zP]; omega) hown hU (by simpa [be] using hb) ?_
 ·simp only [lM]
  simp (disch := (try simp only [sP]); omega) only [eV]
  rfl
 intro v' w' h1 h2
 rw [show [IntKind.u8.wrap n].map o8 = be 1 n by rw [be1]; simp only [List.map_cons, List.map_nil, wrap8]] at h1
 refine rA (dn (vS (vT ?_)))
 exact ⟨by simp only [dF]; exact hdf, v', rO (by simp (disch := (try simp only [sP]); omega) only [eV]), ⟨h1, h2⟩⟩
theorem k_bool (ht : Text P E.wBool 2 12 #[.tmp 4] (c_wBool E)) (hB : rowB P E.tB E.tU8 1 = true) {b : Bool} : Wr1 P E E.wBool U [.bool b] ([if b then 1 else 0]) w := by
 intro dv xs hown hU hb
 refine CallsV.enter ht (by simp) ?_
 intro a hsz hdf harg
 have e0 := harg 0 dv (by simp)
 have e1 := harg 1 (.bool b) (by simp)
 unfold c_wBool
 refine vX (rA (dn (vS (vX (rM (dn ?_))))))
 refine vS (vC (t := b) (by simp (disch := (try simp only [sP]); omega) only [eV, e1]) ?_ ?_)
 ·intro hbt
  refine vX (rM ?_)
  refine r_litApp (zs := [1]) hB ?_ (by intro z hz; simp only [List.mem_cons, List.not_mem_nil, or_false] at hz; rcases hz with rfl <;> first | exact wrap8_ok _ | decide) rfl (by omega) (by omega) (by simp (disch := (try simp only [sP]); omega) only [eV, e0]) (by omega) (by simp only [zP]; omega) hown hU (by simpa [be] using hb) ?_
  ·simp only [lM]
   simp (disch := (try simp only [sP]); omega) only [eV]
   rfl
  intro v' w' h1 h2
  refine rA (dn (vS (vT ?_)))
  exact ⟨by simp only [dF]; exact hdf, v', rO (by simp (disch := (try simp only [sP]); omega) only [eV]), ⟨by rw [hbt]; exact h1, h2⟩⟩
 ·intro hbt
  refine vK (vN (vX (rM ?_)))
  refine r_litApp (zs := [0]) hB ?_ (by intro z hz; simp only [List.mem_cons, List.not_mem_nil, or_false] at hz; rcases hz with rfl <;> first | exact wrap8_ok _ | decide) rfl (by omega) (by omega) (by simp (disch := (try simp only [sP]); omega) only [eV, e0]) (by omega) (by simp only [zP]; omega) hown hU (by simpa [be] using hb) ?_
  ·simp only [lM]
   simp (disch := (try simp only [sP]); omega) only [eV]
   rfl
  intro v' w' h1 h2
  refine rA (dn (vS (vT ?_)))
  exact ⟨by simp only [dF]; exact hdf, v', rO (by simp (disch := (try simp only [sP]); omega) only [eV]), ⟨by rw [hbt]; exact h1, h2⟩⟩
end
end Go.Km
namespace Go.Km
open Go Go.RowKit
attribute [local irreducible] vc rO_ runG runS runD
section
variable {P : Program} {a : Act} {w : World} {r : List Oper} {Q : Exit → Act → World → Prop}
theorem r_eqNilP {d T x ty p af g ad} {e : TypeId} (hT : P.underlying T = some (.pointer e)) (hx : a.eval x = .pointer ad) (h : rO_ P Q r (a.put (some d) (.bool ad.isNone)) w) :
  rO_ P Q (⟨some d, .binOp .eql T x (.const (.pointer none)) T, ty, p, af, g⟩ :: r) a w := by
 refine st ?_
 have hb : (binOp .eql T (.pointer ad) (.pointer none)).run P w = .ok (.bool ad.isNone) w := by
  have h0 : ∀ k : Nat, (Op.equalIn (k + 1) T (.pointer ad) (.pointer none)).run P w = .ok ad.isNone w := fun k => by
   cases ad <;> simp [Op.equalIn, run_underlying hT]
  simp only [binOp]
  simp [Op.equal, Op.maxDepth, h0 9999]
 have hg : (eqGuard .eql T x (.const (.pointer none)) (.pointer ad) (.pointer none)) = pure () := by cases ad <;> rfl
 simp only [Oper.wp, execOp, hx, eval_const, hg, hb, Sem.run_bind, Sem.run_pure, Result.andThen_ok, Oper.upon_value]
 exact h
theorem r_sliceArr {d t x ty p af g b n s} {e : TypeId} (hu : P.underlying t = some (.array n e)) (hs : (P.info? e).map (·.size) = some s) (hx : a.eval x = .pointer (some ⟨b, 0, none⟩)) (h : rO_ P Q r (a.put (some d) (.slice (some ⟨b, 0, none⟩) n n)) w) :
  rO_ P Q (⟨some d, .slice t x none none none, ty, p, af, g⟩ :: r) a w := by
 refine st ?_
 cases hi : P.info? e with
 | none => simp [hi] at hs
 | some i =>
  have hr : (Instr.sliceAt t (a.eval x) none none none).run P w = .ok (.slice (some ⟨b, 0, none⟩) n n) w := by
   rw [hx]
   by_cases hn : n = 0
   ·simp [Instr.sliceAt, run_underlying hu, Instr.sureAddr, Instr.sliceBounds, sizeOf, typeInfo, hi, hn]
   ·simp [Instr.sliceAt, run_underlying hu, Instr.sureAddr, Instr.sliceBounds, sizeOf, typeInfo, hi, hn, Addr.add_zero']
  simp only [Oper.wp, execOp, Sem.run_bind, Option.map_none, hr, Sem.run_pure, Result.andThen_ok, Oper.upon_value]
  exact h
theorem r_indexStr {d t x i ty p af g k} {s : ByteArray} {j : Nat} {b : UInt8} (ht : P.underlying t = some .string) (hx : a.eval x = .string s) (hi : a.eval i = .int k (j : Int)) (hb : s[j]? = some b)
  (h : rO_ P Q r (a.put (some d) (.int .u8 b.toNat)) w) : rO_ P Q (⟨some d, .index t x i, ty, p, af, g⟩ :: r) a w := by
 refine st ?_
 have hr : (Instr.index t (a.eval x) (a.eval i)).run P w = .ok (.int .u8 b.toNat) w := by
  rw [hx, hi]
  simp [Instr.index, asIntOf, run_underlying ht, hb]
 simp only [Oper.wp, execOp, Sem.run_bind, hr, Sem.run_pure, Result.andThen_ok, Oper.upon_value]
 exact h
end
section
variable {P : Program} {E : Env} {w : World} {U : Nat}
theorem size_ba (l : List UInt8) : (⟨l.toArray⟩ : ByteArray).size = l.length := by simp [ByteArray.size]
theorem wrap_id16 (n : Int) : be 2 (IntKind.i16.wrap n) = be 2 n := by
 rw [be2, be2, wrap_i16, show ((n + 32768) % 65536 - 32768) / 256 % 256 = n / 256 % 256 by omega, show ((n + 32768) % 65536 - 32768) % 256 = n % 256 by omega]
theorem wrap_id32 {n : Nat} (h : n ≤ big) : IntKind.i32.wrap (n : Int) = n := by rw [wrap_i32]; unfold big at h; omega
theorem wrap_idu32 {n : Nat} (h : n ≤ big) : IntKind.u32.wrap (1 + IntKind.u32.wrap (n : Int)) = ((n + 1 : Nat) : Int) := by rw [wrap_u32, wrap_u32]; unfold big at h; omega
theorem k_str (ht : Text P E.wStr 2 13 #[.tmp 4] (c_wStr E)) (hB : rowB P E.tB E.tU8 1 = true) (i16 : intT P E.tI16 = some .i16) (ii : intT P E.tI = some .i64) (hs9 : P.underlying E.tStr = some .string) (hc : ∀ n U w, Wr1 P E E.wI16 U [.int .i16 n] (be 2 n) w) {l : List UInt8} : Wr1 P E E.wStr U [.string ⟨l.toArray⟩] (wrStr false l) w := by
 intro dv xs hown hU hb
 refine CallsV.enter ht (by simp) ?_
 intro a hsz hdf harg
 have e0 := harg 0 dv (by simp)
 have e1 := harg 1 (.string ⟨l.toArray⟩) (by simp)
 unfold c_wStr
 refine vX (rA (dn ?_))
 have hl : l.length ≤ 2147483000 := by simp only [wrStr, List.length_append] at hb; unfold big at hb; omega
 have hw : be 2 (IntKind.i16.wrap ((⟨l.toArray⟩ : ByteArray).size : Nat)) = be 2 l.length := by rw [size_ba]; exact wrap_id16 _
 have hb2 : xs.length + (be 2 l.length).length + l.length ≤ big := by simp only [wrStr, List.length_append, Bool.false_eq_true, if_false] at hb; omega
 refine vX (rM (rM ?_))
 refine r_lenStr (by assumption) (by (try simp (disch := (try simp only [sP]); omega) only [eV, e1]) <;> (first | rfl | assumption)) ?_
 refine r_conv (by assumption) (by assumption) (by (try simp (disch := (try simp only [sP]); omega) only [eV]) <;> (first | rfl | assumption)) ?_
 refine r_call' (args := #[dv, .int .i16 (IntKind.i16.wrap ((⟨l.toArray⟩ : ByteArray).size : Nat))]) ?_ (hc _ U w dv xs hown hU (by rw [hw]; omega)) ?_
 ·simp only [lM]
  simp (disch := (try simp only [sP]); omega) only [eV, e0]
 intro v' w' hs
 rw [hw] at hs
 have hU' : U ≤ w'.heap.size := Nat.le_trans hU hs.2.size
 refine rA (dn (vX (rM (rM ?_))))
 refine r_append (sz := 1) (U := U) (m := l.length) (news := l.map bv) hB (by simp (disch := (try simp only [sP]); omega) only [eV]) (by simp (disch := (try simp only [sP]); omega) only [eV, e1]) hs.1 hU' (src_str hs9 l) (by simp only [List.length_append]; omega) ?_
 intro v' w2 h1 h2
 rw [show (xs ++ be 2 ↑l.length).length + l.length = (xs ++ (be 2 ↑l.length ++ l)).length by simp only [List.length_append]; omega, ← List.map_append, List.append_assoc] at h1
 refine rA (dn (vS (vT ?_)))
 exact ⟨by simp only [dF]; exact hdf, v', rO (by simp (disch := (try simp only [sP]); omega) only [eV]), ⟨h1, hs.2.trans h2⟩⟩
theorem k_cstr (ht : Text P E.wCStr 2 14 #[.tmp 4] (c_wCStr E)) (hB : rowB P E.tB E.tU8 1 = true) (iu : intT P E.tW = some .u32) (ii : intT P E.tI = some .i64) (hs9 : P.underlying E.tStr = some .string) (hc : ∀ (n : Nat) U w, n < 4294967296 → Wr1 P E E.wUvarint U [.int .u32 n] (Go.Km.uvar n) w) {l : List UInt8} : Wr1 P E E.wCStr U [.string ⟨l.toArray⟩] (wrStr true l) w := by
 intro dv xs hown hU hb
 refine CallsV.enter ht (by simp) ?_
 intro a hsz hdf harg
 have e0 := harg 0 dv (by simp)
 have e1 := harg 1 (.string ⟨l.toArray⟩) (by simp)
 unfold c_wCStr
 refine vX (rA (dn ?_))
 have hl : l.length ≤ big := by simp only [wrStr, List.length_append] at hb; omega
 have hw : IntKind.u32.wrap (1 + IntKind.u32.wrap (((⟨l.toArray⟩ : ByteArray).size : Nat) : Int)) = ((l.length + 1 : Nat) : Int) := by rw [size_ba]; exact wrap_idu32 hl
 have hb2 : xs.length + (Go.Km.uvar (l.length + 1)).length + l.length ≤ big := by simp only [wrStr, List.length_append, if_true] at hb; omega
 refine vX (rM (rM ?_))
 refine r_lenStr (by assumption) (by (try simp (disch := (try simp only [sP]); omega) only [eV, e1]) <;> (first | rfl | assumption)) ?_
 refine r_conv (by assumption) (by assumption) (by (try simp (disch := (try simp only [sP]); omega) only [eV]) <;> (first | rfl | assumption)) ?_
 refine r_add (by (try simp (disch := (try simp only [sP]); omega) only [eV]) <;> (first | rfl | assumption)) (by (try simp (disch := (try simp only [sP]); omega) only [eV]) <;> (first | rfl | assumption)) ?_
 refine r_call' (args := #[dv, .int .u32 (IntKind.u32.wrap (1 + IntKind.u32.wrap ((⟨l.toArray⟩ : ByteArray).size : Nat)))]) ?_ (by rw [hw]; exact hc (l.length + 1) U w (by unfold big at hl; omega) dv xs hown hU (by omega)) ?_
 ·simp only [lM]
  simp (disch := (try simp only [sP]); omega) only [eV, e0]
 intro v' w' hs
 have hU' : U ≤ w'.heap.size := Nat.le_trans hU hs.2.size
 refine rA (dn (vX (rM (rM ?_))))
 refine r_append (sz := 1) (U := U) (m := l.length) (news := l.map bv) hB (by simp (disch := (try simp only [sP]); omega) only [eV]) (by simp (disch := (try simp only [sP]); omega) only [eV, e1]) hs.1 hU' (src_str hs9 l) (by simp only [List.length_append]; omega) ?_
 intro v' w2 h1 h2
 rw [show (xs ++ Go.Km.uvar (l.length + 1)).length + l.length = (xs ++ (Go.Km.uvar (l.length + 1) ++ l)).length by simp only [List.length_append]; omega, ← List.map_append, List.append_assoc] at h1
 refine rA (dn (vS (vT ?_)))
 exact ⟨by simp only [dF]; exact hdf, v', rO (by simp (disch := (try simp only [sP]); omega) only [eV]), ⟨h1, hs.2.trans h2⟩⟩
theorem oct_src {T e : TypeId} {v : Value} {o : Option (List UInt8)} (hT : sliceT P T = some (e, 1)) (hv : OctAt w U v o) (hU : U ≤ w.heap.size) :
  ∃ ad cap, v = .slice ad (o.getD []).length cap ∧ ∀ w', Below U w w' → Src P 1 T v (o.getD []).length ((o.getD []).map bv) w' := by
 cases o with
 | none =>
  simp only [OctAt] at hv
  subst hv
  exact ⟨none, 0, rfl, fun w' _ => src_nil hT⟩
 | some l =>
  obtain ⟨q, o, cap, rfl, hq, hc⟩ := hv
  exact ⟨_, cap, rfl, fun w' hw => src_cells hT (hc.below hw hq) (by simp) (bv_one l)⟩
theorem k_octs (ht : Text P E.wBytes 2 13 #[.tmp 4] (c_wBytes E)) (hB : rowB P E.tB E.tU8 1 = true) (i32 : intT P E.tI32 = some .i32) (ii : intT P E.tI = some .i64) {v : Value} {o : Option (List UInt8)} (hv : OctAt w U v o) (hc : ∀ n U w, Wr1 P E E.wI32 U [.int .i32 n] (be 4 n) w) : Wr1 P E E.wBytes U [v] (wrBytes false (o.getD [])) w := by
 intro dv xs hown hU hb
 refine CallsV.enter ht (by simp) ?_
 intro a hsz hdf harg
 have e0 := harg 0 dv (by simp)
 have e1 := harg 1 (v) (by simp)
 unfold c_wBytes
 refine vX (rA (dn ?_))
 have hsl := rB hB
 obtain ⟨ad, cap, hve, hsrc⟩ := oct_src hsl hv hU
 generalize hlo : o.getD [] = l at *
 subst hve
 have hl : l.length ≤ big := by simp only [wrBytes, List.length_append] at hb; omega
 have hw : IntKind.i32.wrap (l.length : Int) = l.length := wrap_id32 hl
 have hb2 : xs.length + (be 4 l.length).length + l.length ≤ big := by simp only [wrBytes, List.length_append, Bool.false_eq_true, if_false] at hb; omega
 refine vX (rM (rM ?_))
 refine r_len (by assumption) (by (try simp (disch := (try simp only [sP]); omega) only [eV, e1]) <;> (first | rfl | assumption)) ?_
 refine r_conv (by assumption) (by assumption) (by (try simp (disch := (try simp only [sP]); omega) only [eV]) <;> (first | rfl | assumption)) ?_
 refine r_call' (args := #[dv, .int .i32 (IntKind.i32.wrap (l.length : Int))]) ?_ (by rw [hw]; exact hc _ U w dv xs hown hU (by omega)) ?_
 ·simp only [lM]
  simp (disch := (try simp only [sP]); omega) only [eV, e0]
 intro v' w' hs
 have hU' : U ≤ w'.heap.size := Nat.le_trans hU hs.2.size
 refine rA (dn (vX (rM (rM ?_))))
 refine r_append (sz := 1) (U := U) (m := l.length) (news := l.map bv) hB (by simp (disch := (try simp only [sP]); omega) only [eV]) (by simp (disch := (try simp only [sP]); omega) only [eV, e1]) hs.1 hU' (hsrc _ hs.2) (by simp only [List.length_append]; omega) ?_
 intro v' w2 h1 h2
 rw [show (xs ++ be 4 ↑l.length).length + l.length = (xs ++ (be 4 ↑l.length ++ l)).length by simp only [List.length_append]; omega, ← List.map_append, List.append_assoc] at h1
 refine rA (dn (vS (vT ?_)))
 exact ⟨by simp only [dF]; exact hdf, v', rO (by simp (disch := (try simp only [sP]); omega) only [eV]), ⟨h1, hs.2.trans h2⟩⟩
theorem k_cocts (ht : Text P E.wCBytes 2 14 #[.tmp 4] (c_wCBytes E)) (hB : rowB P E.tB E.tU8 1 = true) (iu : intT P E.tW = some .u32) (ii : intT P E.tI = some .i64) {v : Value} {o : Option (List UInt8)} (hv : OctAt w U v o) (hc : ∀ (n : Nat) U w, n < 4294967296 → Wr1 P E E.wUvarint U [.int .u32 n] (Go.Km.uvar n) w) : Wr1 P E E.wCBytes U [v] (wrBytes true (o.getD [])) w := by
 intro dv xs hown hU hb
 refine CallsV.enter ht (by simp) ?_
 intro a hsz hdf harg
 have e0 := harg 0 dv (by simp)
 have e1 := harg 1 (v) (by simp)
 unfold c_wCBytes
 refine vX (rA (dn ?_))
 have hsl := rB hB
 obtain ⟨ad, cap, hve, hsrc⟩ := oct_src hsl hv hU
 generalize hlo : o.getD [] = l at *
 subst hve
 have hl : l.length ≤ big := by simp only [wrBytes, List.length_append] at hb; omega
 have hw : IntKind.u32.wrap (1 + IntKind.u32.wrap (l.length : Int)) = ((l.length + 1 : Nat) : Int) := by skip; exact wrap_idu32 hl
 have hb2 : xs.length + (Go.Km.uvar (l.length + 1)).length + l.length ≤ big := by simp only [wrBytes, List.length_append, if_true] at hb; omega
 refine vX (rM (rM ?_))
 refine r_len (by assumption) (by (try simp (disch := (try simp only [sP]); omega) only [eV, e1]) <;> (first | rfl | assumption)) ?_
 refine r_conv (by assumption) (by assumption) (by (try simp (disch := (try simp only [sP]); omega) only [eV]) <;> (first | rfl | assumption)) ?_
 refine r_add (by (try simp (disch := (try simp only [sP]); omega) only [eV]) <;> (first | rfl | assumption)) (by (try simp (disch := (try simp only [sP]); omega) only [eV]) <;> (first | rfl | assumption)) ?_
 refine r_call' (args := #[dv, .int .u32 (IntKind.u32.wrap (1 + IntKind.u32.wrap (l.length : Int)))]) ?_ (by rw [hw]; exact hc (l.length + 1) U w (by unfold big at hl; omega) dv xs hown hU (by omega)) ?_
 ·simp only [lM]
  simp (disch := (try simp only [sP]); omega) only [eV, e0]
 intro v' w' hs
 have hU' : U ≤ w'.heap.size := Nat.le_trans hU hs.2.size
 refine rA (dn (vX (rM (rM ?_))))
 refine r_append (sz := 1) (U := U) (m := l.length) (news := l.map bv) hB (by simp (disch := (try simp only [sP]); omega) only [eV]) (by simp (disch := (try simp only [sP]); omega) only [eV, e1]) hs.1 hU' (hsrc _ hs.2) (by simp only [List.length_append]; omega) ?_
 intro v' w2 h1 h2
 rw [show (xs ++ Go.Km.uvar (l.length + 1)).length + l.length = (xs ++ (Go.Km.uvar (l.length + 1) ++ l)).length by simp only [List.length_append]; omega, ← List.map_append, List.append_assoc] at h1
 refine rA (dn (vS (vT ?_)))
 exact ⟨by simp only [dF]; exact hdf, v', rO (by simp (disch := (try simp only [sP]); omega) only [eV]), ⟨h1, hs.2.trans h2⟩⟩
theorem k_len (ht : Text P E.wLen 2 9 #[.tmp 4] (c_wLen E)) (i32 : intT P E.tI32 = some .i32) (ii : intT P E.tI = some .i64) {n : Nat} (hn : n ≤ big) (hc : ∀ n U w, Wr1 P E E.wI32 U [.int .i32 n] (be 4 n) w) : Wr1 P E E.wLen U [.int .i64 n] (wrLen false n) w := by
 intro dv xs hown hU hb
 refine CallsV.enter ht (by simp) ?_
 intro a hsz hdf harg
 have e0 := harg 0 dv (by simp)
 have e1 := harg 1 (.int .i64 n) (by simp)
 unfold c_wLen
 refine vX (rA (dn ?_))
 have hw : IntKind.i32.wrap (n : Int) = n := wrap_id32 hn
 refine vX (rM (rM ?_))
 refine r_conv (by assumption) (by assumption) (by (try simp (disch := (try simp only [sP]); omega) only [eV, e1]) <;> (first | rfl | assumption)) ?_
 refine r_call' (args := #[dv, .int .i32 (IntKind.i32.wrap (n : Int))]) ?_ (by rw [hw]; exact hc _ U w dv xs hown hU hb) ?_
 ·simp only [lM]
  simp (disch := (try simp only [sP]); omega) only [eV, e0]
 intro v' w' hs
 refine rA (dn (vS (vT ?_)))
 exact ⟨by simp only [dF]; exact hdf, v', rO (by simp (disch := (try simp only [sP]); omega) only [eV]), hs⟩
theorem k_clen (ht : Text P E.wCLen 2 10 #[.tmp 4] (c_wCLen E)) (iu : intT P E.tW = some .u32) (ii : intT P E.tI = some .i64) {n : Nat} (hn : n ≤ big) (hc : ∀ (n : Nat) U w, n < 4294967296 → Wr1 P E E.wUvarint U [.int .u32 n] (Go.Km.uvar n) w) : Wr1 P E E.wCLen U [.int .i64 n] (wrLen true n) w := by
 intro dv xs hown hU hb
 refine CallsV.enter ht (by simp) ?_
 intro a hsz hdf harg
 have e0 := harg 0 dv (by simp)
 have e1 := harg 1 (.int .i64 n) (by simp)
 unfold c_wCLen
 refine vX (rA (dn ?_))
 have hw : IntKind.u32.wrap (1 + IntKind.u32.wrap (n : Int)) = ((n + 1 : Nat) : Int) := wrap_idu32 hn
 refine vX (rM (rM ?_))
 refine r_conv (by assumption) (by assumption) (by (try simp (disch := (try simp only [sP]); omega) only [eV, e1]) <;> (first | rfl | assumption)) ?_
 refine r_add (by (try simp (disch := (try simp only [sP]); omega) only [eV]) <;> (first | rfl | assumption)) (by (try simp (disch := (try simp only [sP]); omega) only [eV]) <;> (first | rfl | assumption)) ?_
 refine r_call' (args := #[dv, .int .u32 (IntKind.u32.wrap (1 + IntKind.u32.wrap (n : Int)))]) ?_ (by rw [hw]; exact hc (n + 1) U w (by unfold big at hn; omega) dv xs hown hU hb) ?_
 ·simp only [lM]
  simp (disch := (try simp only [sP]); omega) only [eV, e0]
 intro v' w' hs
 refine rA (dn (vS (vT ?_)))
 exact ⟨by simp only [dF]; exact hdf, v', rO (by simp (disch := (try simp only [sP]); omega) only [eV]), hs⟩
theorem k_nlen (ht : Text P E.wNLen 3 14 #[.tmp 6] (c_wNLen E)) (i32 : intT P E.tI32 = some .i32) (ii : intT P E.tI = some .i64) {n : Nat} {b : Bool} (hn : n ≤ big) (hc : ∀ n U w, Wr1 P E E.wI32 U [.int .i32 n] (be 4 n) w) : Wr1 P E E.wNLen U [.int .i64 n, .bool b] (if b then wrNull false else wrLen false n) w := by
 intro dv xs hown hU hb
 refine CallsV.enter ht (by simp) ?_
 intro a hsz hdf harg
 have e0 := harg 0 dv (by simp)
 have e1 := harg 1 (.int .i64 n) (by simp)
 have e2 := harg 2 (.bool b) (by simp)
 unfold c_wNLen
 refine vX (rA (dn (vS (vX (rM (dn ?_))))))
 refine vS (vC (t := b) (by simp (disch := (try simp only [sP]); omega) only [eV, e2]) ?_ ?_)
 ·intro hbt
  subst hbt
  simp only [if_true] at hb ⊢
  refine vX (rM ?_)
  refine r_call' (args := #[dv, .int .i32 (-1)]) ?_ (hc (-1) U w dv xs hown hU hb) ?_
  ·simp only [lM]
   simp (disch := (try simp only [sP]); omega) only [eV, e0]
  intro v' w' hs
  refine rA (dn (vS (vT ?_)))
  exact ⟨by simp only [dF]; exact hdf, v', rO (by simp (disch := (try simp only [sP]); omega) only [eV]), hs⟩
 ·intro hbt
  subst hbt
  simp only [Bool.false_eq_true, if_false] at hb ⊢
  refine vK (vN ?_)
  have hw : IntKind.i32.wrap (n : Int) = n := wrap_id32 hn
  refine vX (rM (rM ?_))
  refine r_conv (by assumption) (by assumption) (by (try simp (disch := (try simp only [sP]); omega) only [eV, e1]) <;> (first | rfl | assumption)) ?_
  refine r_call' (args := #[dv, .int .i32 (IntKind.i32.wrap (n : Int))]) ?_ (by rw [hw]; exact hc _ U w dv xs hown hU hb) ?_
  ·simp only [lM]
   simp (disch := (try simp only [sP]); omega) only [eV, e0]
  intro v' w' hs
  refine rA (dn (vS (vT ?_)))
  exact ⟨by simp only [dF]; exact hdf, v', rO (by simp (disch := (try simp only [sP]); omega) only [eV]), hs⟩
theorem k_cnlen (ht : Text P E.wCNLen 3 15 #[.tmp 6] (c_wCNLen E)) (iu : intT P E.tW = some .u32) (ii : intT P E.tI = some .i64) {n : Nat} {b : Bool} (hn : n ≤ big) (hc : ∀ (n : Nat) U w, n < 4294967296 → Wr1 P E E.wUvarint U [.int .u32 n] (Go.Km.uvar n) w) : Wr1 P E E.wCNLen U [.int .i64 n, .bool b] (if b then wrNull true else wrLen true n) w := by
 intro dv xs hown hU hb
 refine CallsV.enter ht (by simp) ?_
 intro a hsz hdf harg
 have e0 := harg 0 dv (by simp)
 have e1 := harg 1 (.int .i64 n) (by simp)
 have e2 := harg 2 (.bool b) (by simp)
 unfold c_wCNLen
 refine vX (rA (dn (vS (vX (rM (dn ?_))))))
 refine vS (vC (t := b) (by simp (disch := (try simp only [sP]); omega) only [eV, e2]) ?_ ?_)
 ·intro hbt
  subst hbt
  simp only [if_true] at hb ⊢
  refine vX (rM ?_)
  refine r_call' (args := #[dv, .int .u32 0]) ?_ (hc 0 U w (by decide) dv xs hown hU hb) ?_
  ·simp only [lM]
   simp (disch := (try simp only [sP]); omega) only [eV, e0]
  intro v' w' hs
  refine rA (dn (vS (vT ?_)))
  exact ⟨by simp only [dF]; exact hdf, v', rO (by simp (disch := (try simp only [sP]); omega) only [eV]), hs⟩
 ·intro hbt
  subst hbt
  simp only [Bool.false_eq_true, if_false] at hb ⊢
  refine vK (vN ?_)
  have hw : IntKind.u32.wrap (1 + IntKind.u32.wrap (n : Int)) = ((n + 1 : Nat) : Int) := wrap_idu32 hn
  refine vX (rM (rM ?_))
  refine r_conv (by assumption) (by assumption) (by (try simp (disch := (try simp only [sP]); omega) only [eV, e1]) <;> (first | rfl | assumption)) ?_
  refine r_add (by (try simp (disch := (try simp only [sP]); omega) only [eV]) <;> (first | rfl | assumption)) (by (try simp (disch := (try simp only [sP]); omega) only [eV]) <;> (first | rfl | assumption)) ?_
  refine r_call' (args := #[dv, .int .u32 (IntKind.u32.wrap (1 + IntKind.u32.wrap (n : Int)))]) ?_ (by rw [hw]; exact hc (n + 1) U w (by unfold big at hn; omega) dv xs hown hU hb) ?_
  ·simp only [lM]
   simp (disch := (try simp only [sP]); omega) only [eV, e0]
  intro v' w' hs
  refine rA (dn (vS (vT ?_)))
  exact ⟨by simp only [dF]; exact hdf, v', rO (by simp (disch := (try simp only [sP]); omega) only [eV]), hs⟩
theorem k_nocts (ht : Text P E.wNBytes 2 12 #[.tmp 4] (c_wNBytes E)) (hB : rowB P E.tB E.tU8 1 = true) {v : Value} {o : Option (List UInt8)} (hv : OctAt w U v o) (hn : ∀ n U w, Wr1 P E E.wI32 U [.int .i32 n] (be 4 n) w) (hc : ∀ v o U w, OctAt w U v o → Wr1 P E E.wBytes U [v] (wrBytes false (o.getD [])) w) : Wr1 P E E.wNBytes U [v] (wrNBytes false o) w := by
 intro dv xs hown hU hb
 refine CallsV.enter ht (by simp) ?_
 intro a hsz hdf harg
 have e0 := harg 0 dv (by simp)
 have e1 := harg 1 (v) (by simp)
 unfold c_wNBytes
 refine vX (rA (dn ?_))
 have hsl := rB hB
 refine vS (vX (rM ?_))
 cases o with
 | none =>
  simp only [OctAt] at hv
  subst hv
  refine r_eqNil (ad := none) (len := 0) (cap := 0) hsl (by simp (disch := (try simp only [sP]); omega) only [eV, e1]) ?_
  refine dn ?_
  refine vS (vC (t := true) (by (try simp (disch := (try simp only [sP]); omega) only [eV]) <;> (first | rfl | assumption)) ?_ (fun h => by cases h))
  intro _
  refine vX (rM ?_)
  refine r_call' (args := #[dv, .int .i32 (-1)]) ?_ (hn (-1) U w dv xs hown hU hb) ?_
  ·simp only [lM]
   simp (disch := (try simp only [sP]); omega) only [eV, e0]
  intro v' w' hs
  refine rA (dn (vS (vT ?_)))
  exact ⟨by simp only [dF]; exact hdf, v', rO (by simp (disch := (try simp only [sP]); omega) only [eV]), hs⟩
 | some l =>
  have hv0 := hv
  obtain ⟨q, o, cap, hve, hq, hcl⟩ := hv
  refine r_eqNil (ad := some ⟨q, o, none⟩) (len := l.length) (cap := cap) hsl (by simp (disch := (try simp only [sP]); omega) only [eV, e1, hve]) ?_
  refine dn ?_
  refine vS (vC (t := false) (by (try simp (disch := (try simp only [sP]); omega) only [eV]) <;> (first | rfl | assumption)) (fun h => by cases h) ?_)
  intro _
  refine vK (vN (vX (rM (rM ?_))))
  refine r_call' (args := #[dv, v]) ?_ (hc v (some l) U w hv0 dv xs hown hU hb) ?_
  ·simp only [lM]
   simp (disch := (try simp only [sP]); omega) only [eV, e0, e1]
  intro v' w' hs
  refine rA (dn (vS (vT ?_)))
  exact ⟨by simp only [dF]; exact hdf, v', rO (by simp (disch := (try simp only [sP]); omega) only [eV]), hs⟩
theorem k_cnocts (ht : Text P E.wCNBytes 2 12 #[.tmp 4] (c_wCNBytes E)) (hB : rowB P E.tB E.tU8 1 = true) {v : Value} {o : Option (List UInt8)} (hv : OctAt w U v o) (hn : ∀ (n : Nat) U w, n < 4294967296 → Wr1 P E E.wUvarint U [.int .u32 n] (Go.Km.uvar n) w) (hc : ∀ v o U w, OctAt w U v o → Wr1 P E E.wCBytes U [v] (wrBytes true (o.getD [])) w) : Wr1 P E E.wCNBytes U [v] (wrNBytes true o) w := by
 intro dv xs hown hU hb
 refine CallsV.enter ht (by simp) ?_
 intro a hsz hdf harg
 have e0 := harg 0 dv (by simp)
 have e1 := harg 1 (v) (by simp)
 unfold c_wCNBytes
 refine vX (rA (dn ?_))
 have hsl := rB hB
 refine vS (vX (rM ?_))
 cases o with
 | none =>
  simp only [OctAt] at hv
  subst hv
  refine r_eqNil (ad := none) (len := 0) (cap := 0) hsl (by simp (disch := (try simp only [sP]); omega) only [eV, e1]) ?_
  refine dn ?_
  refine vS (vC (t := true) (by (try simp (disch := (try simp only [sP]); omega) only [eV]) <;> (first | rfl | assumption)) ?_ (fun h => by cases h))
  intro _
  refine vX (rM ?_)
  refine r_call' (args := #[dv, .int .u32 0]) ?_ (hn 0 U w (by decide) dv xs hown hU hb) ?_
  ·simp only [lM]
   simp (disch := (try simp only [sP]); omega) only [eV, e0]
  intro v' w' hs
  refine rA (dn (vS (vT ?_)))
  exact ⟨by simp only [dF]; exact hdf, v', rO (by simp (disch := (try simp only [sP]); omega) only [eV]), hs⟩
 | some l =>
  have hv0 := hv
  obtain ⟨q, o, cap, hve, hq, hcl⟩ := hv
  refine r_eqNil (ad := some ⟨q, o, none⟩) (len := l.length) (cap := cap) hsl (by simp (disch := (try simp only [sP]); omega) only [eV, e1, hve]) ?_
  refine dn ?_
  refine vS (vC (t := false) (by (try simp (disch := (try simp only [sP]); omega) only [eV]) <;> (first | rfl | assumption)) (fun h => by cases h) ?_)
  intro _
  refine vK (vN (vX (rM (rM ?_))))
  refine r_call' (args := #[dv, v]) ?_ (hc v (some l) U w hv0 dv xs hown hU hb) ?_
  ·simp only [lM]
   simp (disch := (try simp only [sP]); omega) only [eV, e0, e1]
  intro v' w' hs
  refine rA (dn (vS (vT ?_)))
  exact ⟨by simp only [dF]; exact hdf, v', rO (by simp (disch := (try simp only [sP]); omega) only [eV]), hs⟩
theorem k_nstr (ht : Text P E.wNStr 2 14 #[.tmp 4] (c_wNStr E)) {te : TypeId} (hp9 : P.underlying E.tPStr = some (.pointer te)) (ho : oneT P E.tStr = true) {v : Value} {o : Option (List UInt8)} (hv : PStrAt w U v o) (hn : ∀ n U w, Wr1 P E E.wI16 U [.int .i16 n] (be 2 n) w) (hc : ∀ l U w, Wr1 P E E.wStr U [.string ⟨l.toArray⟩] (wrStr false l) w) : Wr1 P E E.wNStr U [v] (wrNStr false o) w := by
 intro dv xs hown hU hb
 refine CallsV.enter ht (by simp) ?_
 intro a hsz hdf harg
 have e0 := harg 0 dv (by simp)
 have e1 := harg 1 (v) (by simp)
 unfold c_wNStr
 refine vX (rA (dn (vS (vX (rM ?_)))))
 cases o with
 | none =>
  simp only [PStrAt] at hv
  subst hv
  refine r_eqNilP (ad := none) hp9 (by simp (disch := (try simp only [sP]); omega) only [eV, e1]) ?_
  refine dn ?_
  refine vS (vC (t := true) (by (try simp (disch := (try simp only [sP]); omega) only [eV]) <;> (first | rfl | assumption)) ?_ (fun h => by cases h))
  intro _
  refine vX (rM ?_)
  refine r_call' (args := #[dv, .int .i16 (-1)]) ?_ (hn (-1) U w dv xs hown hU hb) ?_
  ·simp only [lM]
   simp (disch := (try simp only [sP]); omega) only [eV, e0]
  intro v' w' hs
  refine rA (dn (vS (vT ?_)))
  exact ⟨by simp only [dF]; exact hdf, v', rO (by simp (disch := (try simp only [sP]); omega) only [eV]), hs⟩
 | some l =>
  obtain ⟨q, hve, hq, hcl⟩ := hv
  refine r_eqNilP (ad := some ⟨q, 0, none⟩) hp9 (by simp (disch := (try simp only [sP]); omega) only [eV, e1, hve]) ?_
  refine dn ?_
  refine vS (vC (t := false) (by (try simp (disch := (try simp only [sP]); omega) only [eV]) <;> (first | rfl | assumption)) (fun h => by cases h) ?_)
  intro _
  refine vK (vN (vX (rM (rM ?_))))
  refine r_nil (ad := ⟨q, 0, none⟩) (by simp (disch := (try simp only [sP]); omega) only [eV, e1, hve]) ?_
  refine rL (b := q) (o := 0) (by simp (disch := (try simp only [sP]); omega) only [eV]) ho hcl ?_
  refine r_call' (args := #[dv, .string ⟨l.toArray⟩]) ?_ (hc l U w dv xs hown hU hb) ?_
  ·simp only [lM]
   simp (disch := (try simp only [sP]); omega) only [eV, e0]
  intro v' w' hs
  refine rA (dn (vS (vT ?_)))
  exact ⟨by simp only [dF]; exact hdf, v', rO (by simp (disch := (try simp only [sP]); omega) only [eV]), hs⟩
theorem k_cnstr (ht : Text P E.wCNStr 2 14 #[.tmp 4] (c_wCNStr E)) {te : TypeId} (hp9 : P.underlying E.tPStr = some (.pointer te)) (ho : oneT P E.tStr = true) {v : Value} {o : Option (List UInt8)} (hv : PStrAt w U v o) (hn : ∀ (n : Nat) U w, n < 4294967296 → Wr1 P E E.wUvarint U [.int .u32 n] (Go.Km.uvar n) w) (hc : ∀ l U w, Wr1 P E E.wCStr U [.string ⟨l.toArray⟩] (wrStr true l) w) : Wr1 P E E.wCNStr U [v] (wrNStr true o) w := by
 intro dv xs hown hU hb
 refine CallsV.enter ht (by simp) ?_
 intro a hsz hdf harg
 have e0 := harg 0 dv (by simp)
 have e1 := harg 1 (v) (by simp)
 unfold c_wCNStr
 refine vX (rA (dn (vS (vX (rM ?_)))))
 cases o with
 | none =>
  simp only [PStrAt] at hv
  subst hv
  refine r_eqNilP (ad := none) hp9 (by simp (disch := (try simp only [sP]); omega) only [eV, e1]) ?_
  refine dn ?_
  refine vS (vC (t := true) (by (try simp (disch := (try simp only [sP]); omega) only [eV]) <;> (first | rfl | assumption)) ?_ (fun h => by cases h))
  intro _
  refine vX (rM ?_)
  refine r_call' (args := #[dv, .int .u32 0]) ?_ (hn 0 U w (by decide) dv xs hown hU hb) ?_
  ·simp only [lM]
   simp (disch := (try simp only [sP]); omega) only [eV, e0]
  intro v' w' hs
  refine rA (dn (vS (vT ?_)))
  exact ⟨by simp only [dF]; exact hdf, v', rO (by simp (disch := (try simp only [sP]); omega) only [eV]), hs⟩
 | some l =>
  obtain ⟨q, hve, hq, hcl⟩ := hv
  refine r_eqNilP (ad := some ⟨q, 0, none⟩) hp9 (by simp (disch := (try simp only [sP]); omega) only [eV, e1, hve]) ?_
  refine dn ?_
  refine vS (vC (t := false) (by (try simp (disch := (try simp only [sP]); omega) only [eV]) <;> (first | rfl | assumption)) (fun h => by cases h) ?_)
  intro _
  refine vK (vN (vX (rM (rM ?_))))
  refine r_nil (ad := ⟨q, 0, none⟩) (by simp (disch := (try simp only [sP]); omega) only [eV, e1, hve]) ?_
  refine rL (b := q) (o := 0) (by simp (disch := (try simp only [sP]); omega) only [eV]) ho hcl ?_
  refine r_call' (args := #[dv, .string ⟨l.toArray⟩]) ?_ (hc l U w dv xs hown hU hb) ?_
  ·simp only [lM]
   simp (disch := (try simp only [sP]); omega) only [eV, e0]
  intro v' w' hs
  refine rA (dn (vS (vT ?_)))
  exact ⟨by simp only [dF]; exact hdf, v', rO (by simp (disch := (try simp only [sP]); omega) only [eV]), hs⟩
theorem k_uuid (ht : Text P E.wUuid 2 8 #[.tmp 4] (c_wUuid E)) (hB : rowB P E.tB E.tU8 1 = true) {l : List UInt8} (hl : l.length = 16) (hu : P.underlying E.tUuid = some (.array 16 E.tU8)) (hu8 : (P.info? E.tU8).map (·.size) = some 1) : Wr1 P E E.wUuid U [.agg (l.map bv).toArray] l w := by
 intro dv xs hown hU hb
 refine CallsV.enter ht (by simp) ?_
 intro a hsz hdf harg
 have e0 := harg 0 dv (by simp)
 have e1 := harg 1 (.agg (l.map bv).toArray) (by simp)
 unfold c_wUuid
 refine vX ?_
 refine r_box (v := .agg (l.map bv).toArray) (by simp (disch := (try simp only [sP]); omega) only [eV, e1]) ?_
 refine rA (dn (vX (rM ?_)))
 refine r_sliceArr (b := w.heap.size) (n := 16) hu hu8 (by simp (disch := (try simp only [sP]); omega) only [eV]) ?_
 refine r_append (sz := 1) (U := U) (v := dv) (n := xs.length) (xs := xs.map bv) (u := .slice (some ⟨w.heap.size, 0, none⟩) 16 16) (m := 16) (news := l.map bv) hB (by simp (disch := (try simp only [sP]); omega) only [eV, e0]) (by simp (disch := (try simp only [sP]); omega) only [eV]) (hown.alloc _) (by simp; omega) ?_ (by omega) ?_
 ·refine src_cells (rB hB) ?_ (by simp [hl]) (bv_one l)
  intro j u hu
  rw [Nat.zero_add]
  exact cells_new w _ _ (by simpa [Value.cells] using hu)
 intro v' w' h1 h2
 rw [show xs.length + 16 = (xs ++ l).length by simp [hl], ← List.map_append] at h1
 refine rA (dn (vS (vT ?_)))
 exact ⟨by simp only [dF]; exact hdf, v', rO (by simp (disch := (try simp only [sP]); omega) only [eV]), ⟨h1, ((Below.refl U w).alloc (o := .cells _ E.tUuid) hU).trans h2⟩⟩
end
end Go.Km
namespace Go.Km
open Go Go.RowKit
attribute [local irreducible] vc rO_ runG runS runD
def BitLen (n k : Nat) : Prop := n < 2 ^ k ∧ (k = 0 ∨ 2 ^ (k - 1) ≤ n)
def tab8 : List UInt8 := [0, 1, 2, 2, 3, 3, 3, 3, 4, 4, 4, 4, 4, 4, 4, 4, 5, 5, 5, 5, 5, 5, 5, 5, 5, 5, 5, 5, 5, 5, 5, 5, 6, 6, 6, 6, 6, 6, 6, 6, 6, 6, 6, 6, 6, 6, 6, 6, 6, 6, 6, 6, 6, 6, 6, 6, 6, 6, 6, 6, 6, 6, 6, 6, 7, 7, 7, 7, 7, 7, 7, 7, 7, 7, 7, 7, 7, 7, 7, 7, 7, 7, 7, 7, 7, 7, 7, 7, 7, 7, 7, 7, 7, 7, 7, 7, 7, 7, 7, 7, 7, 7, 7, 7, 7, 7, 7, 7, 7, 7, 7, 7, 7, 7, 7, 7, 7, 7, 7, 7, 7, 7, 7, 7, 7, 7, 7, 7, 8, 8, 8, 8, 8, 8, 8, 8, 8, 8, 8, 8, 8, 8, 8, 8, 8, 8, 8, 8, 8, 8, 8, 8, 8, 8, 8, 8, 8, 8, 8, 8, 8, 8, 8, 8, 8, 8, 8, 8, 8, 8, 8, 8, 8, 8, 8, 8, 8, 8, 8, 8, 8, 8, 8, 8, 8, 8, 8, 8, 8, 8, 8, 8, 8, 8, 8, 8, 8, 8, 8, 8, 8, 8, 8, 8, 8, 8, 8, 8, 8, 8, 8, 8, 8, 8, 8, 8, 8, 8, 8, 8, 8, 8, 8, 8, 8, 8, 8, 8, 8, 8, 8, 8, 8, 8, 8, 8, 8, 8, 8, 8, 8, 8, 8, 8, 8, 8, 8, 8, 8, 8, 8, 8, 8, 8, 8, 8]
def tabU : List UInt8 := [1, 1, 1, 1, 1, 1, 1, 1, 2, 2, 2, 2, 2, 2, 2, 3, 3, 3, 3, 3, 3, 3, 4, 4, 4, 4, 4, 4, 4, 5, 5, 5, 5, 5, 5, 5, 6, 6, 6, 6, 6, 6, 6, 7, 7, 7, 7, 7, 7, 7, 8, 8, 8, 8, 8, 8, 8, 9, 9, 9, 9, 9, 9, 9, 10, 0, 0, 0, 0, 0, 0, 0, 0, 0, 0, 0, 0, 0, 0, 0, 0, 0, 0, 0, 0, 0, 0, 0, 0, 0, 0, 0, 0, 0, 0, 0, 0, 0, 0, 0, 0, 0, 0, 0, 0, 0, 0, 0, 0, 0, 0, 0, 0, 0, 0, 0, 0, 0, 0, 0, 0, 0, 0, 0, 0, 0, 0, 0, 0, 0, 0, 0, 0, 0, 0, 0, 0, 0, 0, 0, 0, 0, 0, 0, 0, 0, 0, 0, 0, 0, 0, 0, 0, 0, 0, 0, 0, 0, 0, 0, 0, 0, 0, 0, 0, 0, 0, 0, 0, 0, 0, 0, 0, 0, 0, 0, 0, 0, 0, 0, 0, 0, 0, 0, 0, 0, 0, 0, 0, 0, 0, 0, 0, 0, 0, 0, 0, 0, 0, 0, 0, 0, 0, 0, 0, 0, 0, 0, 0, 0, 0, 0, 0, 0, 0, 0, 0, 0, 0, 0, 0, 0, 0, 0, 0, 0, 0, 0, 0, 0, 0, 0, 0, 0, 0, 0, 0, 0, 0, 0, 0, 0, 0, 0, 0, 0, 0, 0, 0, 0, 0, 0, 0, 0, 0, 0]
theorem tab_at (T : List UInt8) (h' : (List.range 256).all (fun x => match T[x]? with | some b => decide (x < 2 ^ b.toNat) && (decide (b.toNat = 0) || decide (2 ^ (b.toNat - 1) ≤ x)) && decide (b.toNat ≤ 8) | none => false) = true) (x : Nat) (hx : x < 256) :
  ∃ b, (⟨T.toArray⟩ : ByteArray)[x]? = some b ∧ BitLen x b.toNat ∧ b.toNat ≤ 8 := by
 have h2 := List.all_eq_true.1 h' x (List.mem_range.2 hx)
 cases hb : T[x]? with
 | none => rw [hb] at h2; cases h2
 | some b =>
  rw [hb] at h2
  simp only [Bool.and_eq_true, Bool.or_eq_true, decide_eq_true_eq] at h2
  refine ⟨b, ?_, h2.1, h2.2⟩
  have hs : x < T.length := by
   rcases Nat.lt_or_ge x T.length with h | h
   ·exact h
   ·rw [List.getElem?_eq_none h] at hb; cases hb
  rw [getElem?_pos _ _ (by simpa [ByteArray.size] using hs)]
  rw [List.getElem?_eq_getElem hs] at hb
  exact hb
theorem tab8_at (x : Nat) (hx : x < 256) : ∃ b, (⟨tab8.toArray⟩ : ByteArray)[x]? = some b ∧ BitLen x b.toNat ∧ b.toNat ≤ 8 := tab_at tab8 (by kernel_rfl) x hx
theorem tabV_at (T : List UInt8) (h' : (List.range 33).all (fun k => match T[k]? with | some b => decide (b.toNat = if k ≤ 7 then 1 else if k ≤ 14 then 2 else if k ≤ 21 then 3 else if k ≤ 28 then 4 else 5) | none => false) = true) (k : Nat) (hk : k ≤ 32) :
  ∃ b, (⟨T.toArray⟩ : ByteArray)[k]? = some b ∧ b.toNat = if k ≤ 7 then 1 else if k ≤ 14 then 2 else if k ≤ 21 then 3 else if k ≤ 28 then 4 else 5 := by
 have h2 := List.all_eq_true.1 h' k (List.mem_range.2 (by omega))
 cases hb : T[k]? with
 | none => rw [hb] at h2; cases h2
 | some b =>
  rw [hb] at h2
  refine ⟨b, ?_, of_decide_eq_true h2⟩
  have hs : k < T.length := by
   rcases Nat.lt_or_ge k T.length with h | h
   ·exact h
   ·rw [List.getElem?_eq_none h] at hb; cases hb
  rw [getElem?_pos _ _ (by simpa [ByteArray.size] using hs)]
  rw [List.getElem?_eq_getElem hs] at hb
  exact hb
theorem tabU_at (k : Nat) (hk : k ≤ 32) : ∃ b, (⟨tabU.toArray⟩ : ByteArray)[k]? = some b ∧ b.toNat = if k ≤ 7 then 1 else if k ≤ 14 then 2 else if k ≤ 21 then 3 else if k ≤ 28 then 4 else 5 := tabV_at tabU (by kernel_rfl) k hk
def uvl (n : Nat) : Nat := if n < 128 then 1 else if n < 16384 then 2 else if n < 2097152 then 3 else if n < 268435456 then 4 else 5
theorem uvl_spec {n : Nat} (hn : n < 4294967296) : (uvl n = 1 ∧ n < 128) ∨ (uvl n = 2 ∧ 128 ≤ n ∧ n < 16384) ∨ (uvl n = 3 ∧ 16384 ≤ n ∧ n < 2097152) ∨ (uvl n = 4 ∧ 2097152 ≤ n ∧ n < 268435456) ∨ (uvl n = 5 ∧ 268435456 ≤ n ∧ n < 4294967296) := by
 unfold uvl
 by_cases h1 : n < 128
 ·rw [if_pos h1]; omega
 rw [if_neg h1]
 by_cases h2 : n < 16384
 ·rw [if_pos h2]; omega
 rw [if_neg h2]
 by_cases h3 : n < 2097152
 ·rw [if_pos h3]; omega
 rw [if_neg h3]
 by_cases h4 : n < 268435456
 ·rw [if_pos h4]; omega
 rw [if_neg h4]; omega
theorem uvl_bit {n k : Nat} (h : BitLen n k) (hk : k ≤ 32) : (if k ≤ 7 then 1 else if k ≤ 14 then 2 else if k ≤ 21 then 3 else if k ≤ 28 then 4 else 5) = uvl n := by
 obtain ⟨h1, h2⟩ := h
 have hp : ∀ i j : Nat, i ≤ j → (2 : Nat) ^ i ≤ 2 ^ j := fun i j h => Nat.pow_le_pow_right (by decide) h
 unfold uvl
 by_cases h7 : k ≤ 7
 ·have := hp k 7 h7
  simp [h7, show n < 128 by omega]
 ·have a1 := hp 7 (k - 1) (by omega)
  by_cases h14 : k ≤ 14
  ·have := hp k 14 h14
   simp [h7, h14, show ¬ n < 128 by omega, show n < 16384 by omega]
  ·have a2 := hp 14 (k - 1) (by omega)
   by_cases h21 : k ≤ 21
   ·have := hp k 21 h21
    simp [h7, h14, h21, show ¬ n < 128 by omega, show ¬ n < 16384 by omega, show n < 2097152 by omega]
   ·have a3 := hp 21 (k - 1) (by omega)
    by_cases h28 : k ≤ 28
    ·have := hp k 28 h28
     simp [h7, h14, h21, h28, show ¬ n < 128 by omega, show ¬ n < 16384 by omega, show ¬ n < 2097152 by omega, show n < 268435456 by omega]
    ·have a4 := hp 28 (k - 1) (by omega)
     simp [h7, h14, h21, h28, show ¬ n < 128 by omega, show ¬ n < 16384 by omega, show ¬ n < 2097152 by omega, show ¬ n < 268435456 by omega]
theorem bit_shift {n b m L : Nat} (hb : b ≤ 24) (hm : m = n / 2 ^ b) (hL : BitLen m L) (h8 : L ≤ 8) (h1 : b = 0 ∨ 1 ≤ m) : BitLen n (b + L) := by
 obtain ⟨h2, h3⟩ := hL
 have hpos : 0 < 2 ^ b := Nat.pow_pos (by decide)
 refine ⟨?_, ?_⟩
 ·rw [Nat.pow_add, Nat.mul_comm]
  rw [hm] at h2
  exact (Nat.div_lt_iff_lt_mul hpos).1 h2
 ·rcases h3 with h3 | h3
  ·subst h3
   rw [Nat.pow_zero] at h2
   rcases h1 with h1 | h1
   ·left; omega
   ·omega
  ·by_cases hL0 : L = 0
   ·subst hL0
    rw [Nat.pow_zero] at h2
    rcases h1 with h1 | h1
    ·left; omega
    ·omega
   ·right
    rw [show b + L - 1 = (L - 1) + b by omega, Nat.pow_add]
    rw [hm] at h3
    exact (Nat.le_div_iff_mul_le hpos).1 h3
def noG (l : List Oper) : Bool := l.all fun o => o.guard.isNone
theorem vc_rg' {P : Program} {Q : Exit → Act → World → Prop} {a : Act} {w : World} {l : List Oper} (hg : noG l = true) (h : rO_ P Q l a w) : vc P (rg l) Q a w :=
 vR (fun o ho => by have := List.all_eq_true.1 hg o ho; simpa using this) h
section
variable {P : Program} {a : Act} {w : World} {r : List Oper} {Q : Exit → Act → World → Prop}
theorem r_andN {d xt x c yt ty p af g} {n : Nat} (hx : a.eval x = .int .u32 (n : Int)) (hc : c = .const (.int .u32 127)) (hn : n < 4294967296) (h : rO_ P Q r (a.put (some d) (.int .u32 ((n % 128 : Nat) : Int))) w) : rO_ P Q (⟨some d, .binOp .and xt x c yt, ty, p, af, g⟩ :: r) a w := by
 subst hc
 refine r_bits (v := .int .u32 ((n % 128 : Nat) : Int)) hx rfl (by simp) ?_ h
 have := u32_and_nat n 127 hn (by decide)
 rw [show n &&& 127 = n % 128 from Nat.and_two_pow_sub_one_eq_mod n 7] at this
 show (pure (Value.int .u32 (bits .and .u32 (n : Int) 127)) : Sem Value) = _
 rw [show (127 : Int) = ((127 : Nat) : Int) from rfl, this]
theorem r_orN {d xt x c yt ty p af g} {n : Nat} (hx : a.eval x = .int .u32 (n : Int)) (hc : c = .const (.int .u32 128)) (hn : n < 128) (h : rO_ P Q r (a.put (some d) (.int .u32 ((n + 128 : Nat) : Int))) w) : rO_ P Q (⟨some d, .binOp .or xt x c yt, ty, p, af, g⟩ :: r) a w := by
  subst hc
  refine r_bits (v := .int .u32 ((n + 128 : Nat) : Int)) hx rfl (by simp) ?_ h
  have := u32_or_nat n 128 (by omega) (by decide)
  rw [show n ||| 128 = n + 128 by have : ∀ n, n < 128 → n ||| 128 = n + 128 := by decide
                                  exact this n hn] at this
  show (pure (Value.int .u32 (bits .or .u32 (n : Int) 128)) : Sem Value) = _
  rw [show (128 : Int) = ((128 : Nat) : Int) from rfl, this]
theorem r_shrN {d xt x c yt ty p af g} {n k mm : Nat} (hx : a.eval x = .int .u32 (n : Int)) (hc : c = .const (.int .u64 (k : Int))) (hm : 2 ^ (min k 32) = mm) (h : rO_ P Q r (a.put (some d) (.int .u32 ((n / mm : Nat) : Int))) w) : rO_ P Q (⟨some d, .binOp .shr xt x c yt, ty, p, af, g⟩ :: r) a w := by
 subst hc
 subst hm
 refine r_shr hx rfl (by simp) ?_
 have : (n : Int).fdiv (2 ^ (min ((k : Int).toNat) IntKind.u32.bits)) = ((n / 2 ^ (min k 32) : Nat) : Int) := by
  rw [Int.fdiv_eq_ediv_of_nonneg _ (Int.le_of_lt (Int.pow_pos (by decide)))]
  simp [IntKind.bits]
 rw [this]
 exact h
end
section
variable {P : Program} {E : Env} {w : World} {U : Nat}
set_option maxRecDepth 20000 in
theorem k_len32 (ht : Text P E.len32 1 19 #[.tmp 2] (c_len32 E)) (i8 : intT P E.tU8 = some .u8) (iu : intT P E.tW = some .u32) (ii : intT P E.tI = some .i64) (hs9 : P.underlying E.tStr = some .string) {n : Nat} (hn : n < 4294967296) :
  CallsV P E.len32 #[.int .u32 n] w fun v w' => (∃ k : Nat, v = .int .i64 k ∧ k ≤ 32 ∧ BitLen n k) ∧ w' = w := by
 refine CallsV.enter ht (by simp) ?_
 intro a hsz hdf harg
 have e0 := harg 0 (.int .u32 n) (by simp)
 unfold c_len32
 refine vX (rA (dn ?_))
 have t2 : ∀ (A : Act) (b m : Nat), A.tmps.size = 19 → A.defers = [] → A.eval (.tmp 0) = .int .u32 (m : Int) → A.eval (.tmp 2) = .int .i64 (b : Int) → b ≤ 24 → m = n / 2 ^ b → m < 256 → (b = 0 ∨ 1 ≤ m) →
   vc P (sq [(rg [(oQ 13 (.move (.tmp 2)) E.tI), (oQ 14 (.move (.tmp 0)) E.tW), (oQ 15 (.convert E.tW E.tU8 (.tmp 14)) E.tU8), (oQ 16 (.index E.tStr (.const (.string ⟨tab8.toArray⟩)) (.tmp 15)) E.tU8),
    (oQ 17 (.convert E.tU8 E.tI (.tmp 16)) E.tI), (oQ 18 (.binOp .add E.tI (.tmp 13) (.tmp 17) E.tI) E.tI), (oQ 2 (.assign (.tmp 18)) E.tI)]), .ret]) (Out P #[.tmp 2] fun v w' => (∃ k : Nat, v = .int .i64 k ∧ k ≤ 32 ∧ BitLen n k) ∧ w' = w) A w := by
  intro A b m hs hd h0 h2 hb hm h256 hb1
  obtain ⟨L, hL, hbl, hL8⟩ := tab8_at m h256
  refine vX (rM (rM ?_))
  refine r_conv (by assumption) (by assumption) (by (try simp (disch := (try simp only [sP]); omega) only [eV, h0]) <;> (first | rfl | assumption)) ?_
  refine r_indexStr (k := .u8) (j := m) (b := L) (s := ⟨tab8.toArray⟩) hs9 (eval_const _ _) ?_ hL ?_
  ·simp (disch := (try simp only [sP]); omega) only [eV]
   rw [wrap8]
   congr 1
   omega
  refine r_conv (by assumption) (by assumption) (by (try simp (disch := (try simp only [sP]); omega) only [eV]) <;> (first | rfl | assumption)) ?_
  refine r_add (k := .i64) (m := b) (n := (L.toNat : Int)) (by simp (disch := (try simp only [sP]); omega) only [eV, h2]) ?_ ?_
  ·simp (disch := (try simp only [sP]); omega) only [eV]
   rw [wrap_i64 (by omega) (by omega)]
  refine rA (dn (vS (vT ?_)))
  refine ⟨by simp only [dF]; exact hd, .int .i64 ((b + L.toNat : Nat) : Int), rO ?_, ⟨b + L.toNat, rfl, by omega, bit_shift hb hm hbl hL8 hb1⟩, rfl⟩
  simp (disch := (try simp only [sP]); omega) only [eV]
  rw [wrap_i64 (by omega) (by omega)]
  simp
 have t1 : ∀ (A : Act) (b m : Nat), A.tmps.size = 19 → A.defers = [] → A.eval (.tmp 0) = .int .u32 (m : Int) → A.eval (.tmp 2) = .int .i64 (b : Int) → (b = 0 ∨ b = 16) → m = n / 2 ^ b → m < 65536 → (b = 0 ∨ 1 ≤ m) →
   vc P (sq (sq [(rg [(oQ 7 (.move (.tmp 0)) E.tW), (oQ 8 (.binOp .geq E.tW (.tmp 7) (.const (.int .u32 256)) E.tW) E.tO)]),
    (.cond (.tmp 8) (sq [(rg [(oQ 9 (.move (.tmp 0)) E.tW), (oQ 10 (.binOp .shr E.tW (.tmp 9) (.const (.int .u64 8)) E.tUint) E.tW), (oQ 0 (.assign (.tmp 10)) E.tW)]),
     (rg [(oQ 11 (.move (.tmp 2)) E.tI), (oQ 12 (.binOp .add E.tI (.tmp 11) (.const (.int .i64 8)) E.tI) E.tI), (oQ 2 (.assign (.tmp 12)) E.tI)])]) .skip)] ::
    [(rg [(oQ 13 (.move (.tmp 2)) E.tI), (oQ 14 (.move (.tmp 0)) E.tW), (oQ 15 (.convert E.tW E.tU8 (.tmp 14)) E.tU8), (oQ 16 (.index E.tStr (.const (.string ⟨tab8.toArray⟩)) (.tmp 15)) E.tU8),
    (oQ 17 (.convert E.tU8 E.tI (.tmp 16)) E.tI), (oQ 18 (.binOp .add E.tI (.tmp 13) (.tmp 17) E.tI) E.tI), (oQ 2 (.assign (.tmp 18)) E.tI)]), .ret])) (Out P #[.tmp 2] fun v w' => (∃ k : Nat, v = .int .i64 k ∧ k ≤ 32 ∧ BitLen n k) ∧ w' = w) A w := by
  intro A b m hs hd h0 h2 hb hm h16 hb1
  refine vS (vX (rM ?_))
  refine r_geq (by (try simp (disch := (try simp only [sP]); omega) only [eV, h0]) <;> (first | rfl | assumption)) (by (try simp (disch := (try simp only [sP]); omega) only [eV, h0]) <;> (first | rfl | assumption)) ?_
  refine dn ?_
  refine vS (vC (t := decide ((m : Int) ≥ 256)) (by (try simp (disch := (try simp only [sP]); omega) only [eV]) <;> (first | rfl | assumption)) ?_ ?_)
  ·intro hge
   simp only [decide_eq_true_eq] at hge
   refine vX (rM ?_)
   refine r_shrN (n := m) (k := 8) (mm := 256) (by simp (disch := (try simp only [sP]); omega) only [eV, h0]) rfl (by decide) ?_
   refine rA (dn (vX (rM ?_)))
   refine r_add (by (try simp (disch := (try simp only [sP]); omega) only [eV, h2]) <;> (first | rfl | assumption)) (by (try simp (disch := (try simp only [sP]); omega) only [eV, h2]) <;> (first | rfl | assumption)) ?_
   refine rA (dn (vN (vN ?_)))
   refine t2 _ (b + 8) (m / 256) (by simp only [zP]; exact hs) (by simp only [dF]; exact hd) (by (try simp (disch := (try simp only [sP]); omega) only [eV]) <;> (first | rfl | assumption)) ?_ (by omega) ?_ (by omega) (by omega)
   ·simp (disch := (try simp only [sP]); omega) only [eV]
    rw [wrap_i64 (by omega) (by omega)]
    rfl
   ·rw [hm, Nat.pow_add, Nat.div_div_eq_div_mul]
  ·intro hlt
   simp only [decide_eq_false_iff_not] at hlt
   refine vK (vN ?_)
   exact t2 _ b m (by simp only [zP]; exact hs) (by simp only [dF]; exact hd) (by simp (disch := (try simp only [sP]); omega) only [eV, h0]) (by simp (disch := (try simp only [sP]); omega) only [eV, h2]) (by omega) hm (by omega) hb1
 refine vS (vX (rM ?_))
 refine r_geq (by (try simp (disch := (try simp only [sP]); omega) only [eV, e0]) <;> (first | rfl | assumption)) (by (try simp (disch := (try simp only [sP]); omega) only [eV, e0]) <;> (first | rfl | assumption)) ?_
 refine dn ?_
 refine vS (vC (t := decide ((n : Int) ≥ 65536)) (by (try simp (disch := (try simp only [sP]); omega) only [eV]) <;> (first | rfl | assumption)) ?_ ?_)
 ·intro hge
  simp only [decide_eq_true_eq] at hge
  refine vX (rM ?_)
  refine r_shrN (n := n) (k := 16) (mm := 65536) (by simp (disch := (try simp only [sP]); omega) only [eV, e0]) rfl (by decide) ?_
  refine rA (dn (vX (rA (dn (vN (vN ?_))))))
  exact t1 _ 16 (n / 65536) (by simp only [zP]; exact hsz) (by simp only [dF]; exact hdf) (by (try simp (disch := (try simp only [sP]); omega) only [eV]) <;> (first | rfl | assumption)) (by (try simp (disch := (try simp only [sP]); omega) only [eV]) <;> (first | rfl | assumption)) (by omega) rfl (by omega) (by omega)
 ·intro hlt
  simp only [decide_eq_false_iff_not] at hlt
  refine vK (vN ?_)
  exact t1 _ 0 n (by simp only [zP]; exact hsz) (by simp only [dF]; exact hdf) (by simp (disch := (try simp only [sP]); omega) only [eV, e0]) (by (try simp (disch := (try simp only [sP]); omega) only [eV]) <;> (first | rfl | assumption)) (by omega) (by simp) (by omega) (by omega)
set_option maxRecDepth 20000 in
theorem k_uvLen (ht : Text P E.uvLen 1 8 #[.tmp 2] (c_uvLen E)) (hl : Text P E.len32 1 19 #[.tmp 2] (c_len32 E)) (i8 : intT P E.tU8 = some .u8) (iu : intT P E.tW = some .u32) (ii : intT P E.tI = some .i64) (hs9 : P.underlying E.tStr = some .string) {n : Nat} (hn : n < 4294967296) :
  CallsV P E.uvLen #[.int .u32 n] w fun v w' => v = .int .i64 (uvl n : Nat) ∧ w' = w := by
 refine CallsV.enter ht (by simp) ?_
 intro a hsz hdf harg
 have e0 := harg 0 (.int .u32 n) (by simp)
 unfold c_uvLen
 refine vX (rA (dn ?_))
 refine vS (vc_rg' rfl ?_)
 refine rM ?_
 refine r_call' (args := #[.int .u32 n]) ?_ (k_len32 hl i8 iu ii hs9 hn) ?_
 ·simp only [lM]
  simp (disch := (try simp only [sP]); omega) only [eV, e0]
 rintro v w' ⟨⟨k, rfl, hk, hbl⟩, rfl⟩
 obtain ⟨b, hb, hbv⟩ := tabU_at k hk
 rw [uvl_bit hbl hk] at hbv
 refine r_conv (by assumption) (by assumption) (by (try simp (disch := (try simp only [sP]); omega) only [eV]) <;> (first | rfl | assumption)) ?_
 refine r_indexStr (k := .u8) (j := k) (b := b) (s := ⟨tabU.toArray⟩) hs9 (eval_const _ _) ?_ hb ?_
 ·simp (disch := (try simp only [sP]); omega) only [eV]
  rw [wrap8]
  congr 1
  omega
 refine r_conv (by assumption) (by assumption) (by (try simp (disch := (try simp only [sP]); omega) only [eV]) <;> (first | rfl | assumption)) ?_
 refine rA (dn (vS (vT ?_)))
 refine ⟨by simp only [dF]; exact hdf, .int .i64 (uvl n : Nat), rO ?_, rfl, rfl⟩
 have hu5 : uvl n ≤ 5 := by have := uvl_spec hn; omega
 simp (disch := (try simp only [sP]); omega) only [eV]
 rw [hbv, wrap_i64 (by omega) (by omega)]
theorem uvF_small {f n : Nat} (h : n < 128) : uvF (f + 1) n = [UInt8.ofNat n] := by simp [uvF, h]
theorem uvF_big {f n : Nat} (h : 128 ≤ n) : uvF (f + 1) n = UInt8.ofNat (n % 128 + 128) :: uvF f (n / 128) := by
 simp [uvF, Nat.not_lt.2 h]
theorem o8_nat (n : Nat) : o8 (IntKind.u8.wrap (n : Int)) = UInt8.ofNat n := by
 rw [wrap8]
 unfold o8
 apply UInt8.toNat_inj.1
 rw [UInt8.toNat_ofNat', UInt8.toNat_ofNat']
 omega
theorem uvar_1 {n : Nat} (h0 : 0 ≤ n) (h1 : n < 128) : Go.Km.uvar n = [IntKind.u8.wrap ((n : Nat) : Int)].map o8 := by
 simp only [List.map_cons, List.map_nil, o8_nat]
 unfold Go.Km.uvar
 rw [uvF_small (by omega)]
theorem uvar_2 {n : Nat} (h0 : 128 ≤ n) (h1 : n < 16384) : Go.Km.uvar n = [IntKind.u8.wrap ((n % 128 + 128 : Nat) : Int), IntKind.u8.wrap ((n / 128 : Nat) : Int)].map o8 := by
 simp only [List.map_cons, List.map_nil, o8_nat]
 unfold Go.Km.uvar
 rw [uvF_big (by omega)]
 rw [uvF_small (by omega)]
theorem uvar_3 {n : Nat} (h0 : 16384 ≤ n) (h1 : n < 2097152) : Go.Km.uvar n = [IntKind.u8.wrap ((n % 128 + 128 : Nat) : Int), IntKind.u8.wrap ((n / 128 % 128 + 128 : Nat) : Int), IntKind.u8.wrap ((n / 16384 : Nat) : Int)].map o8 := by
 simp only [List.map_cons, List.map_nil, o8_nat]
 unfold Go.Km.uvar
 rw [uvF_big (by omega)]
 rw [uvF_big (by omega)]
 rw [uvF_small (by omega)]
 simp only [Nat.div_div_eq_div_mul]
theorem uvar_4 {n : Nat} (h0 : 2097152 ≤ n) (h1 : n < 268435456) : Go.Km.uvar n = [IntKind.u8.wrap ((n % 128 + 128 : Nat) : Int), IntKind.u8.wrap ((n / 128 % 128 + 128 : Nat) : Int), IntKind.u8.wrap ((n / 16384 % 128 + 128 : Nat) : Int), IntKind.u8.wrap ((n / 2097152 : Nat) : Int)].map o8 := by
 simp only [List.map_cons, List.map_nil, o8_nat]
 unfold Go.Km.uvar
 rw [uvF_big (by omega)]
 rw [uvF_big (by omega)]
 rw [uvF_big (by omega)]
 rw [uvF_small (by omega)]
 simp only [Nat.div_div_eq_div_mul]
theorem uvar_5 {n : Nat} (h0 : 268435456 ≤ n) (h1 : n < 4294967296) : Go.Km.uvar n = [IntKind.u8.wrap ((n % 128 + 128 : Nat) : Int), IntKind.u8.wrap ((n / 128 % 128 + 128 : Nat) : Int), IntKind.u8.wrap ((n / 16384 % 128 + 128 : Nat) : Int), IntKind.u8.wrap ((n / 2097152 % 128 + 128 : Nat) : Int), IntKind.u8.wrap ((n / 268435456 : Nat) : Int)].map o8 := by
 simp only [List.map_cons, List.map_nil, o8_nat]
 unfold Go.Km.uvar
 rw [uvF_big (by omega)]
 rw [uvF_big (by omega)]
 rw [uvF_big (by omega)]
 rw [uvF_big (by omega)]
 rw [uvF_small (by omega)]
 simp only [Nat.div_div_eq_div_mul]
def Keep (w : World) (v v' : Value) (w' : World) : Prop := (∀ k, k < w.heap.size → v.ownBlock ≠ some k → w'.heap[k]? = w.heap[k]?) ∧ ∀ g, v'.ownBlock = some g → v.ownBlock = some g ∨ w.heap.size ≤ g
def Wr1K (P : Program) (E : Env) (F : FuncId) (U : Nat) (args : List Value) (bs : List UInt8) (w : World) : Prop :=
 ∀ dv (xs : List UInt8), w.ownsRow U E.tU8 1 dv xs.length (xs.map bv) → U ≤ w.heap.size → xs.length + bs.length ≤ big →
  CallsV P F (#[dv] ++ args.toArray) w fun v' w' => w'.ownsRow U E.tU8 1 v' (xs ++ bs).length ((xs ++ bs).map bv) ∧ Below U w w' ∧ Keep w dv v' w'
theorem Wr1K.one {P : Program} {E : Env} {F : FuncId} {U : Nat} {args : List Value} {bs : List UInt8} {w : World} (h : Wr1K P E F U args bs w) : Wr1 P E F U args bs w :=
 fun dv xs h1 h2 h3 => (h dv xs h1 h2 h3).mono fun _ _ ⟨a, b, _⟩ => ⟨a, b⟩
theorem r_appendK {P : Program} {a : Act} {w : World} {r : List Oper} {Q : Exit → Act → World → Prop} {d s x t tx ty p af g e sz U v n xs u m news} (hB : rowB P t e sz = true) (hs : a.eval s = v) (hx : a.eval x = u) (hown : w.ownsRow U e sz v n xs) (hU : U ≤ w.heap.size) (hsrc : Src P sz tx u m news w) (hb : n + m ≤ big)
  (h : ∀ v' w', w'.ownsRow U e sz v' (n + m) (xs ++ news) → Below U w w' → Keep w v v' w' → rO_ P Q r (a.put (some d) v') w') :
  rO_ P Q (⟨some d, .call { callee := .builtin .append, args := #[s, x], argTypes := #[t, tx] }, ty, p, af, g⟩ :: r) a w := by
 refine st ?_
 obtain ⟨v', w', hr, h1, h2, h3⟩ := run_append_src w U t tx ty e sz hB v n xs hown u m news hsrc hb hU
 subst hs; subst hx
 simp only [Oper.wp, execOp, resolve, invoke, builtin, Sem.run_bind, Sem.run_pure, Result.andThen_ok, List.map_toArray, List.map_cons, List.map_nil, hr, Oper.upon_value]
 exact h v' w' h1 (below_grownBy hown h2 hU) ⟨fun k hk hne => h2.block k hk (fun e => hne e.symm), h3⟩
theorem r_litAppK {P : Program} {a : Act} {w : World} {r : List Oper} {Q : Exit → Act → World → Prop} {d d2 s : Nat} {t n ps ty p af g ty2 p2 af2 g2 e U v} {xs : List UInt8} {zs : List Int} (hB : rowB P t e 1 = true) (hp : (ps.map fun (x : Nat × Operand) => (x.1, a.eval x.2)).toList = ((zs.map fun z => Value.int .u8 z).zipIdx 0).map fun x => (x.2, x.1)) (h8 : ∀ z ∈ zs, 0 ≤ z ∧ z < 256) (hn : zs.length = n)
  (hlim : n ≤ 1000) (hn0 : 0 < n) (hs : a.eval (.tmp s) = v) (hsd : d ≠ s) (hd : d < a.tmps.size) (hown : w.ownsRow U e 1 v xs.length (xs.map bv)) (hU : U ≤ w.heap.size) (hb : xs.length + n ≤ big)
  (h : ∀ v' w', w'.ownsRow U e 1 v' (xs ++ zs.map o8).length ((xs ++ zs.map o8).map bv) → Below U w w' ∧ Keep w v v' w' → rO_ P Q r ((a.put (some d) (.slice (some ⟨w.heap.size, 0, none⟩) n n)).put (some d2) v') w') :
  rO_ P Q (⟨some d, .buildSlice t n ps, ty, p, af, g⟩ :: ⟨some d2, .call { callee := .builtin .append, args := #[.tmp s, .tmp d], argTypes := #[t, t] }, ty2, p2, af2, g2⟩ :: r) a w := by
 refine r_buildSlice (s := 1) (vs := zs.map fun z => .int .u8 z) hB hp (by simpa using hn) (by intro v hv; obtain ⟨z, _, rfl⟩ := List.mem_map.1 hv; rfl) (by omega) hn0 ?_
 have hcs : ((zs.map fun z => Value.int .u8 z).flatMap fun v => v.cells.toList) = (zs.map o8).map bv := by
  rw [map_o8 h8, flat_u8]
 rw [hcs]
 refine r_appendK (sz := 1) (m := n) (U := U) (v := v) (n := xs.length) (xs := xs.map bv) (news := (zs.map o8).map bv) hB (by rw [eval_put_ne _ _ _ _ hsd]; exact hs) (eval_put_same _ _ _ hd) (hown.alloc _) (by simp; omega) ?_ hb ?_
 ·refine src_cells (rB hB) ?_ (by simp [hn]) (bv_one _)
  intro j u hu
  rw [Nat.zero_add]
  exact cells_new w _ e (by simpa using hu)
 ·intro v' w' h1 h2 h3
  refine h v' w' (by simpa [hn] using h1) ⟨((Below.refl U w).alloc (o := .cells _ e) hU).trans h2, fun k hk hne => ?_, fun g hg => ?_⟩
  ·rw [h3.1 k (by simp; omega) hne]
   exact Below.heap_alloc w _ k hk
  ·rcases h3.2 g hg with h | h
   ·exact .inl h
   ·exact .inr (by simp at h; omega)
theorem k_uvarK (ht : Text P E.wUvarint 2 93 #[.tmp 4] (c_wUvarint E)) (htl : Text P E.uvLen 1 8 #[.tmp 2] (c_uvLen E)) (hl : Text P E.len32 1 19 #[.tmp 2] (c_len32 E)) (hB : rowB P E.tB E.tU8 1 = true) (i8 : intT P E.tU8 = some .u8) (iu : intT P E.tW = some .u32) (ii : intT P E.tI = some .i64) (hs9 : P.underlying E.tStr = some .string)
  {n : Nat} (hn : n < 4294967296) : Wr1K P E E.wUvarint U [.int .u32 n] (Go.Km.uvar n) w := by
 intro dv xs hown hU hb
 refine CallsV.enter ht (by simp) ?_
 intro a hsz hdf harg
 have e0 := harg 0 dv (by simp)
 have e1 := harg 1 (.int .u32 n) (by simp)
 unfold c_wUvarint
 refine vX (rA (dn (vS (vX (rM ?_)))))
 refine r_call' (args := #[.int .u32 n]) ?_ (k_uvLen htl hl i8 iu ii hs9 hn) ?_
 ·simp only [lM]
  simp (disch := (try simp only [sP]); omega) only [eV, e1]
 rintro v w' ⟨rfl, rfl⟩
 refine dn ?_
 generalize hA : ((a.put (some 4) _).put (some 5) _).put (some 6) (.int .i64 ((uvl n : Nat) : Int)) = A
 have f0 : A.eval (.tmp 0) = dv := by rw [← hA]; simp (disch := (try simp only [sP]); omega) only [eV, e0]
 have f1 : A.eval (.tmp 1) = .int .u32 n := by rw [← hA]; simp (disch := (try simp only [sP]); omega) only [eV, e1]
 have f6 : A.eval (.tmp 6) = .int .i64 ((uvl n : Nat) : Int) := by rw [← hA]; simp (disch := (try simp only [sP]); omega) only [eV]
 have fs : A.tmps.size = 93 := by rw [← hA]; simp only [zP]; exact hsz
 have fd : A.defers = [] := by rw [← hA]; simp only [dF]; exact hdf
 clear hA
 refine vS (vc_block ?_)
 refine vX ?_
 refine r_eql (k := .i64) (m := ((uvl n : Nat) : Int)) (n := 5) (by simp (disch := (try simp only [sP]); omega) only [eV, f6]) rfl ?_
 refine rA (dn ?_)
 refine vS (vC (t := ((uvl n : Nat) : Int) == 5) (by (try simp (disch := (try simp only [sP]); omega) only [eV]) <;> (first | rfl | assumption)) ?_ ?_)
 ·intro hk
  have hk' : uvl n = 5 := by simp only [beq_iff_eq] at hk; omega
  have hr : 268435456 ≤ n ∧ n < 4294967296 := by have := uvl_spec hn; omega
  refine vX (rM (rM ?_))
  refine r_andN (by (try simp (disch := (try simp only [sP]); omega) only [eV, f1]) <;> (first | rfl | assumption)) rfl (by omega) ?_
  refine r_orN (by (try simp (disch := (try simp only [sP]); omega) only [eV]) <;> (first | rfl | assumption)) rfl (by omega) ?_
  refine r_conv (by assumption) (by assumption) (by (try simp (disch := (try simp only [sP]); omega) only [eV]) <;> (first | rfl | assumption)) ?_
  refine rM ?_
  refine r_shrN (n := n) (k := 7) (mm := 128) (by simp (disch := (try simp only [sP]); omega) only [eV, f1]) rfl (by decide) ?_
  refine r_andN (by (try simp (disch := (try simp only [sP]); omega) only [eV]) <;> (first | rfl | assumption)) rfl (by omega) ?_
  refine r_orN (by (try simp (disch := (try simp only [sP]); omega) only [eV]) <;> (first | rfl | assumption)) rfl (by omega) ?_
  refine r_conv (by assumption) (by assumption) (by (try simp (disch := (try simp only [sP]); omega) only [eV]) <;> (first | rfl | assumption)) ?_
  refine rM ?_
  refine r_shrN (n := n) (k := 14) (mm := 16384) (by simp (disch := (try simp only [sP]); omega) only [eV, f1]) rfl (by decide) ?_
  refine r_andN (by (try simp (disch := (try simp only [sP]); omega) only [eV]) <;> (first | rfl | assumption)) rfl (by omega) ?_
  refine r_orN (by (try simp (disch := (try simp only [sP]); omega) only [eV]) <;> (first | rfl | assumption)) rfl (by omega) ?_
  refine r_conv (by assumption) (by assumption) (by (try simp (disch := (try simp only [sP]); omega) only [eV]) <;> (first | rfl | assumption)) ?_
  refine rM ?_
  refine r_shrN (n := n) (k := 21) (mm := 2097152) (by simp (disch := (try simp only [sP]); omega) only [eV, f1]) rfl (by decide) ?_
  refine r_andN (by (try simp (disch := (try simp only [sP]); omega) only [eV]) <;> (first | rfl | assumption)) rfl (by omega) ?_
  refine r_orN (by (try simp (disch := (try simp only [sP]); omega) only [eV]) <;> (first | rfl | assumption)) rfl (by omega) ?_
  refine r_conv (by assumption) (by assumption) (by (try simp (disch := (try simp only [sP]); omega) only [eV]) <;> (first | rfl | assumption)) ?_
  refine rM ?_
  refine r_shrN (n := n) (k := 28) (mm := 268435456) (by simp (disch := (try simp only [sP]); omega) only [eV, f1]) rfl (by decide) ?_
  refine r_conv (by assumption) (by assumption) (by (try simp (disch := (try simp only [sP]); omega) only [eV]) <;> (first | rfl | assumption)) ?_
  rw [uvar_5 hr.1 hr.2] at hb ⊢
  refine r_litAppK (zs := [IntKind.u8.wrap ((n % 128 + 128 : Nat) : Int), IntKind.u8.wrap ((n / 128 % 128 + 128 : Nat) : Int), IntKind.u8.wrap ((n / 16384 % 128 + 128 : Nat) : Int), IntKind.u8.wrap ((n / 2097152 % 128 + 128 : Nat) : Int), IntKind.u8.wrap ((n / 268435456 : Nat) : Int)]) hB ?_ (by intro z hz; simp only [List.mem_cons, List.not_mem_nil, or_false] at hz; rcases hz with rfl | rfl | rfl | rfl | rfl <;> exact wrap8_ok _) rfl (by omega) (by omega) (by simp (disch := (try simp only [sP]); omega) only [eV, f0]) (by omega) (by simp only [zP]; omega) hown hU (by simpa using hb) ?_
  ·simp only [lM]
   simp (disch := (try simp only [sP]); omega) only [eV]
   rfl
  intro v' w' h1 h2
  refine rA (dn (vS (vT ?_)))
  exact ⟨by simp only [dF]; exact fd, v', rO (by simp (disch := (try simp only [sP]); omega) only [eV]), ⟨h1, h2⟩⟩
 ·intro hk5
  generalize hA : ((A.put (some _) _).put (some _) _) = B
  have g0 : B.eval (.tmp 0) = dv := by rw [← hA]; simp (disch := (try simp only [sP]); omega) only [eV, f0]
  have g1 : B.eval (.tmp 1) = .int .u32 n := by rw [← hA]; simp (disch := (try simp only [sP]); omega) only [eV, f1]
  have g6 : B.eval (.tmp 6) = .int .i64 ((uvl n : Nat) : Int) := by rw [← hA]; simp (disch := (try simp only [sP]); omega) only [eV, f6]
  have gs : B.tmps.size = 93 := by rw [← hA]; simp only [zP]; exact fs
  have gd : B.defers = [] := by rw [← hA]; simp only [dF]; exact fd
  clear hA f0 f1 f6 fs fd
  revert B
  intro A f0 f1 f6 fs fd
  refine vX ?_
  refine r_eql (k := .i64) (m := ((uvl n : Nat) : Int)) (n := 4) (by simp (disch := (try simp only [sP]); omega) only [eV, f6]) rfl ?_
  refine rA (dn ?_)
  refine vS (vC (t := ((uvl n : Nat) : Int) == 4) (by (try simp (disch := (try simp only [sP]); omega) only [eV]) <;> (first | rfl | assumption)) ?_ ?_)
  ·intro hk
   have hk' : uvl n = 4 := by simp only [beq_iff_eq] at hk; omega
   have hr : 2097152 ≤ n ∧ n < 268435456 := by have := uvl_spec hn; omega
   refine vX (rM (rM ?_))
   refine r_andN (by (try simp (disch := (try simp only [sP]); omega) only [eV, f1]) <;> (first | rfl | assumption)) rfl (by omega) ?_
   refine r_orN (by (try simp (disch := (try simp only [sP]); omega) only [eV]) <;> (first | rfl | assumption)) rfl (by omega) ?_
   refine r_conv (by assumption) (by assumption) (by (try simp (disch := (try simp only [sP]); omega) only [eV]) <;> (first | rfl | assumption)) ?_
   refine rM ?_
   refine r_shrN (n := n) (k := 7) (mm := 128) (by simp (disch := (try simp only [sP]); omega) only [eV, f1]) rfl (by decide) ?_
   refine r_andN (by (try simp (disch := (try simp only [sP]); omega) only [eV]) <;> (first | rfl | assumption)) rfl (by omega) ?_
   refine r_orN (by (try simp (disch := (try simp only [sP]); omega) only [eV]) <;> (first | rfl | assumption)) rfl (by omega) ?_
   refine r_conv (by assumption) (by assumption) (by (try simp (disch := (try simp only [sP]); omega) only [eV]) <;> (first | rfl | assumption)) ?_
   refine rM ?_
   refine r_shrN (n := n) (k := 14) (mm := 16384) (by simp (disch := (try simp only [sP]); omega) only [eV, f1]) rfl (by decide) ?_
   refine r_andN (by (try simp (disch := (try simp only [sP]); omega) only [eV]) <;> (first | rfl | assumption)) rfl (by omega) ?_
   refine r_orN (by (try simp (disch := (try simp only [sP]); omega) only [eV]) <;> (first | rfl | assumption)) rfl (by omega) ?_
   refine r_conv (by assumption) (by assumption) (by (try simp (disch := (try simp only [sP]); omega) only [eV]) <;> (first | rfl | assumption)) ?_
   refine rM ?_
   refine r_shrN (n := n) (k := 21) (mm := 2097152) (by simp (disch := (try simp only [sP]); omega) only [eV, f1]) rfl (by decide) ?_
   refine r_conv (by assumption) (by assumption) (by (try simp (disch := (try simp only [sP]); omega) only [eV]) <;> (first | rfl | assumption)) ?_
   rw [uvar_4 hr.1 hr.2] at hb ⊢
   refine r_litAppK (zs := [IntKind.u8.wrap ((n % 128 + 128 : Nat) : Int), IntKind.u8.wrap ((n / 128 % 128 + 128 : Nat) : Int), IntKind.u8.wrap ((n / 16384 % 128 + 128 : Nat) : Int), IntKind.u8.wrap ((n / 2097152 : Nat) : Int)]) hB ?_ (by intro z hz; simp only [List.mem_cons, List.not_mem_nil, or_false] at hz; rcases hz with rfl | rfl | rfl | rfl <;> exact wrap8_ok _) rfl (by omega) (by omega) (by simp (disch := (try simp only [sP]); omega) only [eV, f0]) (by omega) (by simp only [zP]; omega) hown hU (by simpa using hb) ?_
   ·simp only [lM]
    simp (disch := (try simp only [sP]); omega) only [eV]
    rfl
   intro v' w' h1 h2
   refine rA (dn (vS (vT ?_)))
   exact ⟨by simp only [dF]; exact fd, v', rO (by simp (disch := (try simp only [sP]); omega) only [eV]), ⟨h1, h2⟩⟩
  ·intro hk4
   generalize hA : ((A.put (some _) _).put (some _) _) = B
   have g0 : B.eval (.tmp 0) = dv := by rw [← hA]; simp (disch := (try simp only [sP]); omega) only [eV, f0]
   have g1 : B.eval (.tmp 1) = .int .u32 n := by rw [← hA]; simp (disch := (try simp only [sP]); omega) only [eV, f1]
   have g6 : B.eval (.tmp 6) = .int .i64 ((uvl n : Nat) : Int) := by rw [← hA]; simp (disch := (try simp only [sP]); omega) only [eV, f6]
   have gs : B.tmps.size = 93 := by rw [← hA]; simp only [zP]; exact fs
   have gd : B.defers = [] := by rw [← hA]; simp only [dF]; exact fd
   clear hA f0 f1 f6 fs fd
   revert B
   intro A f0 f1 f6 fs fd
   refine vX ?_
   refine r_eql (k := .i64) (m := ((uvl n : Nat) : Int)) (n := 3) (by simp (disch := (try simp only [sP]); omega) only [eV, f6]) rfl ?_
   refine rA (dn ?_)
   refine vS (vC (t := ((uvl n : Nat) : Int) == 3) (by (try simp (disch := (try simp only [sP]); omega) only [eV]) <;> (first | rfl | assumption)) ?_ ?_)
   ·intro hk
    have hk' : uvl n = 3 := by simp only [beq_iff_eq] at hk; omega
    have hr : 16384 ≤ n ∧ n < 2097152 := by have := uvl_spec hn; omega
    refine vX (rM (rM ?_))
    refine r_andN (by (try simp (disch := (try simp only [sP]); omega) only [eV, f1]) <;> (first | rfl | assumption)) rfl (by omega) ?_
    refine r_orN (by (try simp (disch := (try simp only [sP]); omega) only [eV]) <;> (first | rfl | assumption)) rfl (by omega) ?_
    refine r_conv (by assumption) (by assumption) (by (try simp (disch := (try simp only [sP]); omega) only [eV]) <;> (first | rfl | assumption)) ?_
    refine rM ?_
    refine r_shrN (n := n) (k := 7) (mm := 128) (by simp (disch := (try simp only [sP]); omega) only [eV, f1]) rfl (by decide) ?_
    refine r_andN (by (try simp (disch := (try simp only [sP]); omega) only [eV]) <;> (first | rfl | assumption)) rfl (by omega) ?_
    refine r_orN (by (try simp (disch := (try simp only [sP]); omega) only [eV]) <;> (first | rfl | assumption)) rfl (by omega) ?_
    refine r_conv (by assumption) (by assumption) (by (try simp (disch := (try simp only [sP]); omega) only [eV]) <;> (first | rfl | assumption)) ?_
    refine rM ?_
    refine r_shrN (n := n) (k := 14) (mm := 16384) (by simp (disch := (try simp only [sP]); omega) only [eV, f1]) rfl (by decide) ?_
    refine r_conv (by assumption) (by assumption) (by (try simp (disch := (try simp only [sP]); omega) only [eV]) <;> (first | rfl | assumption)) ?_
    rw [uvar_3 hr.1 hr.2] at hb ⊢
    refine r_litAppK (zs := [IntKind.u8.wrap ((n % 128 + 128 : Nat) : Int), IntKind.u8.wrap ((n / 128 % 128 + 128 : Nat) : Int), IntKind.u8.wrap ((n / 16384 : Nat) : Int)]) hB ?_ (by intro z hz; simp only [List.mem_cons, List.not_mem_nil, or_false] at hz; rcases hz with rfl | rfl | rfl <;> exact wrap8_ok _) rfl (by omega) (by omega) (by simp (disch := (try simp only [sP]); omega) only [eV, f0]) (by omega) (by simp only [zP]; omega) hown hU (by simpa using hb) ?_
    ·simp only [lM]
     simp (disch := (try simp only [sP]); omega) only [eV]
     rfl
    intro v' w' h1 h2
    refine rA (dn (vS (vT ?_)))
    exact ⟨by simp only [dF]; exact fd, v', rO (by simp (disch := (try simp only [sP]); omega) only [eV]), ⟨h1, h2⟩⟩
   ·intro hk3
    generalize hA : ((A.put (some _) _).put (some _) _) = B
    have g0 : B.eval (.tmp 0) = dv := by rw [← hA]; simp (disch := (try simp only [sP]); omega) only [eV, f0]
    have g1 : B.eval (.tmp 1) = .int .u32 n := by rw [← hA]; simp (disch := (try simp only [sP]); omega) only [eV, f1]
    have g6 : B.eval (.tmp 6) = .int .i64 ((uvl n : Nat) : Int) := by rw [← hA]; simp (disch := (try simp only [sP]); omega) only [eV, f6]
    have gs : B.tmps.size = 93 := by rw [← hA]; simp only [zP]; exact fs
    have gd : B.defers = [] := by rw [← hA]; simp only [dF]; exact fd
    clear hA f0 f1 f6 fs fd
    revert B
    intro A f0 f1 f6 fs fd
    refine vX ?_
    refine r_eql (k := .i64) (m := ((uvl n : Nat) : Int)) (n := 2) (by simp (disch := (try simp only [sP]); omega) only [eV, f6]) rfl ?_
    refine rA (dn ?_)
    refine vS (vC (t := ((uvl n : Nat) : Int) == 2) (by (try simp (disch := (try simp only [sP]); omega) only [eV]) <;> (first | rfl | assumption)) ?_ ?_)
    ·intro hk
     have hk' : uvl n = 2 := by simp only [beq_iff_eq] at hk; omega
     have hr : 128 ≤ n ∧ n < 16384 := by have := uvl_spec hn; omega
     refine vX (rM (rM ?_))
     refine r_andN (by (try simp (disch := (try simp only [sP]); omega) only [eV, f1]) <;> (first | rfl | assumption)) rfl (by omega) ?_
     refine r_orN (by (try simp (disch := (try simp only [sP]); omega) only [eV]) <;> (first | rfl | assumption)) rfl (by omega) ?_
     refine r_conv (by assumption) (by assumption) (by (try simp (disch := (try simp only [sP]); omega) only [eV]) <;> (first | rfl | assumption)) ?_
     refine rM ?_
     refine r_shrN (n := n) (k := 7) (mm := 128) (by simp (disch := (try simp only [sP]); omega) only [eV, f1]) rfl (by decide) ?_
     refine r_conv (by assumption) (by assumption) (by (try simp (disch := (try simp only [sP]); omega) only [eV]) <;> (first | rfl | assumption)) ?_
     rw [uvar_2 hr.1 hr.2] at hb ⊢
     refine r_litAppK (zs := [IntKind.u8.wrap ((n % 128 + 128 : Nat) : Int), IntKind.u8.wrap ((n / 128 : Nat) : Int)]) hB ?_ (by intro z hz; simp only [List.mem_cons, List.not_mem_nil, or_false] at hz; rcases hz with rfl | rfl <;> exact wrap8_ok _) rfl (by omega) (by omega) (by simp (disch := (try simp only [sP]); omega) only [eV, f0]) (by omega) (by simp only [zP]; omega) hown hU (by simpa using hb) ?_
     ·simp only [lM]
      simp (disch := (try simp only [sP]); omega) only [eV]
      rfl
     intro v' w' h1 h2
     refine rA (dn (vS (vT ?_)))
     exact ⟨by simp only [dF]; exact fd, v', rO (by simp (disch := (try simp only [sP]); omega) only [eV]), ⟨h1, h2⟩⟩
    ·intro hk2
     generalize hA : ((A.put (some _) _).put (some _) _) = B
     have g0 : B.eval (.tmp 0) = dv := by rw [← hA]; simp (disch := (try simp only [sP]); omega) only [eV, f0]
     have g1 : B.eval (.tmp 1) = .int .u32 n := by rw [← hA]; simp (disch := (try simp only [sP]); omega) only [eV, f1]
     have g6 : B.eval (.tmp 6) = .int .i64 ((uvl n : Nat) : Int) := by rw [← hA]; simp (disch := (try simp only [sP]); omega) only [eV, f6]
     have gs : B.tmps.size = 93 := by rw [← hA]; simp only [zP]; exact fs
     have gd : B.defers = [] := by rw [← hA]; simp only [dF]; exact fd
     clear hA f0 f1 f6 fs fd
     revert B
     intro A f0 f1 f6 fs fd
     refine vX ?_
     refine r_eql (k := .i64) (m := ((uvl n : Nat) : Int)) (n := 1) (by simp (disch := (try simp only [sP]); omega) only [eV, f6]) rfl ?_
     refine rA (dn ?_)
     refine vS (vC (t := ((uvl n : Nat) : Int) == 1) (by (try simp (disch := (try simp only [sP]); omega) only [eV]) <;> (first | rfl | assumption)) ?_ ?_)
     ·intro hk
      have hk' : uvl n = 1 := by simp only [beq_iff_eq] at hk; omega
      have hr : 0 ≤ n ∧ n < 128 := by have := uvl_spec hn; omega
      refine vX (rM (rM ?_))
      refine r_conv (by assumption) (by assumption) (by (try simp (disch := (try simp only [sP]); omega) only [eV, f1]) <;> (first | rfl | assumption)) ?_
      rw [uvar_1 hr.1 hr.2] at hb ⊢
      refine r_litAppK (zs := [IntKind.u8.wrap ((n : Nat) : Int)]) hB ?_ (by intro z hz; simp only [List.mem_cons, List.not_mem_nil, or_false] at hz; rcases hz with rfl <;> exact wrap8_ok _) rfl (by omega) (by omega) (by simp (disch := (try simp only [sP]); omega) only [eV, f0]) (by omega) (by simp only [zP]; omega) hown hU (by simpa using hb) ?_
      ·simp only [lM]
       simp (disch := (try simp only [sP]); omega) only [eV]
       rfl
      intro v' w' h1 h2
      refine rA (dn (vS (vT ?_)))
      exact ⟨by simp only [dF]; exact fd, v', rO (by simp (disch := (try simp only [sP]); omega) only [eV]), ⟨h1, h2⟩⟩
     ·intro hk1
      exfalso
      have : uvl n = 5 ∨ uvl n = 4 ∨ uvl n = 3 ∨ uvl n = 2 ∨ uvl n = 1 := by have := uvl_spec hn; omega
      simp only [beq_eq_false_iff_ne, ne_eq] at hk1 hk2 hk3 hk4 hk5
      omega
theorem k_uvar (ht : Text P E.wUvarint 2 93 #[.tmp 4] (c_wUvarint E)) (htl : Text P E.uvLen 1 8 #[.tmp 2] (c_uvLen E)) (hl : Text P E.len32 1 19 #[.tmp 2] (c_len32 E)) (hB : rowB P E.tB E.tU8 1 = true) (i8 : intT P E.tU8 = some .u8) (iu : intT P E.tW = some .u32) (ii : intT P E.tI = some .i64) (hs9 : P.underlying E.tStr = some .string)
  {n : Nat} (hn : n < 4294967296) : Wr1 P E E.wUvarint U [.int .u32 n] (Go.Km.uvar n) w := (k_uvarK ht htl hl hB i8 iu ii hs9 hn).one
end
end Go.Km
namespace Go.Km
open Go Go.RowKit
attribute [local irreducible] vc rO_ runG runS runD
section
variable {P : Program} {a : Act} {w : World} {r : List Oper} {Q : Exit → Act → World → Prop}
theorem r_lenMap {d x t ty p af g kt vt n} {v : Value} (ht : P.underlying t = some (.map kt vt)) (hx : a.eval x = v) (hv : (v = .map none ∧ n = 0) ∨ ∃ q es clock, v = .map (some q) ∧ w.heap[q]? = some (.map es clock) ∧ es.size = n) (h : rO_ P Q r (a.put (some d) (.int .i64 (n : Nat))) w) :
  rO_ P Q (⟨some d, .call { callee := .builtin .len, args := #[x], argTypes := #[t] }, ty, p, af, g⟩ :: r) a w := by
 refine st ?_
 have hr : (Builtin.len_ #[t] ty #[a.eval x]).run P w = .ok (.int .i64 (n : Nat)) w := by
  rw [hx]
  rcases hv with ⟨rfl, rfl⟩ | ⟨q, es, clock, rfl, hq, rfl⟩
  ·simp [Builtin.len_, run_underlying ht, goInt]
  ·have hg : (getObj q).run P w = .ok (.map es clock) w := by simp [getObj, Sem.run, hq]
   simp [Builtin.len_, run_underlying ht, goInt, hg]
 simp only [Oper.wp, execOp, resolve, invoke, builtin, Sem.run_bind, Sem.run_pure, Result.andThen_ok, List.map_toArray, List.map_cons, List.map_nil, hr, Oper.upon_value]
 exact h
theorem r_makeFunc {d f xs ys ty p af g} (h : rO_ P Q r (a.put (some d) (.func (.func f) (xs.map a.eval) (ys.map a.eval))) w) : rO_ P Q (⟨some d, .makeFunc (.func f) xs ys, ty, p, af, g⟩ :: r) a w := by
 refine st ?_
 simp only [Oper.wp, execOp, Instr.makeFunc, Sem.run_bind, Sem.run_pure, Result.andThen_ok, Oper.upon_value]
 exact h
end
def mapB (P : Program) (t : TypeId) : Bool := match P.underlying t with | some (.map _ _) => true | _ => false
theorem mapB_inv {P : Program} {t : TypeId} (h : mapB P t = true) : ∃ k v, P.underlying t = some (.map k v) := by
 unfold mapB at h
 split at h
 ·rename_i k v hu; exact ⟨k, v, hu⟩
 ·cases h
section
variable {P : Program} {E : Env} {w : World} {U : Nat}
theorem tags_len {W0 : World} {sb : Sb} {B : Nat} {v : Value} {tags : List (Nat × List UInt8)} (h : TagsRep W0 sb B v tags) (hw : Below W0.heap.size W0 w) :
  (v = .map none ∧ tags.length = 0) ∨ ∃ q es clock, v = .map (some q) ∧ w.heap[q]? = some (.map es clock) ∧ es.size = tags.length := by
 obtain ⟨_, _, h⟩ := h
 rcases h with ⟨rfl, rfl⟩ | ⟨q, es, clock, rfl, _, hq, hm, _, _, l, hp, hl, _⟩
 ·exact .inl ⟨rfl, rfl⟩
 ·exact .inr ⟨q, es, clock, rfl, by rw [hw.block q hq]; exact hm, by rw [← hl]; exact hp.length_eq⟩
theorem k_tlen (ht : Text P E.tLen 1 8 #[.tmp 2] (c_tLen E)) (ho : oneT P E.tTagMap = true) (hf : fieldOff P E.tTags 0 = some 0) (hm : mapB P E.tTagMap = true)
  {W0 : World} {sb : Sb} {b o : Nat} {v : Value} {tags : List (Nat × List UInt8)} (hc : W0.cell? ⟨b, o, none⟩ = some v) (hr : TagsRep W0 sb 0 v tags) (hw : Below W0.heap.size W0 w) :
  CallsV P E.tLen #[.pointer (some ⟨b, o, none⟩)] w fun r w' => r = .int .i64 (tags.length : Int) ∧ Grow w w' := by
 refine CallsV.enter ht (by simp) ?_
 intro a hsz hdf harg
 have e0 := harg 0 (.pointer (some ⟨b, o, none⟩)) (by simp)
 obtain ⟨kt, vt, hu⟩ := mapB_inv hm
 have hcw : w.cell? ⟨b, o, none⟩ = some v := by rw [hw.cell (p := ⟨b, o, none⟩) (lt_of_cell hc)]; exact hc
 unfold c_tLen
 refine vX (rA (dn (vX (rM ?_))))
 refine r_nil (ad := ⟨b, o, none⟩) (by simp (disch := (try simp only [sP]); omega) only [eV, e0]) ?_
 refine rF (b := b) (o := o) (by simp (disch := (try simp only [sP]); omega) only [eV]) hf ?_
 refine rL (b := b) (o := o) (by (try simp (disch := (try simp only [sP]); omega) only [eV]) <;> (first | rfl | assumption)) ho hcw ?_
 refine r_lenMap (v := v) (n := tags.length) hu (by simp (disch := (try simp only [sP]); omega) only [eV]) (tags_len hr hw) ?_
 refine rA (dn (vS (vT ?_)))
 exact ⟨by simp only [dF]; exact hdf, .int .i64 (tags.length : Nat), rO (by simp (disch := (try simp only [sP]); omega) only [eV]), rfl, Eff.refl _ _⟩
theorem k_gAll0 (ht : Text P E.gAll 2 53 #[] (c_gAll E)) (ho : oneT P E.tTagMap = true) (hf : fieldOff P E.tTags 0 = some 0) (hm : mapB P E.tTagMap = true)
  {b o : Nat} {v fn : Value} (hcw : w.cell? ⟨b, o, none⟩ = some v) (hv : (v = .map none ∧ (0 : Nat) = 0) ∨ ∃ q es clock, v = .map (some q) ∧ w.heap[q]? = some (.map es clock) ∧ es.size = 0) :
  CallsV P E.gAll #[.pointer (some ⟨b, o, none⟩), fn] w fun r w' => w' = w := by
 refine CallsV.enter ht (by simp) ?_
 intro a hsz hdf harg
 have e0 := harg 0 (.pointer (some ⟨b, o, none⟩)) (by simp)
 obtain ⟨kt, vt, hu⟩ := mapB_inv hm
 unfold c_gAll
 refine vS (vX (rM ?_))
 refine r_nil (ad := ⟨b, o, none⟩) (by simp (disch := (try simp only [sP]); omega) only [eV, e0]) ?_
 refine rF (b := b) (o := o) (by simp (disch := (try simp only [sP]); omega) only [eV]) hf ?_
 refine rL (b := b) (o := o) (by (try simp (disch := (try simp only [sP]); omega) only [eV]) <;> (first | rfl | assumption)) ho hcw ?_
 refine r_lenMap (v := v) (n := 0) hu (by simp (disch := (try simp only [sP]); omega) only [eV]) hv ?_
 refine r_eql (k := .i64) (m := ((0 : Nat) : Int)) (n := 0) (by simp (disch := (try simp only [sP]); omega) only [eV]) rfl ?_
 refine dn ?_
 refine vS (vC (t := true) (by (try simp (disch := (try simp only [sP]); omega) only [eV]) <;> (first | rfl | assumption)) ?_ (fun h => by cases h))
 intro _
 refine vT ?_
 refine ⟨by simp only [dF]; exact hdf, .tuple #[], ?_, rfl⟩
 simp [results]
theorem k_teach0 (ht : Text P E.tEach 2 9 #[.tmp 4] (c_tEach E)) (hta : Text P E.gAll 2 53 #[] (c_gAll E)) (hob : oneT P E.tB = true) (ho : oneT P E.tTagMap = true) (hf : fieldOff P E.tTags 0 = some 0) (hm : mapB P E.tTagMap = true)
  {W0 : World} {sb : Sb} {b o : Nat} {v : Value} {tags : List (Nat × List UInt8)} (h0 : tags = []) (hc : W0.cell? ⟨b, o, none⟩ = some v) (hr : TagsRep W0 sb 0 v tags) (hw : Below W0.heap.size W0 w)
  {dv : Value} {xs : List UInt8} (hown : w.ownsRow W0.heap.size E.tU8 1 dv xs.length (xs.map bv)) :
  CallsV P E.tEach #[.pointer (some ⟨b, o, none⟩), dv] w fun v' w' => w'.ownsRow W0.heap.size E.tU8 1 v' (xs ++ (tags.map wrTag).flatten).length ((xs ++ (tags.map wrTag).flatten).map bv) ∧ Below W0.heap.size w w' := by
 subst h0
 refine CallsV.enter ht (by simp) ?_
 intro a hsz hdf harg
 have e0 := harg 0 (.pointer (some ⟨b, o, none⟩)) (by simp)
 have e1 := harg 1 dv (by simp)
 have hdc : dv.cells = #[dv] := by
  rcases hown.2 with ⟨rfl, _⟩ | ⟨g, cap, cur, rfl, _⟩ <;> rfl
 have hbl : Below W0.heap.size w (w.alloc (.cells dv.cells E.tB)) := (Below.refl _ w).alloc (o := .cells _ _) hw.size
 have hw1 : Below W0.heap.size W0 (w.alloc (.cells dv.cells E.tB)) := hw.trans hbl
 have hcw : (w.alloc (.cells dv.cells E.tB)).cell? ⟨b, o, none⟩ = some v := by rw [hw1.cell (p := ⟨b, o, none⟩) (lt_of_cell hc)]; exact hc
 unfold c_tEach
 refine vX ?_
 refine r_box (v := dv) (by simp (disch := (try simp only [sP]); omega) only [eV, e1]) ?_
 refine rA (dn (vX (rM ?_)))
 refine r_makeFunc ?_
 refine r_call' (args := #[.pointer (some ⟨b, o, none⟩), .func (.func E.gEach1) #[] #[.pointer (some ⟨w.heap.size, 0, none⟩)]]) ?_ (k_gAll0 hta ho hf hm hcw (tags_len hr hw1)) ?_
 ·simp only [lM]
  simp (disch := (try simp only [sP]); omega) only [eV, e0]
 rintro v' w' rfl
 refine dn (vX ?_)
 refine rL (b := w.heap.size) (o := 0) (v := dv) (by simp (disch := (try simp only [sP]); omega) only [eV]) hob (cells_new w _ _ (by rw [hdc]; rfl)) ?_
 refine rA (dn (vS (vT ?_)))
 refine ⟨by simp only [dF]; exact hdf, dv, rO (by simp (disch := (try simp only [sP]); omega) only [eV]), ?_, hbl⟩
 simpa using hown.alloc _
end
def on (f : Nat) (c : Bool) : Bool := f == 0 || c
theorem on_inv {f : Nat} {c : Bool} (h : on f c = true) (hf : f ≠ 0) : c = true := by
 simp only [on, Bool.or_eq_true, beq_iff_eq] at h
 exact h.resolve_left hf
def strB (P : Program) (t : TypeId) : Bool := match P.underlying t with | some .string => true | _ => false
theorem strB_inv {P : Program} {t : TypeId} (h : strB P t = true) : P.underlying t = some .string := by
 unfold strB at h
 split at h
 ·assumption
 ·cases h
def arrB (P : Program) (t e : TypeId) (n : Nat) : Bool := match P.underlying t with | some (.array n' e') => n' == n && e' == e | _ => false
theorem arrB_inv {P : Program} {t e : TypeId} {n : Nat} (h : arrB P t e n = true) : P.underlying t = some (.array n e) := by
 unfold arrB at h
 split at h
 ·rename_i n' e' hu
  simp only [Bool.and_eq_true, beq_iff_eq] at h
  obtain ⟨rfl, rfl⟩ := h
  exact hu
 ·cases h
def kB (P : Program) (E : Env) : Bool :=
 rowB P E.tB E.tU8 1 && (intT P E.tU8 == some .u8) && (intT P E.tI == some .i64) && oneT P E.tB && ((P.info? E.tU8).map (·.size) == some 1) &&
 on E.wU16 (intT P E.tU16 == some .u16) && on E.wU32 (intT P E.tW == some .u32) && on E.wU64 (intT P E.tU64 == some .u64) &&
 on E.wI8 (intT P E.tI8 == some .i8) && on E.wI16 (intT P E.tI16 == some .i16 && E.wU16 != 0) && on E.wI32 (intT P E.tI32 == some .i32 && E.wU32 != 0) && on E.wI64 (intT P E.tI64 == some .i64 && E.wU64 != 0) &&
 on E.wUvarint (intT P E.tW == some .u32 && strB P E.tStr && E.uvLen != 0 && E.len32 != 0) &&
 on E.wStr (strB P E.tStr && E.wI16 != 0) && on E.wCStr (strB P E.tStr && E.wUvarint != 0) &&
 on E.wNStr (ptrB P E.tPStr && oneT P E.tStr && E.wStr != 0 && E.wI16 != 0) && on E.wCNStr (ptrB P E.tPStr && oneT P E.tStr && E.wCStr != 0 && E.wUvarint != 0) &&
 on E.wBytes (E.wI32 != 0) && on E.wCBytes (E.wUvarint != 0) && on E.wNBytes (E.wBytes != 0 && E.wI32 != 0) && on E.wCNBytes (E.wCBytes != 0 && E.wUvarint != 0) &&
 on E.wLen (E.wI32 != 0) && on E.wCLen (E.wUvarint != 0) && on E.wNLen (E.wI32 != 0) && on E.wCNLen (E.wUvarint != 0) &&
 on E.wUuid (arrB P E.tUuid E.tU8 16) && on E.tLen (oneT P E.tTagMap && mapB P E.tTagMap && fieldOff P E.tTags 0 == some 0) && on E.tEach (oneT P E.tTagMap && mapB P E.tTagMap && fieldOff P E.tTags 0 == some 0 && E.gAll != 0) &&
 on E.wUvarint (intT P E.tW == some .u32) && (E.wF64 == 0)
structure KTexts (P : Program) (E : Env) : Prop where
 wBool : E.wBool ≠ 0 → Text P E.wBool 2 12 #[.tmp 4] (c_wBool E)
 wI8 : E.wI8 ≠ 0 → Text P E.wI8 2 10 #[.tmp 4] (c_wI8 E)
 wI16 : E.wI16 ≠ 0 → Text P E.wI16 2 9 #[.tmp 4] (c_wI16 E)
 wU16 : E.wU16 ≠ 0 → Text P E.wU16 2 13 #[.tmp 4] (c_wU16 E)
 wI32 : E.wI32 ≠ 0 → Text P E.wI32 2 9 #[.tmp 4] (c_wI32 E)
 wU32 : E.wU32 ≠ 0 → Text P E.wU32 2 19 #[.tmp 4] (c_wU32 E)
 wI64 : E.wI64 ≠ 0 → Text P E.wI64 2 9 #[.tmp 4] (c_wI64 E)
 wU64 : E.wU64 ≠ 0 → Text P E.wU64 2 31 #[.tmp 4] (c_wU64 E)
 wUuid : E.wUuid ≠ 0 → Text P E.wUuid 2 8 #[.tmp 4] (c_wUuid E)
 wStr : E.wStr ≠ 0 → Text P E.wStr 2 13 #[.tmp 4] (c_wStr E)
 wCStr : E.wCStr ≠ 0 → Text P E.wCStr 2 14 #[.tmp 4] (c_wCStr E)
 wNStr : E.wNStr ≠ 0 → Text P E.wNStr 2 14 #[.tmp 4] (c_wNStr E)
 wCNStr : E.wCNStr ≠ 0 → Text P E.wCNStr 2 14 #[.tmp 4] (c_wCNStr E)
 wBytes : E.wBytes ≠ 0 → Text P E.wBytes 2 13 #[.tmp 4] (c_wBytes E)
 wCBytes : E.wCBytes ≠ 0 → Text P E.wCBytes 2 14 #[.tmp 4] (c_wCBytes E)
 wNBytes : E.wNBytes ≠ 0 → Text P E.wNBytes 2 12 #[.tmp 4] (c_wNBytes E)
 wCNBytes : E.wCNBytes ≠ 0 → Text P E.wCNBytes 2 12 #[.tmp 4] (c_wCNBytes E)
 wLen : E.wLen ≠ 0 → Text P E.wLen 2 9 #[.tmp 4] (c_wLen E)
 wCLen : E.wCLen ≠ 0 → Text P E.wCLen 2 10 #[.tmp 4] (c_wCLen E)
 wNLen : E.wNLen ≠ 0 → Text P E.wNLen 3 14 #[.tmp 6] (c_wNLen E)
 wCNLen : E.wCNLen ≠ 0 → Text P E.wCNLen 3 15 #[.tmp 6] (c_wCNLen E)
 uvLen : E.uvLen ≠ 0 → Text P E.uvLen 1 8 #[.tmp 2] (c_uvLen E)
 len32 : E.len32 ≠ 0 → Text P E.len32 1 19 #[.tmp 2] (c_len32 E)
 wUvarint : E.wUvarint ≠ 0 → Text P E.wUvarint 2 93 #[.tmp 4] (c_wUvarint E)
 tLen : E.tLen ≠ 0 → Text P E.tLen 1 8 #[.tmp 2] (c_tLen E)
 tEach : E.tEach ≠ 0 → Text P E.tEach 2 9 #[.tmp 4] (c_tEach E)
 gAll : E.gAll ≠ 0 → Text P E.gAll 2 53 #[] (c_gAll E)
theorem envW0 {P : Program} {E : Env} (HT : KTexts P E) (hB : kB P E = true) : EnvW P E (fun tags => tags = []) := by
 simp only [kB, Bool.and_eq_true, beq_iff_eq, bne_iff_ne, ne_eq] at hB
 obtain ⟨⟨⟨⟨⟨⟨⟨⟨⟨⟨⟨⟨⟨⟨⟨⟨⟨⟨⟨⟨⟨⟨⟨⟨⟨⟨⟨⟨⟨row, u8⟩, ii⟩, ob⟩, s8⟩, oU16⟩, oU32⟩, oU64⟩, oI8⟩, oI16⟩, oI32⟩, oI64⟩, oUv⟩, oStr⟩, oCStr⟩, oNStr⟩, oCNStr⟩, oB⟩, oCB⟩, oNB⟩, oCNB⟩, oL⟩, oCL⟩, oNL⟩, oCNL⟩, oUu⟩, oTl⟩, oTe⟩, oUv2⟩, oF⟩ := hB
 have dec : ∀ {f : Nat} {c : Bool}, on f c = true → f ≠ 0 → c = true := fun h hf => on_inv h hf
 have cU16 : E.wU16 ≠ 0 → ∀ (n : Int) U w, 0 ≤ n ∧ n ≤ 65535 → Wr1 P E E.wU16 U [.int .u16 n] (be 2 n) w := fun h n U w hn =>
  k_u16 (HT.wU16 h) row (by simpa using dec oU16 h) u8 hn
 have cI16 : E.wI16 ≠ 0 → ∀ (n : Int) U w, Wr1 P E E.wI16 U [.int .i16 n] (be 2 n) w := fun h n U w => by
  have h2 := dec oI16 h
  simp only [Bool.and_eq_true, beq_iff_eq, bne_iff_ne, ne_eq] at h2
  exact k_i16 (HT.wI16 h) h2.1 (by simpa using dec oU16 h2.2) (cU16 h2.2)
 have cU32 : E.wU32 ≠ 0 → ∀ (n : Int) U w, 0 ≤ n ∧ n ≤ 4294967295 → Wr1 P E E.wU32 U [.int .u32 n] (be 4 n) w := fun h n U w hn =>
  k_u32 (HT.wU32 h) row (by simpa using dec oU32 h) u8 hn
 have cI32 : E.wI32 ≠ 0 → ∀ (n : Int) U w, Wr1 P E E.wI32 U [.int .i32 n] (be 4 n) w := fun h n U w => by
  have h2 := dec oI32 h
  simp only [Bool.and_eq_true, beq_iff_eq, bne_iff_ne, ne_eq] at h2
  exact k_i32 (HT.wI32 h) h2.1 (by simpa using dec oU32 h2.2) (cU32 h2.2)
 have cU64 : E.wU64 ≠ 0 → ∀ (n : Int) U w, 0 ≤ n ∧ n ≤ 18446744073709551615 → Wr1 P E E.wU64 U [.int .u64 n] (be 8 n) w := fun h n U w hn =>
  k_u64 (HT.wU64 h) row (by simpa using dec oU64 h) u8 hn
 have cI64 : E.wI64 ≠ 0 → ∀ (n : Int) U w, Wr1 P E E.wI64 U [.int .i64 n] (be 8 n) w := fun h n U w => by
  have h2 := dec oI64 h
  simp only [Bool.and_eq_true, beq_iff_eq, bne_iff_ne, ne_eq] at h2
  exact k_i64 (HT.wI64 h) h2.1 (by simpa using dec oU64 h2.2) (cU64 h2.2)
 have cUv : E.wUvarint ≠ 0 → ∀ (n : Nat) U w, n < 4294967296 → Wr1 P E E.wUvarint U [.int .u32 n] (Go.Km.uvar n) w := fun h n U w hn => by
  have h2 := dec oUv h
  simp only [Bool.and_eq_true, beq_iff_eq, bne_iff_ne, ne_eq] at h2
  exact k_uvar (HT.wUvarint h) (HT.uvLen h2.1.2) (HT.len32 h2.2) row u8 h2.1.1.1 ii (strB_inv h2.1.1.2) hn
 have iU32 : E.wUvarint ≠ 0 → intT P E.tW = some .u32 := fun h => by simpa using dec oUv2 h
 have iI16 : E.wI16 ≠ 0 → intT P E.tI16 = some .i16 := fun h => by
  have h2 := dec oI16 h
  simp only [Bool.and_eq_true, beq_iff_eq] at h2
  exact h2.1
 have iI32 : E.wI32 ≠ 0 → intT P E.tI32 = some .i32 := fun h => by
  have h2 := dec oI32 h
  simp only [Bool.and_eq_true, beq_iff_eq] at h2
  exact h2.1
 have cStr : E.wStr ≠ 0 → ∀ (l : List UInt8) U w, Wr1 P E E.wStr U [.string ⟨l.toArray⟩] (wrStr false l) w := fun h l U w => by
  have h2 := dec oStr h
  simp only [Bool.and_eq_true, bne_iff_ne, ne_eq] at h2
  exact k_str (HT.wStr h) row (iI16 h2.2) ii (strB_inv h2.1) (cI16 h2.2)
 have cCStr : E.wCStr ≠ 0 → ∀ (l : List UInt8) U w, Wr1 P E E.wCStr U [.string ⟨l.toArray⟩] (wrStr true l) w := fun h l U w => by
  have h2 := dec oCStr h
  simp only [Bool.and_eq_true, bne_iff_ne, ne_eq] at h2
  exact k_cstr (HT.wCStr h) row (iU32 h2.2) ii (strB_inv h2.1) (cUv h2.2)
 have cB : E.wBytes ≠ 0 → ∀ v o U w, OctAt w U v o → Wr1 P E E.wBytes U [v] (wrBytes false (o.getD [])) w := fun h v o U w hv => by
  have h2 := dec oB h
  simp only [bne_iff_ne, ne_eq] at h2
  exact k_octs (HT.wBytes h) row (iI32 h2) ii hv (cI32 h2)
 have cCB : E.wCBytes ≠ 0 → ∀ v o U w, OctAt w U v o → Wr1 P E E.wCBytes U [v] (wrBytes true (o.getD [])) w := fun h v o U w hv => by
  have h2 := dec oCB h
  simp only [bne_iff_ne, ne_eq] at h2
  exact k_cocts (HT.wCBytes h) row (iU32 h2) ii hv (cUv h2)
 refine { bytes := rB row, scal := ?_, uuid := ?_, str := fun h l U w => cStr h l U w, cstr := fun h l U w => cCStr h l U w, nstr := ?_, cnstr := ?_, octs := cB, cocts := cCB, nocts := ?_, cnocts := ?_, len := ?_, clen := ?_, nlen := ?_, cnlen := ?_, uvar := cUv, tlen := ?_, teach := ?_ }
 ·intro s hs n U w hn
  cases s with
  | bool =>
   have hb := k_bool (U := U) (w := w) (b := n != 0) (HT.wBool hs) row
   exact hb
  | i8 =>
   have h2 := dec oI8 hs
   simp only [beq_iff_eq] at h2
   exact k_i8 (HT.wI8 hs) row h2 u8
  | i16 => exact cI16 hs n U w
  | i32 => exact cI32 hs n U w
  | i64 => exact cI64 hs n U w
  | u16 => exact cU16 hs n U w hn
  | f64 => exact absurd oF hs
 ·intro h l U w hl
  exact k_uuid (HT.wUuid h) row hl (arrB_inv (dec oUu h)) s8
 ·intro h v o U w hv
  have h2 := dec oNStr h
  simp only [Bool.and_eq_true, bne_iff_ne, ne_eq] at h2
  obtain ⟨te, hte⟩ := ptrB_inv h2.1.1.1
  exact k_nstr (HT.wNStr h) hte h2.1.1.2 hv (cI16 h2.2) (cStr h2.1.2)
 ·intro h v o U w hv
  have h2 := dec oCNStr h
  simp only [Bool.and_eq_true, bne_iff_ne, ne_eq] at h2
  obtain ⟨te, hte⟩ := ptrB_inv h2.1.1.1
  exact k_cnstr (HT.wCNStr h) hte h2.1.1.2 hv (cUv h2.2) (cCStr h2.1.2)
 ·intro h v o U w hv
  have h2 := dec oNB h
  simp only [Bool.and_eq_true, bne_iff_ne, ne_eq] at h2
  exact k_nocts (HT.wNBytes h) row hv (cI32 h2.2) (cB h2.1)
 ·intro h v o U w hv
  have h2 := dec oCNB h
  simp only [Bool.and_eq_true, bne_iff_ne, ne_eq] at h2
  exact k_cnocts (HT.wCNBytes h) row hv (cUv h2.2) (cCB h2.1)
 ·intro h n U w hn
  have h2 := dec oL h
  simp only [bne_iff_ne, ne_eq] at h2
  exact k_len (HT.wLen h) (iI32 h2) ii hn (cI32 h2)
 ·intro h n U w hn
  have h2 := dec oCL h
  simp only [bne_iff_ne, ne_eq] at h2
  exact k_clen (HT.wCLen h) (iU32 h2) ii hn (cUv h2)
 ·intro h n b U w hn
  have h2 := dec oNL h
  simp only [bne_iff_ne, ne_eq] at h2
  exact k_nlen (HT.wNLen h) (iI32 h2) ii hn (cI32 h2)
 ·intro h n b U w hn
  have h2 := dec oCNL h
  simp only [bne_iff_ne, ne_eq] at h2
  exact k_cnlen (HT.wCNLen h) (iU32 h2) ii hn (cUv h2)
 ·intro h W0 sb b o v tags w _ hc hr hw
  have h2 := dec oTl h
  simp only [Bool.and_eq_true, beq_iff_eq] at h2
  exact k_tlen (HT.tLen h) h2.1.1 h2.2 h2.1.2 hc hr hw
 ·intro h W0 sb b o v tags w hT hc hr hw dv xs hown hb
  have h2 := dec oTe h
  simp only [Bool.and_eq_true, beq_iff_eq, bne_iff_ne, ne_eq] at h2
  have h0 : tags = [] := by
   have := hr.2.1
   rw [hT] at this
   exact this
  exact k_teach0 (HT.tEach h) (HT.gAll h2.2) ob h2.1.1.1 h2.1.2 h2.1.1.2 h0 hc hr hw hown
end Go.Km
namespace Go.Km
open Go Go.RowKit
attribute [local irreducible] vc rO_ runG runS runD
section
variable {P : Program} {a : Act} {w : World} {Q : Exit → Act → World → Prop}
theorem vc_count {body : Code} (I : Nat → Act → World → Prop) (n : Nat) (h0 : I n a w) (step : ∀ m a w, I (m + 1) a w → vc P body (Exit.then (I m) Q) a w) (done : ∀ a w, I 0 a w → vc P body (Exit.then (fun _ _ => False) Q) a w) : vc P (.loop body) Q a w := by
 classical
 have hmin : ∀ (p : Nat → Prop) (m : Nat), p m → ∃ k, k ≤ m ∧ p k ∧ ∀ j, j < k → ¬ p j := by
  intro p m
  induction m using Nat.strongRecOn with
  | ind m ih =>
   intro hm
   by_cases h : ∃ j, j < m ∧ p j
   ·obtain ⟨j, hj, hp⟩ := h
    obtain ⟨k, hk, hpk, hl⟩ := ih j hj hp
    exact ⟨k, by omega, hpk, hl⟩
   ·exact ⟨m, Nat.le_refl _, hm, fun j hj hp => h ⟨j, hj, hp⟩⟩
 let μ : Act → World → Nat := fun a w => if h : ∃ m, I m a w then Classical.choose (hmin (fun m => I m a w) (Classical.choose h) (Classical.choose_spec h)) else 0
 have hμ : ∀ a w, (∃ m, I m a w) → I (μ a w) a w ∧ ∀ j, j < μ a w → ¬ I j a w := by
  intro a w h
  have := Classical.choose_spec (hmin (fun m => I m a w) (Classical.choose h) (Classical.choose_spec h))
  have e : μ a w = Classical.choose (hmin (fun m => I m a w) (Classical.choose h) (Classical.choose_spec h)) := dif_pos h
  rw [e]
  exact ⟨this.2.1, this.2.2⟩
 refine vc_loop (fun a w => ∃ m, I m a w) μ ⟨n, h0⟩ ?_
 intro a w h
 obtain ⟨h1, h2⟩ := hμ a w h
 cases hm : μ a w with
 | zero =>
  rw [hm] at h1
  refine vc_mono _ (done a w h1) ?_
  intro e a' w' h
  cases e <;> first | exact h.elim | exact h
 | succ m =>
  rw [hm] at h1
  refine vc_mono _ (step m a w h1) ?_
  intro e a' w' h
  cases e with
  | normal =>
   refine ⟨⟨m, h⟩, ?_⟩
   have := (hμ a' w' ⟨m, h⟩).2
   rcases Nat.lt_or_ge (μ a' w') (m + 1) with h' | h'
   ·exact h'
   ·exact absurd h (this m (by omega))
  | _ => exact h
end
theorem be_succ (k : Nat) (n : Int) : be (k + 1) n = o8 (n.fdiv (256 ^ k) % 256) :: be k n := rfl
theorem be_len : ∀ (k : Nat) (n : Int), (be k n).length = k
 | 0, _ => rfl
 | k + 1, n => by rw [be_succ, List.length_cons, be_len k n]
section
variable {P : Program} {E : Env} {w : World} {U : Nat}
end
end Go.Km
namespace Go.Km
open Go Go.RowKit
attribute [local irreducible] vc rO_ runG runS runD
section
variable {P : Program} {a : Act} {w : World} {Q : Exit → Act → World → Prop} {r : List Oper}
theorem vc_rgS {ops : List Oper} (ord : List Nat) (ho : List.range ops.length = ord) (h : runS P ops Q ord a w) : vc P (rg ops) Q a w := by
 subst ho
 exact vc_runS h
theorem r_rem {d xt x y yt ty p af g k m n} (hx : a.eval x = .int k m) (hy : a.eval y = .int k n) (hn : n ≠ 0) (h : rO_ P Q r (a.put (some d) (.int k (m.tmod n))) w) : rO_ P Q (⟨some d, .binOp .rem xt x y yt, ty, p, af, g⟩ :: r) a w := by
 refine st ?_
 simp only [Oper.wp, execOp, hx, hy, eqGuard_at_int, binOp_rem, Op.intDiv, hn, if_false, Sem.run_bind, Sem.run_pure, Result.andThen_ok, Oper.upon_value]
 exact h
end
section
variable {P : Program} {E : Env} {w : World} {U : Nat}
def widthOf (k : Nat) : Nat := if k = 1 then 1 else if k = 2 ∨ k = 5 then 2 else if k = 3 then 4 else 8
theorem s_version (ht : Text P E.lVersion 2 10 #[.tmp 4] (c_lVersion E)) (i8 : intT P E.tU8 = some .u8) (ii : intT P E.tI = some .i64) {n most : Nat} (hn : n < 256) (hm : most < 32768) :
  CallsV P E.lVersion #[.int .u8 n, .int .i64 most] w fun v w' => v = .int .i64 ((n % (most + 1) : Nat) : Int) ∧ w' = w := by
 refine CallsV.enter ht (by simp) ?_
 intro a hsz hdf harg
 have e0 := harg 0 (.int .u8 n) (by simp)
 have e1 := harg 1 (.int .i64 most) (by simp)
 unfold c_lVersion
 refine vX (rA (dn (vX (rM ?_))))
 refine r_conv (by assumption) (by assumption) (by (try simp (disch := (try simp only [sP]); omega) only [eV, e0]) <;> (first | rfl | assumption)) ?_
 refine rM ?_
 refine r_add (by (try simp (disch := (try simp only [sP]); omega) only [eV, e1]) <;> (first | rfl | assumption)) (by (try simp (disch := (try simp only [sP]); omega) only [eV, e1]) <;> (first | rfl | assumption)) ?_
 have h1 : IntKind.i64.wrap ((n : Nat) : Int) = n := wrap_i64 (by omega) (by omega)
 have h2 : IntKind.i64.wrap ((most : Int) + 1) = ((most + 1 : Nat) : Int) := by rw [wrap_i64 (by omega) (by omega)]; omega
 rw [h1, h2]
 refine r_rem (k := .i64) (m := (n : Int)) (n := ((most + 1 : Nat) : Int)) (by simp (disch := (try simp only [sP]); omega) only [eV]) (by simp (disch := (try simp only [sP]); omega) only [eV]) (by omega) ?_
 refine rA (dn (vS (vT ?_)))
 refine ⟨by simp only [dF]; exact hdf, _, rO (by (try simp (disch := (try simp only [sP]); omega) only [eV]) <;> (first | rfl | assumption)), ?_, rfl⟩
 rw [Int.tmod_eq_emod_of_nonneg (by omega)]
 simp
def cnt (flex null : Bool) (n size : Nat) : List UInt8 := if flex && null then [0] else if flex then Go.Km.uvar (n + 1) else if null then be size (-1) else be size n
end
end Go.Km
namespace Go.Km
open Go Go.RowKit
attribute [local irreducible] vc rO_ runG runS runD
mutual
inductive Tr where
 | mk (n : Int) (s : List UInt8) (nl : Bool) (l : Trs) (u : List (Nat × List UInt8))
inductive Trs where
 | nil
 | cons (t : Tr) (r : Trs)
end
mutual
inductive SF where
 | mk (kind fr to nul tag df el : Int) (sub : SFs)
inductive SFs where
 | nil
 | cons (f : SF) (r : SFs)
end
def Trs.len : Trs → Nat
 | .nil => 0
 | .cons _ r => r.len + 1
def Trs.get : Trs → Nat → Option Tr
 | .nil, _ => none
 | .cons t _, 0 => some t
 | .cons _ r, i + 1 => r.get i
def SFs.len : SFs → Nat
 | .nil => 0
 | .cons _ r => r.len + 1
def SFs.get : SFs → Nat → Option SF
 | .nil, _ => none
 | .cons t _, 0 => some t
 | .cons _ r, i + 1 => r.get i
def Tr.zero : Tr := .mk 0 [] false .nil []
def Tr.at (t : Tr) (i : Nat) : Tr := match t with | .mk _ _ _ l _ => (l.get i).getD .zero
def NilS (v : Value) : Prop := ∃ ad cap, v = .slice ad 0 cap
def OctsB (w : World) (U : Nat) (v : Value) (l : List UInt8) : Prop :=
 (NilS v ∧ l = []) ∨ ∃ q o cap, v = .slice (some ⟨q, o, none⟩) l.length cap ∧ l.length ≤ cap ∧ q < U ∧ Cells w q o (l.map bv)
def UnkB (w : World) (U : Nat) (v : Value) (u : List (Nat × List UInt8)) : Prop :=
 (NilS v ∧ u = []) ∨ ∃ q o cap, v = .slice (some ⟨q, o, none⟩) u.length cap ∧ u.length ≤ cap ∧ q < U ∧
  ∀ (i : Nat) (x : Nat × List UInt8), u[i]? = some x → ∃ sv, x.1 < 4294967296 ∧ Cells w q (o + i * 2) [.int .u32 x.1, sv] ∧ OctsB w U sv x.2
mutual
def Tr.Rep (w : World) (U : Nat) : Tr → List Value → Prop
 | .mk n s nl l u, cs => ∃ sv lv uv, cs = [.int .i64 n, sv, .bool nl, lv, uv] ∧ OctsB w U sv s ∧ UnkB w U uv u ∧
   ((NilS lv ∧ l.len = 0) ∨ ∃ q o cap, lv = .slice (some ⟨q, o, none⟩) l.len cap ∧ l.len ≤ cap ∧ q < U ∧ l.Rep w U q o)
def Trs.Rep (w : World) (U q : Nat) : Trs → Nat → Prop
 | .nil, _ => True
 | .cons t r, o => (∃ c, Cells w q o c ∧ t.Rep w U c) ∧ r.Rep w U q (o + 5)
end
mutual
def SF.Rep (w : World) (U : Nat) : SF → List Value → Prop
 | .mk kind fr to nul tag df el sub, cs => ∃ sv, cs = [.int .i64 kind, .int .i64 fr, .int .i64 to, .int .i64 nul, .int .i64 tag, .int .i64 df, .int .i64 el, sv] ∧
   ((sv = .slice none 0 0 ∧ sub.len = 0) ∨ ∃ q o cap, sv = .slice (some ⟨q, o, none⟩) sub.len cap ∧ sub.len ≤ cap ∧ q < U ∧ sub.Rep w U q o)
def SFs.Rep (w : World) (U q : Nat) : SFs → Nat → Prop
 | .nil, _ => True
 | .cons f r, o => (∃ c, Cells w q o c ∧ f.Rep w U c) ∧ r.Rep w U q (o + 8)
end
theorem Tr.Rep.len {w : World} {U : Nat} {t : Tr} {cs : List Value} (h : t.Rep w U cs) : cs.length = 5 := by
 cases t with
 | mk n s nl l u => obtain ⟨_, _, _, rfl, _⟩ := h; rfl
theorem SF.Rep.len {w : World} {U : Nat} {f : SF} {cs : List Value} (h : f.Rep w U cs) : cs.length = 8 := by
 cases f with
 | mk => obtain ⟨_, rfl, _⟩ := h; rfl
theorem Trs.Rep.get {w : World} {U q : Nat} : ∀ {l : Trs} {o : Nat}, l.Rep w U q o → ∀ {i : Nat} {t : Tr}, l.get i = some t → ∃ c, Cells w q (o + i * 5) c ∧ t.Rep w U c
 | .nil, _, _, _, _, h => by cases h
 | .cons t r, o, ⟨h1, h2⟩, i, u, h => by
  cases i with
  | zero =>
   simp only [Trs.get, Option.some.injEq] at h
   subst h
   simpa using h1
  | succ i =>
   obtain ⟨c, h3, h4⟩ := Trs.Rep.get (l := r) h2 (i := i) h
   exact ⟨c, by rwa [show o + 5 + i * 5 = o + (i + 1) * 5 by omega] at h3, h4⟩
theorem SFs.Rep.get {w : World} {U q : Nat} : ∀ {l : SFs} {o : Nat}, l.Rep w U q o → ∀ {i : Nat} {t : SF}, l.get i = some t → ∃ c, Cells w q (o + i * 8) c ∧ t.Rep w U c
 | .nil, _, _, _, _, h => by cases h
 | .cons t r, o, ⟨h1, h2⟩, i, u, h => by
  cases i with
  | zero =>
   simp only [SFs.get, Option.some.injEq] at h
   subst h
   simpa using h1
  | succ i =>
   obtain ⟨c, h3, h4⟩ := SFs.Rep.get (l := r) h2 (i := i) h
   exact ⟨c, by rwa [show o + 8 + i * 8 = o + (i + 1) * 8 by omega] at h3, h4⟩
theorem OctsB.below {w w' : World} {U : Nat} {v : Value} {l : List UInt8} (h : OctsB w U v l) (hw : Below U w w') : OctsB w' U v l := by
 rcases h with h | ⟨q, o, cap, h1, h2, h3, h4⟩
 ·exact .inl h
 ·exact .inr ⟨q, o, cap, h1, h2, h3, h4.below hw h3⟩
theorem UnkB.below {w w' : World} {U : Nat} {v : Value} {u : List (Nat × List UInt8)} (h : UnkB w U v u) (hw : Below U w w') : UnkB w' U v u := by
 rcases h with h | ⟨q, o, cap, h1, h2, h3, h4⟩
 ·exact .inl h
 ·refine .inr ⟨q, o, cap, h1, h2, h3, fun i x hx => ?_⟩
  obtain ⟨sv, h0, h5, h6⟩ := h4 i x hx
  exact ⟨sv, h0, h5.below hw h3, h6.below hw⟩
mutual
theorem Tr.Rep.below {w w' : World} {U : Nat} (hw : Below U w w') : ∀ {t : Tr} {cs : List Value}, t.Rep w U cs → t.Rep w' U cs
 | .mk n s nl l u, cs, ⟨sv, lv, uv, h1, h2, h3, h4⟩ => by
  refine ⟨sv, lv, uv, h1, h2.below hw, h3.below hw, ?_⟩
  rcases h4 with h4 | ⟨q, o, cap, h5, h6, h7, h8⟩
  ·exact .inl h4
  ·exact .inr ⟨q, o, cap, h5, h6, h7, Trs.Rep.below hw h7 h8⟩
theorem Trs.Rep.below {w w' : World} {U q : Nat} (hw : Below U w w') (hq : q < U) : ∀ {l : Trs} {o : Nat}, l.Rep w U q o → l.Rep w' U q o
 | .nil, _, _ => trivial
 | .cons t r, o, ⟨⟨c, h1, h2⟩, h3⟩ => ⟨⟨c, h1.below hw hq, Tr.Rep.below hw h2⟩, Trs.Rep.below hw hq h3⟩
end
mutual
theorem SF.Rep.below {w w' : World} {U : Nat} (hw : Below U w w') : ∀ {t : SF} {cs : List Value}, t.Rep w U cs → t.Rep w' U cs
 | .mk kind fr to nul tag df el sub, cs, ⟨sv, h1, h4⟩ => by
  refine ⟨sv, h1, ?_⟩
  rcases h4 with h4 | ⟨q, o, cap, h5, h6, h7, h8⟩
  ·exact .inl h4
  ·exact .inr ⟨q, o, cap, h5, h6, h7, SFs.Rep.below hw h7 h8⟩
theorem SFs.Rep.below {w w' : World} {U q : Nat} (hw : Below U w w') (hq : q < U) : ∀ {l : SFs} {o : Nat}, l.Rep w U q o → l.Rep w' U q o
 | .nil, _, _ => trivial
 | .cons t r, o, ⟨⟨c, h1, h2⟩, h3⟩ => ⟨⟨c, h1.below hw hq, SF.Rep.below hw h2⟩, SFs.Rep.below hw hq h3⟩
end
section
variable {P : Program} {a : Act} {w : World} {r : List Oper} {Q : Exit → Act → World → Prop}
end
def SF.has : SF → Int → Bool
 | .mk _ fr to _ _ _ _ _, v => decide (fr ≤ v) && (decide (to < 0) || decide (v ≤ to))
def SF.isNull : SF → Int → Tr → Bool
 | .mk _ _ _ nul _ _ _ _, v, .mk _ _ nl _ _ => nl && decide (nul ≥ 0) && decide (v ≥ nul)
section
variable {P : Program} {E : Env} {w : World} {U : Nat}
end
end Go.Km
namespace Go.Km
open Go Go.RowKit
attribute [local irreducible] vc rO_ runG runS runD
section
variable {P : Program} {a : Act} {w : World} {r : List Oper} {Q : Exit → Act → World → Prop}
def lays (P : Program) (t : TypeId) : Option (List (Nat × Nat) × Array Value) :=
 match P.underlying t, P.info? t with
 | some (.struct fs), some it =>
  match it.zero, fs.toList.mapM (fun f => (P.info? f.type).map fun i => (f.offset, i.size)) with
  | some z, some pl => some (pl, z.cells)
  | _, _ => none
 | _, _ => none
theorem run_buildL {t : TypeId} {pl : List (Nat × Nat)} {z cells : Array Value} {parts : Array (Nat × Value)} (h : lays P t = some (pl, z)) (hf : Instr.fill (pl.toArray[·]?) z parts.toList = some cells) :
  (Instr.build t parts).run P w = .ok (.agg cells) w := by
 refine run_build w t parts cells ?_
 unfold lays at h
 split at h
 ·rename_i fs it hu hi
  split at h
  ·rename_i z' pl' hz hp
   simp only [Option.some.injEq, Prod.mk.injEq] at h
   obtain ⟨rfl, rfl⟩ := h
   unfold Program.built
   rw [hi, hu]
   simp only [hz, hp]
   exact hf
  ·cases h
 ·cases h
theorem r_build {d t ps ty p af g pl z cells} (h : lays P t = some (pl, z)) (hf : Instr.fill (pl.toArray[·]?) z (ps.map fun (x : Nat × Operand) => (x.1, a.eval x.2)).toList = some cells)
  (hn : rO_ P Q r (a.put (some d) (.agg cells)) w) : rO_ P Q (⟨some d, .build t ps, ty, p, af, g⟩ :: r) a w := by
 refine st ?_
 have hr : (Instr.build t (ps.map fun (i, x) => (i, a.eval x))).run P w = .ok (.agg cells) w := run_buildL h hf
 simp only [Oper.wp, execOp, Sem.run_bind, hr, Sem.run_pure, Result.andThen_ok, Oper.upon_value]
 exact hn
theorem results_cell {t : Nat} {T : TypeId} {b o : Nat} {cs : List Value} (h : a.eval (.tmp t) = .pointer (some ⟨b, o, none⟩)) (hT : aggT P T = some cs.length) (hc : Cells w b o cs) :
  (results { (default : Func) with results := #[.cell t T] } a.tmps).run P w = .ok (.agg cs.toArray) w := by
 obtain ⟨h1, h2⟩ := aggT_inv hT
 have hl : (loadVar T ⟨b, o, none⟩).run P w = .ok (.agg cs.toArray) w := by
  simp only [loadVar, Sem.run_bind, h1, Result.andThen_ok, if_true, h2, run_loadCells hc, Sem.run_pure]
 have h' : a.tmps[t]?.getD undef = .pointer (some ⟨b, o, none⟩) := by simpa [Act.eval] using h
 simp [results, h', asAddr, hl]
end
section
variable {P : Program} {E : Env} {w : World} {U : Nat}
theorem lays_zero {P : Program} {t : TypeId} {pl : List (Nat × Nat)} {z : Array Value} (h : lays P t = some (pl, z)) : ∃ v, zeroT P t = some v ∧ v.cells = z := by
 unfold lays at h
 split at h
 ·rename_i fs it hu hi
  split at h
  ·rename_i z' pl' hz hp
   simp only [Option.some.injEq, Prod.mk.injEq] at h
   exact ⟨z', by simp [zeroT, hi, hz], h.2⟩
  ·cases h
 ·cases h
theorem OctsB.one {w : World} {U : Nat} {v : Value} {l : List UInt8} (h : OctsB w U v l) : v.oneCell' = true := by
 rcases h with ⟨⟨_, _, rfl⟩, _⟩ | ⟨q, o, cap, rfl, _⟩ <;> rfl
theorem Tr.Rep.one {w : World} {U : Nat} {t : Tr} {cs : List Value} (h : t.Rep w U cs) : ∀ v ∈ cs, v.oneCell' = true := by
 cases t with
 | mk n s nl l u =>
  obtain ⟨sv, lv, uv, rfl, h1, h2, h3⟩ := h
  have e1 := h1.one
  have e2 : uv.oneCell' = true := by rcases h2 with ⟨⟨_, _, rfl⟩, _⟩ | ⟨q, o, cap, rfl, _⟩ <;> rfl
  have e3 : lv.oneCell' = true := by rcases h3 with ⟨⟨_, _, rfl⟩, _⟩ | ⟨q, o, cap, rfl, _⟩ <;> rfl
  intro v hv
  simp only [List.mem_cons, List.not_mem_nil, or_false] at hv
  rcases hv with rfl | rfl | rfl | rfl | rfl <;> first | rfl | assumption
theorem SF.Rep.one {w : World} {U : Nat} {f : SF} {cs : List Value} (h : f.Rep w U cs) : ∀ v ∈ cs, v.oneCell' = true := by
 cases f with
 | mk =>
  obtain ⟨sv, rfl, h3⟩ := h
  have e3 : sv.oneCell' = true := by rcases h3 with ⟨rfl, _⟩ | ⟨q, o, cap, rfl, _⟩ <;> rfl
  intro v hv
  simp only [List.mem_cons, List.not_mem_nil, or_false] at hv
  rcases hv with rfl | rfl | rfl | rfl | rfl | rfl | rfl | rfl <;> first | rfl | assumption
end
end Go.Km
namespace Go.Km
open Go Go.RowKit
attribute [local irreducible] vc rO_ runG runS runD
def RowB (w : World) (v : Value) (l : List UInt8) : Prop :=
 (v = .slice none 0 0 ∧ l = []) ∨ ∃ q o cap, v = .slice (some ⟨q, o, none⟩) l.length cap ∧ Cells w q o (l.map bv)
theorem RowB.of_own {w : World} {U : Nat} {e : TypeId} {v : Value} {l : List UInt8} (h : w.ownsRow U e 1 v l.length (l.map bv)) : RowB w v l := by
 rcases h.2 with ⟨rfl, h0⟩ | ⟨g, cap, cur, rfl, hbg, hg, hnc, hcm, hcs, htake⟩
 ·exact .inl ⟨rfl, List.eq_nil_of_length_eq_zero h0⟩
 ·refine .inr ⟨g, 0, cap, rfl, ?_⟩
  intro j u hu
  have := h.cells (g := g) rfl j u hu
  rwa [Addr.add_lit] at this
theorem RowB.form {w : World} {v : Value} {l : List UInt8} (h : RowB w v l) : ∃ ad cap, v = .slice ad l.length cap := by
 rcases h with ⟨rfl, rfl⟩ | ⟨q, o, cap, rfl, _⟩ <;> exact ⟨_, _, rfl⟩
theorem RowB.at {w : World} {v : Value} {l : List UInt8} (h : RowB w v l) {i : Nat} (hi : i < l.length) : ∃ q o cap, v = .slice (some ⟨q, o, none⟩) l.length cap ∧ w.cell? ⟨q, o + i, none⟩ = some (.int .u8 (l[i]).toNat) := by
 rcases h with ⟨rfl, rfl⟩ | ⟨q, o, cap, rfl, hc⟩
 ·simp at hi
 ·refine ⟨q, o, cap, rfl, ?_⟩
  exact hc i (bv l[i]) (by simp [hi])
theorem cell_heap {w w' : World} (h : w'.heap = w.heap) (p : Addr) : w'.cell? p = w.cell? p := by
 unfold World.cell?
 rw [h]
theorem RowB.heap {w w' : World} (h : w'.heap = w.heap) {v : Value} {l : List UInt8} (hr : RowB w v l) : RowB w' v l := by
 rcases hr with hr | ⟨q, o, cap, h1, h2⟩
 ·exact .inl hr
 ·exact .inr ⟨q, o, cap, h1, fun i u hu => by rw [cell_heap h]; exact h2 i u hu⟩
section
variable {P : Program} {a : Act} {w : World} {Q : Exit → Act → World → Prop}
theorem vc_rgd {ops : List Oper} (ord : List (Nat × Bool)) (S : World → Prop) (hm : P.follows .mixedOrders = true) (hs : Region.noSelect ops.toArray = true) (hl : ord.length = ops.length) (hB : ordB ops.toArray ord (Array.replicate ops.length false) = true)
  (hQ : ∀ c a a' w, Q (.panic c) a w → Q (.panic c) a' w) (h : runD P ops Q S ord a { w with drawn := w.drawn + 1 }) : vc P (rgd ops) Q a w := vc_runD ord S hm hs hl hB hQ h
end
section
variable {P : Program} {E : Env} {w : World} {U : Nat}
set_option maxHeartbeats 600000 in
theorem s_same (hrw : rowB P E.tB E.tU8 1 = true) (hU8 : oneT P E.tU8 = true) (hmix : P.follows .mixedOrders = true) (ht : Text P E.sSame 2 26 #[.tmp 4] (c_sSame E)) {v1 v2 : Value} {xs ys : List UInt8} (h1 : RowB w v1 xs) (h2 : RowB w v2 ys) (hb1 : xs.length ≤ big) (hb2 : ys.length ≤ big) :
  CallsV P E.sSame #[v1, v2] w fun r w' => r = .bool (decide (xs = ys)) ∧ Below U w w' := by
 unfold big at hb1 hb2
 refine CallsV.enter ht (by simp) ?_
 intro a hsz hdf harg
 have e0 := harg 0 v1 (by simp)
 have e1 := harg 1 v2 (by simp)
 have hsl := rB hrw
 obtain ⟨ad1, cap1, f1⟩ := h1.form
 obtain ⟨ad2, cap2, f2⟩ := h2.form
 unfold c_sSame
 refine vX (rA (dn (vS (vX (rM ?_)))))
 refine r_len (ad := ad1) (n := xs.length) (c := cap1) hsl (by simp (disch := (try simp only [sP]); omega) only [eV, e0, f1]) ?_
 refine rM ?_
 refine r_len (ad := ad2) (n := ys.length) (c := cap2) hsl (by simp (disch := (try simp only [sP]); omega) only [eV, e1, f2]) ?_
 refine r_neq (k := .i64) (m := (xs.length : Int)) (n := (ys.length : Int)) (by simp (disch := (try simp only [sP]); omega) only [eV]) (by simp (disch := (try simp only [sP]); omega) only [eV]) ?_
 refine dn ?_
 refine vS (vC (t := ((xs.length : Int) != (ys.length : Int))) (by (try simp (disch := (try simp only [sP]); omega) only [eV]) <;> (first | rfl | assumption)) ?_ ?_)
 ·intro hne
  have hne' : ¬ xs = ys := by
   intro he
   subst he
   simp at hne
  refine vX (rA (dn (vS (vT ?_))))
  exact ⟨by simp only [dF]; exact hdf, _, rO (by (try simp (disch := (try simp only [sP]); omega) only [eV]) <;> (first | rfl | assumption)), by simp [hne'], Below.refl _ _⟩
 intro heq
 have hlen : xs.length = ys.length := by simp only [bne_eq_false_iff_eq] at heq; omega
 refine vK (vN (vS (vX (rM ?_))))
 refine r_len (ad := ad1) (n := xs.length) (c := cap1) hsl (by simp (disch := (try simp only [sP]); omega) only [eV, e0, f1]) ?_
 refine rM (dn ?_)
 refine vS (vc_block (vc_count (fun m A W => m ≤ xs.length ∧ A.tmps.size = 26 ∧ A.defers = [] ∧ A.eval (.tmp 0) = v1 ∧ A.eval (.tmp 1) = v2 ∧ A.eval (.tmp 12) = .int .i64 (xs.length : Int) ∧ A.eval (.tmp 13) = .int .i64 ((xs.length - m : Nat) : Int) ∧
  W.heap = w.heap ∧ Below U w W ∧ ∀ j (h : j < xs.length), j < xs.length - m → xs[j] = ys[j]'(by omega)) xs.length ?_ ?_ ?_))
 ·refine ⟨Nat.le_refl _, by simp only [zP]; exact hsz, by simp only [dF]; exact hdf, (by simp (disch := (try simp only [sP]); omega) only [eV, e0]), (by simp (disch := (try simp only [sP]); omega) only [eV, e1]), (by simp (disch := (try simp only [sP]); omega) only [eV]), ?_, rfl, Below.refl _ _, fun j h h' => by omega⟩
  simp (disch := (try simp only [sP]); omega) only [eV]
  simp
 ·rintro m A W ⟨hm, hs, hd, g0, g1, g12, g13, hheap, hbl, hall⟩
  have hi : xs.length - (m + 1) < xs.length := by omega
  generalize hii : xs.length - (m + 1) = i at *
  have r1 := h1.heap hheap
  have r2 := h2.heap hheap
  obtain ⟨q1, o1, c1, k1, l1⟩ := r1.at hi
  obtain ⟨q2, o2, c2, k2, l2⟩ := r2.at (show i < ys.length by omega)
  obtain ⟨x8, hx8⟩ : ∃ x8 : Nat, (xs[i]).toNat = x8 := ⟨_, rfl⟩
  obtain ⟨y8, hy8⟩ : ∃ y8 : Nat, (ys[i]'(by omega)).toNat = y8 := ⟨_, rfl⟩
  rw [hx8] at l1
  rw [hy8] at l2
  refine vX ?_
  refine r_lss (k := .i64) (m := (i : Int)) (n := (xs.length : Int)) g13 g12 ?_
  refine dn ?_
  refine vS (vC (t := true) ?_ ?_ (fun h => by cases h))
  ·simp (disch := (try simp only [sP]); omega) only [eV]
   simp only [Value.bool.injEq, decide_eq_true_eq]
   omega
  intro _
  refine vK ?_
  refine vS (vc_block (vX ?_))
  refine rM (rA (dn ?_))
  refine vS (vc_rgd [(0, true), (1, true), (2, true), (3, true), (4, true), (5, true), (6, true), (7, true), (8, true)] (fun W' => W'.heap = W.heap) hmix (by kernel_rfl) rfl (by kernel_rfl) (fun _ _ _ _ h => False.elim h) ?_)
  have hS : ({ W with drawn := W.drawn + 1 } : World).heap = W.heap := rfl
  have hs0 := hs
  refine dP rfl rfl rfl (wN rfl) (by simp only [zP, hs]; decide) hS (fun w' hS' => rM (dn ⟨rfl, rfl, rfl⟩)) ?_
  refine dP rfl rfl rfl (wN rfl) (by simp only [zP, hs]; decide) hS (fun w' hS' => rM (dn ⟨rfl, rfl, rfl⟩)) ?_
  refine dP rfl rfl rfl (wN rfl) (by simp only [zP, hs]; decide) hS (fun w' hS' => r_index (k := .i64) (j := i) (b := q1) (o := o1) (len := xs.length) (cap := c1) hsl (by simp (disch := (try simp only [sP]); omega) only [eV, g0, k1]) (by simp (disch := (try simp only [sP]); omega) only [eV, g13]) hi (dn ⟨rfl, rfl, rfl⟩)) ?_
  refine dP rfl rfl rfl (wN rfl) (by simp only [zP, hs]; decide) hS (fun w' hS' => rL (b := q1) (o := o1 + i * 1) (by simp (disch := (try simp only [sP]); omega) only [eV]) hU8 (by rw [cell_heap hS', Nat.mul_one]; exact l1) (dn ⟨rfl, rfl, rfl⟩)) ?_
  refine dP rfl rfl rfl (wN rfl) (by simp only [zP, hs]; decide) hS (fun w' hS' => rM (dn ⟨rfl, rfl, rfl⟩)) ?_
  refine dP rfl rfl rfl (wN rfl) (by simp only [zP, hs]; decide) hS (fun w' hS' => rM (dn ⟨rfl, rfl, rfl⟩)) ?_
  refine dP rfl rfl rfl (wN rfl) (by simp only [zP, hs]; decide) hS (fun w' hS' => r_index (k := .i64) (j := i) (b := q2) (o := o2) (len := ys.length) (cap := c2) hsl (by simp (disch := (try simp only [sP]); omega) only [eV, g1, k2]) (by simp (disch := (try simp only [sP]); omega) only [eV, g13]) (by omega) (dn ⟨rfl, rfl, rfl⟩)) ?_
  refine dP rfl rfl rfl (wN rfl) (by simp only [zP, hs]; decide) hS (fun w' hS' => rL (b := q2) (o := o2 + i * 1) (by simp (disch := (try simp only [sP]); omega) only [eV]) hU8 (by rw [cell_heap hS', Nat.mul_one]; exact l2) (dn ⟨rfl, rfl, rfl⟩)) ?_
  refine dP rfl rfl rfl (wN rfl) (by simp only [zP, hs]; decide) hS (fun w' hS' => r_neq (k := .u8) (m := (x8 : Int)) (n := (y8 : Int)) (by simp (disch := (try simp only [sP]); omega) only [eV]) (by simp (disch := (try simp only [sP]); omega) only [eV]) (dn ⟨rfl, rfl, rfl⟩)) ?_
  refine d_nil ?_
  have hbl' : Below U w { W with drawn := W.drawn + 1 } := ⟨hbl.os, hbl.tape, hbl.output, hbl.size, hbl.block⟩
  refine vS (vC (t := ((x8 : Int) != (y8 : Int))) (by (try simp (disch := (try simp only [sP]); omega) only [eV]) <;> (first | rfl | assumption)) ?_ ?_)
  ·intro hne
   have hne' : ¬ xs = ys := by
    intro he
    subst he
    rw [hx8] at hy8
    subst hy8
    simp at hne
   refine vX (rA (dn (vS (vT ?_))))
   exact ⟨by simp only [dF]; exact hd, _, rO (by (try simp (disch := (try simp only [sP]); omega) only [eV]) <;> (first | rfl | assumption)), by simp [hne'], hbl'⟩
  ·intro hq
   have hxy : xs[i] = ys[i]'(by omega) := by
    have : (xs[i]).toNat = (ys[i]'(by omega)).toNat := by
     simp only [bne_eq_false_iff_eq] at hq
     rw [hx8, hy8]
     omega
    exact UInt8.toNat_inj.1 this
   refine vK (vN (vX ?_))
   refine r_add (k := .i64) (m := (i : Int)) (n := 1) (by simp (disch := (try simp only [sP]); omega) only [eV, g13]) rfl ?_
   refine rM (dn (vN ?_))
   refine ⟨by omega, by simp only [zP]; exact hs, by simp only [dF]; exact hd, (by simp (disch := (try simp only [sP]); omega) only [eV, g0]), (by simp (disch := (try simp only [sP]); omega) only [eV, g1]), (by simp (disch := (try simp only [sP]); omega) only [eV, g12]), ?_, hheap, hbl', fun j h h' => ?_⟩
   ·simp (disch := (try simp only [sP]); omega) only [eV]
    rw [wrap_i64 (by omega) (by omega)]
    congr 1
    omega
   ·by_cases hj : j = i
    ·subst hj; exact hxy
    ·exact hall j h (by omega)
 ·rintro A W ⟨hm, hs, hd, g0, g1, g12, g13, hheap, hbl, hall⟩
  have hxy : xs = ys := List.ext_getElem hlen (fun j h h' => hall j h (by omega))
  refine vX ?_
  refine r_lss (k := .i64) (m := ((xs.length - 0 : Nat) : Int)) (n := (xs.length : Int)) g13 g12 ?_
  refine dn ?_
  refine vS (vC (t := false) ?_ (fun h => by cases h) ?_)
  ·simp (disch := (try simp only [sP]); omega) only [eV]
   simp only [Value.bool.injEq, decide_eq_false_iff_not]
   omega
  intro _
  refine vc_exit ?_
  simp only [Exit.then, Exit.inBlock, if_true]
  refine vN (vX (rA (dn (vS (vT ?_)))))
  exact ⟨by simp only [dF]; exact hd, _, rO (by (try simp (disch := (try simp only [sP]); omega) only [eV]) <;> (first | rfl | assumption)), by simp [hxy], hbl⟩
end
end Go.Km
