/- The reader's walk: a list's head and loop. The reader's walk: lists. The reader's walk: a list as a whole. The reader's walk: the fields of a struct. readFrom, ReadFrom. ReadFrom; a message is read and written again. The plain law, first part: numbers are read as they were written; what is read stays so if more follows. The plain law, second part: what is written is read. The plain law, third part: what is read can be written, in no more octets. The laws 'what is read of any octets ..': over any program. Rows of laws: what the arguments give; how they are left; what a listed error gives. Over any program. Tags: the map of tags; Set. Tags: Set; the reading of tags. Tags: the reading of tags. Tags: their numbers are sorted. Tags: one tag is written. Tags: operations on the map while it is ranged over. -/
import Derived.Test.YticdohpbambelaaGreatDoorKb02
import Derived.Test.YticdohpbambelaaGreatDoorKb03
import Derived.WalkKit
import Derived.ProofKit
import Derived.OpenShut
import Derived.ChangeSlices
import Derived.LaidLaws
import Derived.Carry
import Derived.MakeChecks
import Derived.Maps.RangeRun
import Derived.Shelf.GgSortFunc.Whole
import Derived.Shelf.GgSortFunc.Tiny
import Derived.Deep.Draws
import Derived.Laws.MakeOwn
set_option linter.unusedSimpArgs false
set_option linter.unusedVariables false
namespace Go.Km
open Go Go.RowKit
attribute [local irreducible] vc rO_ runG runS runD
def rTail (E : Env) (x : Cx) (TS : TypeId) (null : Option Nat) (n t : Nat) : List Code :=
  rNull E x TS null n t ++
      [sq [rg [oCall (some (t + (if null.isSome then 7 else 0))) E.rOk #[.tmp 7] #[E.tRd] E.tO, oUn (t + (if null.isSome then 7 else 0) + 1) .not E.tO (.tmp (t + (if null.isSome then 7 else 0))) E.tO],
        .cond (.tmp (t + (if null.isSome then 7 else 0) + 1)) (sq [rCall E E.rComplete E.tErr 6 (t + (if null.isSome then 7 else 0) + 2), .ret]) .skip],
       rg [oMove (t + (if null.isSome then 7 else 0) + 3) (.tmp (n + 1)) TS, oSlice (t + (if null.isSome then 7 else 0) + 4) TS (.tmp (t + (if null.isSome then 7 else 0) + 3)) none (some (i64 0)) none, oAssign (n + 1) (.tmp (t + (if null.isSome then 7 else 0) + 4)) TS],
       sq [rg [oMove (t + (if null.isSome then 7 else 0) + 5) (.tmp (n + 2)) E.tI32, oBin (t + (if null.isSome then 7 else 0) + 6) .gtr E.tI32 (.tmp (t + (if null.isSome then 7 else 0) + 5)) (i32 0) E.tI32 E.tO],
        .cond (.tmp (t + (if null.isSome then 7 else 0) + 6)) (rg [oMove (t + (if null.isSome then 7 else 0) + 7) (.tmp (n + 1)) TS, oMove (t + (if null.isSome then 7 else 0) + 8) (.tmp (n + 2)) E.tI32, oBuiltin (t + (if null.isSome then 7 else 0) + 9) .append #[.tmp (t + (if null.isSome then 7 else 0) + 7), .tmp (t + (if null.isSome then 7 else 0) + 8)] #[TS, E.tI32] TS, oAssign (n + 1) (.tmp (t + (if null.isSome then 7 else 0) + 9)) TS]) .skip]]
theorem rListHead_eq (E : Env) (x : Cx) (TP TU TS : TypeId) (null : Option Nat) (n s f t : Nat) : rListHead E x TP TU TS null n s f t =
    [wLoad TP TU TS n s f t, rg [oMove (t + 4) (.tmp n) TS, oAssign (n + 1) (.tmp (t + 4)) TS], rg [oAssign (n + 2) (i32 0) E.tI32],
     (match x.fl with
      | none => rCall E E.rLen E.tI32 (n + 2) (t + 5)
      | some fl => rIf E (t + 5) fl (rCall E E.rCLen E.tI32 (n + 2) (t + 6)) (rCall E E.rLen E.tI32 (n + 2) (t + 7)))] ++ rTail E x TS null n (t + 5 + (match x.fl with | none => 1 | some _ => 3)) := by
  cases null <;> rfl
section
variable {P : Program} {E : Env} {T : List (Nat × List UInt8) → Prop}
theorem m_listHead (H : EnvR P E T) {TP TU TS te : TypeId} {sz : Nat} {null : Option Nat} {x : Cx} {ver : Nat} {fx : Bool} {L s f n t rb sb pb po off : Nat} {ev : Value} {a : Act} {w : World} {st : RSt} {Q : Exit → Act → World → Prop} {rest : List Code} {zv : Value}
  (hlen : x.ok E.rCLen E.rLen = true) (hTS : oneT P TS = true) (hB : rowB P TS te sz = true) (hzt : zeroT P te = some zv) (hs : RSl x L n t fx) (hn : n + 3 ≤ L)
  (ht : t + 5 + (match x.fl with | none => 1 | some _ => 3) + (if null.isSome then 7 else 0) + 3 + 2 + 5 ≤ a.tmps.size) (hst : RSta E x ver fx rb sb ev a w st)
  (hp : a.eval (.tmp s) = .pointer (some ⟨pb, po, none⟩)) (hsn : s < n) (hfo : fieldOff P TU f = some off) (hc : w.cell? ⟨pb, po + off, none⟩ = some (.slice none 0 0))
  (kn : ∀ a' w' v, Fr (KR L n t) a a' → RSta E x ver fx rb sb ev a' w' (rdCn fx st).2 → (rdCn fx st).2.2 = false → a'.eval (.tmp (n + 1)) = v → a'.eval (.tmp (n + 2)) = .int .i32 (rdCn fx st).1 → Eff (RM rb) w w' → ListV null ver sz zv.cells.toList (rdCn fx st).1 w w' v → vc P (sq rest) Q a' w')
  (kr : ∀ a' w', a'.defers = a.defers → a'.tmps.size = a.tmps.size → a'.eval (.tmp 6) = ev → Eff (RM rb) w w' → (rdCn fx st).2.2 = true → Q .ret a' w') :
  vc P (sq (rListHead E x TP TU TS null n s f t ++ rest)) Q a w := by
 have hnL := hs.nL; have hLt := hs.Lt; have h7 := hs.seven
 have hF := Cx.ok_fx hlen hs.no
 have hkt := hs.kt
 rw [rListHead_eq]
 simp only [List.append_assoc, List.cons_append, List.nil_append]
 refine vS (m_load (K := KR L n t) hp hfo hTS hc (hs.kn n (Nat.le_refl _) (by omega)) hkt (by omega) (by omega) ?_)
 intro a1 hf1 hv1
 have hs1 := hf1.size
 refine vX (rM (rA (dn (vX (rA (dn ?_))))))
 generalize ha2 : Act.put (Act.put (Act.put a1 _ _) _ _) _ _ = a2
 have hf2 : Fr (KR L n t) a a2 := by
  subst ha2
  exact ((hf1.put _ (hkt _ (by omega))).put _ (hs.kn (n + 1) (by omega) (by omega))).put _ (hs.kn (n + 2) (by omega) (by omega))
 have hy2 : a2.eval (.tmp (n + 1)) = .slice none 0 0 := by subst ha2; simp (disch := (try simp only [sP]); omega) only [eV, hv1]
 have hs2 := hf2.size
 clear ha2
 have hst2 := hst.fr hs hf2
 have hs' : RSl x L (n + 2) (t + 5) fx := hs.up (by omega) (by omega) (by omega)
 have hgo := fun (t1 : Nat) (r1 : List Code) (h1 : t + 5 ≤ t1) (hk : ∀ a3 w3, Fr (KR L (n + 2) (t + 5)) a2 a3 → a3.eval (.tmp (n + 2)) = .int .i32 (rdCn fx st).1 → RdS w3 rb sb (rdCn fx st).2 → Eff (RM rb) w w3 → vc P (sq r1) Q a3 w3) =>
  m_way1 (P := P) (Q := Exit.then (vc P (sq r1) Q) Q) (T0 := E.tI32) hs' (by omega) hst2 (by rw [hs2]; cases hx : x.fl <;> simp only [hx] at ht ⊢ <;> omega) (H.len fx hF rb sb st w hst2.rd) (fun a3 v w3 hf he hS => hk a3 w3 hf (by rw [he, hS.1]) hS.2.1 hS.2.2)
 have tail : ∀ (t1 : Nat) (a3 : Act) (w3 : World), t + 5 ≤ t1 → t1 + (if null.isSome then 7 else 0) + 3 + 2 + 5 ≤ a.tmps.size → Fr (KR L (n + 2) (t + 5)) a2 a3 → a3.eval (.tmp (n + 2)) = .int .i32 (rdCn fx st).1 → RdS w3 rb sb (rdCn fx st).2 → Eff (RM rb) w w3 → vc P (sq (rTail E x TS null n t1 ++ rest)) Q a3 w3 := by
  intro t1 a3 w3 h1 hsz hf he hr hE
  unfold rTail
  simp only [List.append_assoc, List.cons_append, List.nil_append]
  exact m_listTail H (Q := Q) (rest := rest) (null := null) (t := t1) hB hzt hs hn (by omega) (by rw [hf.size, hs2]; exact hsz) (hst2.step hs' hf hr hE) (hf2.trans (hf.mono (KR.mono (by omega) (by omega)))) hE (by rw [hf.slot _ (.inl (by omega))]; exact hy2) he
    (fun h => by have h1 := rdCn_le h; have h2 := hr.len; omega) kn kr
 cases hx : x.fl with
 | none =>
  simp only [hx] at hgo ht ⊢
  exact vS (hgo (t + 5 + 1) _ (by omega) (fun a3 w3 hf he hr hE => tail (t + 5 + 1) a3 w3 (by omega) ht hf he hr hE))
 | some fl =>
  simp only [hx] at hgo ht ⊢
  exact vS (hgo (t + 5 + 3) _ (by omega) (fun a3 w3 hf he hr hE => tail (t + 5 + 3) a3 w3 (by omega) ht hf he hr hE))
theorem m_rloop {x : Cx} {ver : Nat} {fx : Bool} {L n t b len rb sb : Nat} {ev : Value} {a : Act} {w : World} {Q : Exit → Act → World → Prop} {body : Code} {l : Int} {S : Nat → RSt} {J : Nat → World → Prop} {R : World → Prop}
  (hs : RSl x L n t fx) (hn : n + 4 ≤ L) (ht : t + 5 ≤ a.tmps.size) (hz : a.eval (.tmp (n + 2)) = .int .i32 l) (hlen : len = l.toNat) (hl : l ≤ big) (hst : RSta E x ver fx rb sb ev a w (S 0)) (h0 : J 0 w)
  (step : ∀ i a1 w1, i < len → Fr (KR L (n + 3) t) a a1 → RSta E x ver fx rb sb ev a1 w1 (S i) → a1.eval (.tmp (n + 3)) = .int .i32 (i : Int) → J i w1 → ∀ Q1 : Exit → Act → World → Prop,
   (∀ a2 w2, Fr (KR L (n + 4) (t + 5)) a1 a2 → RSta E x ver fx rb sb ev a2 w2 (S (i + 1)) → J (i + 1) w2 → Q1 .normal a2 w2) →
   (∀ a2 w2, a2.defers = a1.defers → a2.tmps.size = a1.tmps.size → a2.eval (.tmp 6) = ev → R w2 → Q1 .ret a2 w2) → vc P body Q1 a1 w1)
  (kn : ∀ a' w', Fr (KR L (n + 3) t) a a' → RSta E x ver fx rb sb ev a' w' (S len) → J len w' → Q .normal a' w')
  (kr : ∀ a' w', a'.defers = a.defers → a'.tmps.size = a.tmps.size → a'.eval (.tmp 6) = ev → R w' → Q .ret a' w') : vc P (rLoop E n t b body) Q a w := by
 have hnL := hs.nL; have hLt := hs.Lt; have h7 := hs.seven
 have hs3 : RSl x L (n + 3) t fx := hs.up (by omega) (by omega) (Nat.le_refl _)
 have hkt := hs3.kt
 have hkn := hs3.kn (n + 3) (Nat.le_refl _) (by omega)
 have hbig : big ≤ 2147483000 := Nat.le_refl _
 unfold rLoop
 refine vX (rA (dn ?_))
 refine vS (vc_block ?_)
 refine vc_loop (fun a' w' => ∃ i, i ≤ len ∧ Fr (KR L (n + 3) t) a a' ∧ RSta E x ver fx rb sb ev a' w' (S i) ∧ a'.eval (.tmp (n + 3)) = .int .i32 (i : Int) ∧ J i w')
  (fun a' _ => len - (intOf (a'.eval (.tmp (n + 3)))).toNat) ?_ ?_
 ·have hf : Fr (KR L (n + 3) t) a (a.put (some (n + 3)) (a.eval (i32 0))) := (Fr.refl _ a).put _ hkn
  refine ⟨0, Nat.zero_le _, hf, hst.fr hs3 hf, ?_, h0⟩
  rw [eval_put_same _ _ _ (by omega)]
  rfl
 rintro a1 w1 ⟨i, hi, hf, hst1, h3, hJ⟩
 have hsz := hf.size
 refine vS (vX (rM (rM ?_)))
 refine r_lss (k := .i32) (m := i) (n := l) (by simp (disch := (try simp only [sP]); omega) only [eV, h3]) (by rw [← hf.slot (n + 2) (.inl (by omega))] at hz; simp (disch := (try simp only [sP]); omega) only [eV, hz]) ?_
 refine dn ?_
 generalize ha2 : Act.put (Act.put (Act.put a1 _ _) _ _) _ _ = a2
 have hf2 : Fr (KR L (n + 4) t) a1 a2 := by
  subst ha2
  have hs4 : RSl x L (n + 4) t fx := hs.up (by omega) (by omega) (Nat.le_refl _)
  exact (((Fr.refl _ a1).put _ (hs4.kt _ (by omega))).put _ (hs4.kt _ (by omega))).put _ (hs4.kt _ (by omega))
 have hc2 : a2.eval (.tmp (t + 2)) = .bool (decide ((i : Int) < l)) := by subst ha2; simp (disch := (try simp only [sP]); omega) only [eV]
 have h32 : a2.eval (.tmp (n + 3)) = .int .i32 (i : Int) := by rw [hf2.slot _ (.inl (by omega))]; exact h3
 have hf2' : Fr (KR L (n + 3) t) a a2 := hf.trans (hf2.mono (KR.mono (by omega) (Nat.le_refl _)))
 have hst2 : RSta E x ver fx rb sb ev a2 w1 (S i) := hst1.fr hs3 (hf2.mono (KR.mono (by omega) (Nat.le_refl _)))
 have hsz2 := hf2'.size
 clear ha2
 refine vS (vC hc2 ?_ ?_)
 ·intro hlt
  have hlt' : i < len := by
   have : (i : Int) < l := by simpa using hlt
   omega
  refine vK (vN ?_)
  refine vS (vc_block ?_)
  refine step i a2 w1 hlt' hf2' hst2 h32 hJ _ ?_ ?_
  ·intro a3 w3 hf3 hst3 hJ3
   have hf3' : Fr (KR L (n + 3) t) a a3 := hf2'.trans (hf3.mono (KR.mono (by omega) (by omega)))
   have hsz3 := hf3'.size
   have h33 : a3.eval (.tmp (n + 3)) = .int .i32 (i : Int) := by rw [hf3.slot _ (.inl (by omega))]; exact h32
   show vc P (sq [rg _]) _ a3 w3
   refine vX (rM ?_)
   refine r_add (k := .i32) (m := i) (n := 1) (by simp (disch := (try simp only [sP]); omega) only [eV, h33]) rfl ?_
   refine rA (dn (vN ?_))
   have hw : IntKind.i32.wrap ((i : Int) + 1) = ((i + 1 : Nat) : Int) := by rw [IntWalk.i32_in _ ⟨by omega, by omega⟩]; omega
   generalize ha4 : Act.put (Act.put (Act.put a3 _ _) _ _) _ _ = a4
   have e4 : a4.eval (.tmp (n + 3)) = .int .i32 ((i + 1 : Nat) : Int) := by
    subst ha4
    rw [eval_put_same _ _ _ (by simp only [zP]; omega), eval_put_same _ _ _ (by simp only [zP]; omega), hw]
   have hf4 : Fr (KR L (n + 3) t) a3 a4 := by
    subst ha4
    exact (((Fr.refl _ a3).put _ (hkt _ (by omega))).put _ (hkt _ (by omega))).put _ hkn
   refine ⟨⟨i + 1, hlt', hf3'.trans hf4, hst3.fr hs3 hf4, e4, hJ3⟩, ?_⟩
   show len - (intOf _).toNat < len - (intOf _).toNat
   rw [e4, h3]
   simp only [intOf, Int.toNat_natCast]
   omega
  ·intro a3 w3 h4 h5 h6 h7
   exact kr a3 w3 (by rw [h4, hf2'.defers]) (by rw [h5, hsz2]) h6 h7
 ·intro hge
  have hi' : i = len := by
   have : ¬ ((i : Int) < l) := by simpa using hge
   omega
  subst hi'
  refine vc_exit ?_
  simp only [Exit.then, Exit.inBlock, if_true]
  exact vN (kn a2 w1 hf2' hst2 hJ)
end
end Go.Km
namespace Go.Km
open Go Go.RowKit
attribute [local irreducible] vc rO_ runG runS runD
def rElem (E : Env) (x : Cx) (TS : TypeId) (n t2 b : Nat) (e : Ty) : Code :=
  match e.tp with
  | some TPe => sq ([rg [oMove (t2 + 5) (.tmp (n + 1)) TS, oMove (t2 + 6) (.tmp (n + 3)) E.tI32, oIndexAddr (t2 + 7) TS (.tmp (t2 + 5)) (.tmp (t2 + 6)), oAssign (n + 4) (.tmp (t2 + 7)) TPe]] ++
          Ty.rc E x 0 0 0 0 (n + 4) (t2 + 8) (b + 2) e)
  | none => sq (Ty.rc E x 0 0 0 0 (n + 4) (t2 + 5) (b + 2) e ++
          [rg [oMove (t2 + 5 + e.rt x) (.tmp (n + 1)) TS, oMove (t2 + 6 + e.rt x) (.tmp (n + 3)) E.tI32,
            if e.arr then oLoad (t2 + 7 + e.rt x) (e.T E) (.tmp (n + 4 + e.rslot)) else oMove (t2 + 7 + e.rt x) (.tmp (n + 4 + e.rslot)) (e.T E),
            oIndexAddr (t2 + 8 + e.rt x) TS (.tmp (t2 + 5 + e.rt x)) (.tmp (t2 + 6 + e.rt x)), oStore (e.T E) (.tmp (t2 + 8 + e.rt x)) (.tmp (t2 + 7 + e.rt x))]])
theorem rc_list (E : Env) (x : Cx) (TP TU : TypeId) (s f n t b : Nat) (TS : TypeId) (null : Option Nat) (e : Ty) :
    Ty.rc E x TP TU s f n t b (.list TS null e) = rListHead E x TP TU TS null n s f t ++
      [rLoop E n (t + 5 + (match x.fl with | none => 1 | some _ => 3) + (if null.isSome then 7 else 0) + 3 + 2 + 5) b (rElem E x TS n (t + 5 + (match x.fl with | none => 1 | some _ => 3) + (if null.isSome then 7 else 0) + 3 + 2 + 5) b e),
       rg [oMove (t + 5 + (match x.fl with | none => 1 | some _ => 3) + (if null.isSome then 7 else 0) + 3 + 2 + 5 + 5 + e.h + e.rt x) (.tmp (n + 1)) TS, oAssign n (.tmp (t + 5 + (match x.fl with | none => 1 | some _ => 3) + (if null.isSome then 7 else 0) + 3 + 2 + 5 + 5 + e.h + e.rt x)) TS]] := by
  rw [Ty.rc]
  rfl
section
variable {P : Program} {E : Env} {T : List (Nat × List UInt8) → Prop}
theorem m_elem {e : Ty} (hlf : e.tp = none → e.RVal P E T) (hfs : ∀ TP TU FD fs, e = .struct TP TU FD fs → fs.RVal P E T) {x : Cx} {ver : Nat} {fx : Bool} {L n t b rb sb q cap len i : Nat} {TS te : TypeId} {ev : Value} {a : Act} {w : World} {st : RSt} {Q : Exit → Act → World → Prop}
  (hok : e.okR P E x = true) (hnl : e.isList = false) (htx : e.txR P E) (hB : rowB P TS te e.size = true) (hs : RSl x L n t fx) (hn : n + 4 + (match e.tp with | some _ => 2 | none => 1) + e.rn ≤ L) (ht : t + 5 + e.h + e.rt x ≤ a.tmps.size) (hst : RSta E x ver fx rb sb ev a w st)
  (hy : a.eval (.tmp (n + 1)) = .slice (some ⟨q, 0, none⟩) len cap) (hi : a.eval (.tmp (n + 3)) = .int .i32 (i : Int)) (hil : i < len) (hc : Cells w q (i * e.size) e.zc) (hf : ∀ j, j < e.size → Free w q (i * e.size + j)) (h1 : q ≠ rb) (h2 : q ≠ sb) (h3 : q ≠ E.vErr) (hrb : rb < q + 1) (hq : q < w.heap.size)
  (kn : ∀ a' w' c d, Fr (KR L (n + 4) (t + 5)) a a' → RSta E x ver fx rb sb ev a' w' (e.rd fx ver st).2 → c.length = e.size → Cells w' q (i * e.size) c → e.Rep w' ⟨sb, T⟩ (q + 1) c d → Eff (FM rb q (i * e.size) e.size) w w' → ((e.rd fx ver st).2.2 = false → d = (e.rd fx ver st).1) → Q .normal a' w')
  (kr : ∀ a' w', a'.defers = a.defers → a'.tmps.size = a.tmps.size → a'.eval (.tmp 6) = ev → Eff (FM rb q (i * e.size) e.size) w w' → (e.rd fx ver st).2.2 = true → Q .ret a' w') :
  vc P (rElem E x TS n t b e) Q a w := by
 have hnL := hs.nL; have hLt := hs.Lt; have h7 := hs.seven
 cases htp : e.tp with
 | some TPe =>
  cases e with
  | struct TP TU FD fs =>
   simp only [Ty.tp, Option.some.injEq] at htp
   subst htp
   simp only [Ty.tp, Ty.h, Ty.rn, Ty.rt, Ty.size, Ty.zc] at hn ht hc hf hB kn kr
   have hs4 : RSl x L (n + 4) (t + 5) fx := hs.up (by omega) (by omega) (by omega)
   simp only [rElem, Ty.tp, List.cons_append, List.nil_append]
   refine vX (rM (rM ?_))
   refine r_index (b := q) (o := 0) (len := len) (cap := cap) (k := .i32) (j := i) (rB hB) (by simp (disch := (try simp only [sP]); omega) only [eV, hy]) (by simp (disch := (try simp only [sP]); omega) only [eV, hi]) hil ?_
   refine rA (dn ?_)
   rw [Nat.zero_add]
   generalize ha1 : Act.put (Act.put (Act.put (Act.put a _ _) _ _) _ _) _ _ = a1
   have hfr : Fr (KR L (n + 4) (t + 5)) a a1 := by
    subst ha1
    exact ((((Fr.refl _ a).put _ (hs4.kt _ (by omega))).put _ (hs4.kt _ (by omega))).put _ (hs4.kt _ (by omega))).put _ (hs4.kn (n + 4) (by omega) (by omega))
   have hp1 : a1.eval (.tmp (n + 4)) = .pointer (some ⟨q, i * fs.size, none⟩) := by
    subst ha1
    simp (disch := (try simp only [sP]); omega) only [eV]
   have hsz := hfr.size
   refine m_struct (hfs _ _ _ _ rfl) (ver := ver) (B := q + 1) hok htx (hs4.up (n' := n + 4) (t' := t + 8) (by omega) (by omega) (by omega)) (by omega) (by rw [hsz]; omega) (hst.fr hs4 hfr) hp1 (Flds.zc_len fs) (Flds.over_zc fs) hc hf h1 h2 h3 (by omega) hrb (by omega) ?_ ?_
   ·intro a2 w2 cs ds tags b1 b2 b3 b4 b5 b6 b7
    exact kn a2 w2 cs (.obj ds tags) (hfr.trans (b1.mono (KR.mono (Nat.le_refl _) (by omega)))) b2 b3 b4 b5 b6 (fun h => by obtain ⟨rfl, rfl⟩ := b7 h; rfl)
   ·intro a2 w2 b1 b2 b3 b4 b5
    exact kr a2 w2 (by rw [b1, hfr.defers]) (by rw [b2, hsz]) b3 b4 b5
  | _ => cases htp
 | none =>
  simp only [htp, Ty.h] at hn ht
  have hs4 : RSl x L (n + 4) (t + 5) fx := hs.up (by omega) (by omega) (by omega)
  simp only [rElem, htp]
  refine vc_sq_append ?_
  refine hlf htp x ver fx L 0 0 0 0 (n + 4) (t + 5) (b + 2) rb sb ev a w st _ hok htx hs4 (by omega) (by omega) hst (by rw [hnl]; intro h; cases h) ?_ ?_
  ·intro a1 w1 cs d hf1 hst1 hv hrep hE hd
   obtain ⟨hcl, hc1⟩ := Ty.Rep.leaf e htp hrep
   have hS := Ty.okR_okS e hok htp
   have hsz := hf1.size
   show vc P (sq [rg _]) Q a1 w1
   refine vS (vR (by cases e.arr <;> simp) ?_)
   refine rM (rM ?_)
   have hrs : e.rslot ≤ 2 := by cases e <;> simp [Ty.rslot]
   have hrn : e.rslot ≤ e.rn := by cases e <;> simp [Ty.rslot, Ty.rn]
   refine r_leafLoad (cs := cs) hS hcl ?_ ?_
   ·unfold Ty.Val at hv ⊢
    cases ha : e.arr with
    | true =>
     simp only [ha, if_true] at hv ⊢
     obtain ⟨q1, g1, g2⟩ := hv
     exact ⟨q1, (by simp (disch := (try simp only [sP]); omega) only [eV, g1]), g2⟩
    | false =>
     simp only [ha, Bool.false_eq_true, if_false] at hv ⊢
     rw [hv]
     simp (disch := (try simp only [sP]); omega) only [eV]
   refine r_index (b := q) (o := 0) (len := len) (cap := cap) (k := .i32) (j := i) (rB hB) (by rw [← hf1.slot (n + 1) (.inl (by omega))] at hy; simp (disch := (try simp only [sP]); omega) only [eV, hy]) (by rw [← hf1.slot (n + 3) (.inl (by omega))] at hi; simp (disch := (try simp only [sP]); omega) only [eV, hi]) hil ?_
   rw [Nat.zero_add]
   have hfree : ∀ j, j < e.size → Free w1 q (i * e.size + j) := fun j hj => (hf j hj).eff hE
   refine r_leafStore (b := q) (o := i * e.size) (cs := cs) hS hcl hc1 (by simp (disch := (try simp only [sP]); omega) only [eV]) (by simp (disch := (try simp only [sP]); omega) only [eV]) hfree ?_
   refine dn (vN ?_)
   have hE2 := setCells_eff q cs w1 (i * e.size)
   rw [hcl] at hE2
   have hE2' : Eff (FM rb q (i * e.size) e.size) w1 (setCells w1 q (i * e.size) cs) := hE2.mono (fun k i _ h => .inr h)
   have hE1' : Eff (FM rb q (i * e.size) e.size) w w1 := hE.mono (fun k i _ h => .inl h)
   generalize ha2 : Act.put (Act.put (Act.put (Act.put a1 _ _) _ _) _ _) _ _ = a2
   have hf2 : Fr (KR L (n + 4) (t + 5)) a1 a2 := by
    subst ha2
    exact ((((Fr.refl _ a1).put _ (hs4.kt _ (by omega))).put _ (hs4.kt _ (by omega))).put _ (hs4.kt _ (by omega))).put _ (hs4.kt _ (by omega))
   refine kn a2 _ cs d (hf1.trans hf2) (hst1.keep hs4 hf2 hE2 (by rintro j ⟨h, _⟩; exact h1 h.symm) (by rintro j ⟨h, _⟩; exact h2 h.symm) (by rintro j ⟨h, _⟩; exact h3 h.symm)) hcl ?_ ?_ (hE1'.trans hE2') hd
   ·intro j v hv
    exact setCells_cell _ _ _ _ (fun j hj => (hfree j (by omega)).1) j v hv
   ·have hws := hE.size
    refine Ty.Rep.eff hE2 ?_ e w.heap.size (q + 1) cs d ?_ (by omega) hrep
    ·rintro j ⟨h, _⟩; exact h2 h.symm
    ·rintro k j hk _ ⟨h, _⟩; omega
  ·intro a1 w1 b1 b2 b3 b4 b5
   exact kr a1 w1 b1 b2 b3 (b4.mono (fun k i _ h => .inl h)) b5
end
end Go.Km
namespace Go.Km
open Go Go.RowKit
attribute [local irreducible] vc rO_ runG runS runD
section
variable {P : Program} {E : Env} {T : List (Nat × List UInt8) → Prop}
theorem mul_lt {i j n : Nat} (h : i < j) : i * n + n ≤ j * n := by
 have := Nat.mul_le_mul_right n h
 rwa [Nat.succ_mul] at this
theorem rv_list (H : EnvR P E T) {TS : TypeId} {null : Option Nat} {e : Ty} (hlf : e.tp = none → e.np = false → e.RVal P E T) (hfs : ∀ TP TU FD fs, e = .struct TP TU FD fs → fs.RVal P E T) : (Ty.list TS null e).RVal P E T := by
 intro x ver fx L TP TU s f n t b rb sb ev a w st Q hok htx hs hn ht hst hl kn kr
 have hnL := hs.nL; have hLt := hs.Lt; have h7 := hs.seven
 obtain ⟨pb, po, off, hp, hsn, hfo, hcf⟩ := hl rfl
 simp only [Ty.okR, Bool.and_eq_true, Bool.not_eq_true'] at hok
 obtain ⟨⟨⟨⟨hlen, hTS⟩, hnl⟩, hnp⟩, hoke⟩ := hok
 have hnp : e.np = false := by simpa using hnp
 simp only [Ty.txR] at htx
 obtain ⟨⟨te, hB, hz⟩, htxe⟩ := htx
 obtain ⟨zv, hzt, hzc⟩ : ∃ z, zeroT P te = some z ∧ z.cells.toList = e.zc := by
  cases h : zeroT P te with
  | none => rw [h] at hz; cases hz
  | some z => rw [h] at hz; exact ⟨z, rfl, by simpa using hz⟩
 have hn' : n + 4 + (match e.tp with | some _ => 2 | none => 1) + e.rn ≤ L := by
  simp only [Ty.rn] at hn
  cases htp : e.tp <;> simp only [htp] at hn ⊢ <;> omega
 have hn3 : n + 5 ≤ L := by
  cases htp : e.tp <;> simp only [htp] at hn' <;> omega
 have ht1 : t + 5 + (match x.fl with | none => 1 | some _ => 3) + (if null.isSome then 7 else 0) + 3 + 2 + 5 + 5 + e.h + e.rt x + 1 ≤ a.tmps.size := by
  simp only [Ty.rt] at ht
  cases hx : x.fl <;> simp only [hx] at ht ⊢ <;> omega
 have hkt := hs.kt
 have hbadr : (rdCn fx st).2.2 = true → ((Ty.list TS null e).rd fx ver st).2.2 = true := fun h => by simp only [Ty.rd, h, if_true]
 rw [rc_list]
 have htt : t ≤ t + 5 + (match x.fl with | none => 1 | some _ => 3) + (if null.isSome then 7 else 0) + 3 + 2 + 5 := by omega
 have ht0 : t + 5 + (match x.fl with | none => 1 | some _ => 3) + (if null.isSome then 7 else 0) + 3 + 2 + 5 ≤ a.tmps.size := by omega
 refine m_listHead H hlen hTS hB hzt hs (by omega) (by cases hx : x.fl <;> simp only [hx] at ht0 ⊢ <;> omega) hst hp hsn hfo hcf ?_ (fun a' w' h1 h2 h3 h4 h5 => kr a' w' h1 h2 h3 h4 (hbadr h5))
 intro a1 w1 v hf1 hst1 hnb hy hz1 hE1 hL
 have hs1 := hf1.size
 generalize t + 5 + (match x.fl with | none => 1 | some _ => 3) + (if null.isSome then 7 else 0) + 3 + 2 + 5 = t2 at *
 have hs2 : RSl x L n t2 fx := hs.up (Nat.le_refl _) (by omega) htt
 have hlb : (rdCn fx st).1 ≤ big := by
  have g1 := rdCn_le hnb
  have g2 := hst1.rd.len
  omega
 -- the end
 have fin : ∀ a2 w2 d, Fr (KR L n t) a a2 → RSta E x ver fx rb sb ev a2 w2 ((Ty.list TS null e).rd fx ver st).2 → a2.eval (.tmp (n + 1)) = v → (Ty.list TS null e).Rep w2 ⟨sb, T⟩ w.heap.size [v] d → Eff (RM rb) w w2 → (((Ty.list TS null e).rd fx ver st).2.2 = false → d = ((Ty.list TS null e).rd fx ver st).1) →
   vc P (sq [rg [oMove (t2 + 5 + e.h + e.rt x) (.tmp (n + 1)) TS, oAssign n (.tmp (t2 + 5 + e.h + e.rt x)) TS]]) Q a2 w2 := by
  intro a2 w2 d hf hst2 hv hrep hE hd
  have hsz := hf.size
  refine vX (rM (rA (dn (vN ?_))))
  have hf3 : ∀ u1 u2, Fr (KR L n t) a2 ((a2.put (some (t2 + 5 + e.h + e.rt x)) u1).put (some n) u2) := fun u1 u2 => ((Fr.refl _ a2).put _ (hkt _ (by omega))).put _ (hs.kn n (Nat.le_refl _) (by omega))
  refine kn _ w2 [v] d (hf.trans (hf3 _ _)) (hst2.fr hs (hf3 _ _)) ?_ hrep hE hd
  simp only [Ty.Val, Ty.arr, Ty.rslot, Bool.false_eq_true, if_false, Nat.add_zero]
  rw [← hv]
  simp (disch := (try simp only [sP]); omega) only [eV]
 rcases hL with ⟨hl0, base, rfl, hbase⟩ | ⟨hl0, q, cap, rfl, hq1, hq2, hcz, hfz⟩
 ·
  have hrd : (Ty.list TS null e).rd fx ver st = (if emptyB null ver (rdCn fx st).1 then .list (some []) else .list none, (rdCn fx st).2) := by
   simp only [Ty.rd, hnb, Bool.false_eq_true, if_false]
   rw [if_pos hl0]
  refine vS (m_rloop (len := 0) (S := fun _ => (rdCn fx st).2) (J := fun _ w' => w' = w1) (R := fun _ => False) hs2 (by omega) (by omega) hz1 (by omega) hlb hst1 rfl (fun i _ _ hi => absurd hi (Nat.not_lt_zero i)) ?_ (fun _ _ _ _ _ h => h.elim))
  rintro a2 w2 hf2 hst2 rfl
  refine fin a2 w2 ((Ty.list TS null e).rd fx ver st).1 (hf1.trans (hf2.mono (KR.mono (by omega) htt))) (by rw [hrd]; exact hst2) (by rw [hf2.slot _ (.inl (by omega))]; exact hy) ?_ hE1 (fun _ => rfl)
  rw [hrd]
  split at hbase
  ·rename_i hh
   obtain ⟨q, rfl, g1, g2⟩ := hbase
   simp only [hh, if_true]
   exact ⟨q, 0, rfl, g1, g2, Nat.zero_le _, fun i d h => by simp at h⟩
  ·rename_i hh
   subst hbase
   rw [if_neg hh]
   rfl
 ·
  have hrd : (Ty.list TS null e).rd fx ver st = (.list (some (rdMany (fun s => e.rd fx ver s) (rdCn fx st).1.toNat (rdCn fx st).2).1), (rdMany (fun s => e.rd fx ver s) (rdCn fx st).1.toNat (rdCn fx st).2).2) := by
   simp only [Ty.rd, hnb, Bool.false_eq_true, if_false]
   rw [if_neg (by omega)]
  have hmono : ∀ s : RSt, (e.rd fx ver s).2.2 = false → s.2 = false := fun s => Ty.rd_mono fx ver e s
  generalize hlenN : (rdCn fx st).1.toNat = len at *
  have hqrb : q ≠ rb := by have := hst.rd.rb_lt; omega
  have hqsb : q ≠ sb := by have := hst.rd.lt; omega
  have hqev : q ≠ E.vErr := by have := lt_of_cell hst.err; omega
  have hrbq : rb < q + 1 := by have := hst.rd.rb_lt; omega
  rw [hzc] at hcz
  refine vS (m_rloop (len := len) (S := fun i => (rdMany (fun s => e.rd fx ver s) i (rdCn fx st).2).2)
   (J := fun i w' => Eff (fun k j => RM rb k j ∨ k = q) w1 w' ∧ (∃ ds : List D, ds.length = i ∧ (∀ (j : Nat) (d : D), ds[j]? = some d → ∃ c : List Value, c.length = e.size ∧ Cells w' q (j * e.size) c ∧ e.Rep w' ⟨sb, T⟩ (q + 1) c d) ∧
    ((rdMany (fun s => e.rd fx ver s) i (rdCn fx st).2).2.2 = false → ds = (rdMany (fun s => e.rd fx ver s) i (rdCn fx st).2).1)) ∧ (∀ j, i ≤ j → j < len → Cells w' q (j * e.size) e.zc))
   (R := fun w' => Eff (RM rb) w w' ∧ ((Ty.list TS null e).rd fx ver st).2.2 = true) hs2 (by omega) (by omega) hz1 hlenN.symm hlb hst1 ?_ ?_ ?_ ?_)
  ·exact ⟨Eff.refl _ _, ⟨[], rfl, fun j d h => by simp at h, fun _ => rfl⟩, fun j _ hj => hcz j hj⟩
  ·rintro i a2 w2 hi hf2 hst2 h3 ⟨hE2, ⟨ds, hdl, hds, hdeq⟩, hrest⟩ Q1 kn1 kr1
   have hw2 := hE2.size
   have hs22 := hf2.size
   have hEw : ∀ w3, Eff (FM rb q (i * e.size) e.size) w2 w3 → Eff (fun k j => RM rb k j ∨ k = q) w1 w3 := fun w3 h => hE2.trans (h.mono (fun k j _ h => h.imp id (fun h => h.1)))
   refine m_elem (fun h => hlf h hnp) hfs (q := q) (len := len) (cap := cap) (i := i) hoke hnl htxe hB hs2 hn' (by omega) hst2 (by rw [hf2.slot _ (.inl (by omega))]; exact hy) h3 hi (hrest i (Nat.le_refl _) hi)
    (fun j hj => (hfz (i * e.size + j) (by have := mul_lt (n := e.size) hi; omega)).eff hE2) hqrb hqsb hqev hrbq (by omega) ?_ ?_
   ·intro a3 w3 c d g1 g2 g3 g4 g5 g6 g7
    refine kn1 a3 w3 g1 ?_ ⟨hEw w3 g6, ⟨ds ++ [d], by simp [hdl], ?_, ?_⟩, ?_⟩
    ·simp only [rdMany_snoc]
     exact g2
    ·intro j d' hj
     rcases Nat.lt_or_ge j ds.length with h | h
     ·rw [List.getElem?_append_left h] at hj
      obtain ⟨c', m1, m2, m3⟩ := hds j d' hj
      have hlt := mul_lt (n := e.size) (show j < i by omega)
      refine ⟨c', m1, m2.eff g6 ?_, Ty.Rep.eff g6 ?_ e (q + 1) (q + 1) c' d' ?_ (Nat.le_refl _) m3⟩
      ·rintro u hu (⟨h, _⟩ | ⟨_, h, _⟩)
       ·exact hqrb h
       ·omega
      ·rintro u (⟨h, _⟩ | ⟨h, _⟩)
       ·exact hst.rd.ne h.symm
       ·exact hqsb h.symm
      ·rintro k u hk _ (⟨h, _⟩ | ⟨h, _⟩) <;> omega
     ·rw [List.getElem?_append_right h] at hj
      have hj0 : j - ds.length = 0 := by
       rcases Nat.eq_zero_or_pos (j - ds.length) with h | h
       ·exact h
       ·rw [List.getElem?_eq_none (by simp; omega)] at hj; cases hj
      rw [hj0] at hj
      simp only [List.getElem?_cons_zero, Option.some.injEq] at hj
      subst hj
      have : j = i := by omega
      subst this
      exact ⟨c, g3, g4, g5⟩
    ·intro h
     simp only [rdMany_snoc] at h ⊢
     rw [hdeq (hmono _ h), g7 h]
    ·intro j hj1 hj2
     have hlt := mul_lt (n := e.size) (show i < j by omega)
     refine (hrest j (by omega) hj2).eff g6 ?_
     rintro u hu (⟨h, _⟩ | ⟨_, _, h⟩)
     ·exact hqrb h
     ·omega
   ·intro a3 w3 g1 g2 g3 g4 g5
    refine kr1 a3 w3 g1 g2 g3 ⟨hE1.trans' (hEw w3 g4) ?_, ?_⟩
    ·rintro k j hk (h | h)
     ·exact h
     ·omega
    ·rw [hrd]
     have := rdMany_bad (f := fun s => e.rd fx ver s) hmono (i + 1) (rdCn fx st).2 (len - (i + 1)) (by rw [rdMany_snoc]; exact g5)
     rwa [show i + 1 + (len - (i + 1)) = len by omega] at this
  ·rintro a2 w2 hf2 hst2 ⟨hE2, ⟨ds, hdl, hds, hdeq⟩, _⟩
   have hw2 := hE2.size
   have hE : Eff (RM rb) w w2 := by
    refine hE1.trans' hE2 ?_
    rintro k j hk (h | h)
    ·exact h
    ·omega
   refine fin a2 w2 (.list (some ds)) (hf1.trans (hf2.mono (KR.mono (by omega) htt))) (by rw [hrd]; exact hst2) (by rw [hf2.slot _ (.inl (by omega))]; exact hy) ?_ hE ?_
   ·exact ⟨q, cap, by rw [hdl], hq1, by omega, by omega, hds⟩
   ·intro h
    rw [hrd] at h ⊢
    rw [hdeq h]
  ·rintro a2 w2 g1 g2 g3 ⟨g4, g5⟩
   exact kr a2 w2 (by rw [g1, hf1.defers]) (by rw [g2, hs1]) g3 g4 g5
end
end Go.Km
namespace Go.Km
open Go Go.RowKit
attribute [local irreducible] vc rO_ runG runS runD
section
variable {P : Program} {E : Env} {T : List (Nat × List UInt8) → Prop}
theorem fv_nil (H : EnvR P E T) (hT : T []) (b0 : Bool) : (Flds.nil b0).RVal P E T := by
 intro x ver fx L TP TU s idx off n t b rb sb pb po B ev a w st Q hok htx hs hn ht hst hp hsn hc hf h1 h2 h3 hB hrB hBw kn kr
 have hnL := hs.nL; have hLt := hs.Lt; have h7 := hs.seven
 have hkt := hs.kt
 -- no tags are read
 have same : fx = false → ∀ a1, Fr (KR L n t) a a1 → Q .normal a1 w := by
  intro h a1 hfr
  subst h
  refine kn a1 w (Flds.dz (.nil b0)) [] [] hfr (hst.fr hs hfr) (Flds.dz_len _) hc (Flds.dz_rep hT (.nil b0) B rfl) (Eff.refl _ _) (fun _ => ⟨?_, ?_⟩)
  ·simp [Flds.rd]
  ·simp [Flds.rd]
 simp only [Flds.rc, rTagsC]
 cases hx : x.fl with
 | none => exact vN (same (hs.no hx) a (Fr.refl _ _))
 | some fl =>
  simp only [Flds.okR, hx, Option.isNone_some, Bool.false_or, Bool.and_eq_true, beq_iff_eq, bne_iff_ne] at hok
  obtain ⟨⟨⟨htg, hfo⟩, hrt⟩, hagg⟩ := hok
  subst htg
  simp only [Flds.rt, hx] at ht
  have hfl := hs.fl fl hx
  refine vS (vX (rM (dn ?_)))
  have hf0 : Fr (KR L n t) a (a.put (some t) (a.eval (.tmp fl))) := (Fr.refl _ a).put _ (hkt _ (Nat.le_refl _))
  refine vS (vC (t := fx) (by rw [eval_put_same _ _ _ (by omega)]; exact hst.fl fl hx) ?_ ?_)
  ·intro h
   subst h
   refine vR (by simp) ?_
   refine rM ?_
   refine r_call' (args := #[.pointer (some ⟨rb, 0, none⟩)]) ?_ (H.tags hrt rb sb st w hst.rd) ?_
   ·simp only [lM]
    simp (disch := (try simp only [sP]); omega) only [eV, hst.p7]
   rintro v w1 ⟨⟨u, tags, rfl, hu, htr, htd⟩, hr, hE⟩
   refine r_nil (ad := ⟨pb, po, none⟩) (by simp (disch := (try simp only [sP]); omega) only [eV, hp]) ?_
   refine rF (b := pb) (o := po) (by simp (disch := (try simp only [sP]); omega) only [eV]) hfo ?_
   have hfree : ∀ i, i < [u].length → Free w1 pb (po + off + i) := fun i hi => (hf i (by simpa [Flds.size] using hi)).eff hE
   refine r_storeAgg (b := pb) (o := po + off) (cs := [u]) (by simp (disch := (try simp only [sP]); omega) only [eV]) (by simp (disch := (try simp only [sP]); omega) only [eV]) (by simpa using hu) hagg hfree ?_
   refine dn (vN (vN ?_))
   have hE2 := setCells_eff pb [u] w1 (po + off)
   have hE2' : Eff (FM rb pb (po + off) (Flds.nil true).size) w1 (setCells w1 pb (po + off) [u]) := hE2.mono (fun k i _ h => .inr h)
   have hE1' : Eff (FM rb pb (po + off) (Flds.nil true).size) w w1 := hE.mono (fun k i _ h => .inl h)
   generalize ha2 : Act.put (Act.put (Act.put (Act.put (Act.put a _ _) _ _) _ _) _ _) _ _ = a2
   have hf2 : Fr (KR L n t) a a2 := by
    subst ha2
    exact (((((Fr.refl _ a).put _ (hkt _ (by omega))).put _ (hkt _ (by omega))).put _ (hkt _ (by omega))).put _ (hkt _ (by omega))).put _ (hkt _ (by omega))
   refine kn a2 _ [u] [] tags hf2 ?_ (by simp [Flds.size]) ?_ ?_ (hE1'.trans hE2') ?_
   ·simp only [Flds.rd, if_true]
    exact (hst.step hs hf2 hr hE).keep hs (Fr.refl _ _) hE2 (by rintro j ⟨h, _⟩; exact h1 h.symm) (by rintro j ⟨h, _⟩; exact h2 h.symm) (by rintro j ⟨h, _⟩; exact h3 h.symm)
   ·intro j v hv
    exact setCells_cell _ _ _ _ (fun j hj => (hfree j hj).1) j v hv
   ·simp only [Flds.Rep, if_true]
    refine ⟨u, rfl, htr.eff hE2 ?_ ?_ hBw⟩
    ·rintro j ⟨h, _⟩; exact h2 h.symm
    ·rintro k j hk _ ⟨h, _⟩; omega
   ·intro h
    simp only [Flds.rd, if_true] at h
    exact ⟨by simp [Flds.rd], by rw [htd h]; simp [Flds.rd]⟩
  ·intro h
   exact vK (vN (vN (same h _ hf0)))
theorem m_nstruct (H : EnvR P E T) {TP' TU' PP : TypeId} {FD : FuncId} {fs : Flds} (hF : fs.RVal P E T) {x : Cx} {ver : Nat} {fx : Bool} {L TP TU s idx off n t b rb sb pb po B : Nat} {ev : Value} {a : Act} {w : World} {st : RSt} {Q : Exit → Act → World → Prop}
  (hok : (Ty.nstruct TP' TU' FD fs PP).okR P E x = true) (htx : (Ty.nstruct TP' TU' FD fs PP).txR P E) (hs : RSl x L n t fx) (hn : n + 3 + fs.rn ≤ L) (ht : t + (17 + fs.rt x) ≤ a.tmps.size) (hst : RSta E x ver fx rb sb ev a w st)
  (hp : a.eval (.tmp s) = .pointer (some ⟨pb, po, none⟩)) (hsn : s < n) (hfo : fieldOff P TU idx = some off) (hc : Cells w pb (po + off) [.pointer none]) (hf : Free w pb (po + off)) (h1 : pb ≠ rb) (h2 : pb ≠ sb) (h3 : pb ≠ E.vErr) (hB : pb < B) (hrB : rb < B) (hBw : B ≤ w.heap.size)
  (kn : ∀ a' w' c d, Fr (KR L n t) a a' → RSta E x ver fx rb sb ev a' w' ((Ty.nstruct TP' TU' FD fs PP).rd fx ver st).2 → c.length = 1 → Cells w' pb (po + off) c → (Ty.nstruct TP' TU' FD fs PP).Rep w' ⟨sb, T⟩ B c d → Eff (FM rb pb (po + off) 1) w w' →
   (((Ty.nstruct TP' TU' FD fs PP).rd fx ver st).2.2 = false → d = ((Ty.nstruct TP' TU' FD fs PP).rd fx ver st).1) → Q .normal a' w')
  (kr : ∀ a' w', a'.defers = a.defers → a'.tmps.size = a.tmps.size → a'.eval (.tmp 6) = ev → Eff (FM rb pb (po + off) 1) w w' → ((Ty.nstruct TP' TU' FD fs PP).rd fx ver st).2.2 = true → Q .ret a' w') :
  vc P (sq (Ty.rc E x TP TU s idx n t b (.nstruct TP' TU' FD fs PP))) Q a w := by
 have hnL := hs.nL; have hLt := hs.Lt; have h7 := hs.seven
 have hkt := hs.kt
 simp only [Ty.okR, Bool.and_eq_true, bne_iff_ne] at hok
 obtain ⟨⟨⟨hI8, hTP⟩, hokF⟩, hokD⟩ := hok
 simp only [Ty.txR] at htx
 obtain ⟨⟨np, nt, htxt, hnt⟩, hz, htxF⟩ := htx
 obtain ⟨z, hz, hzc⟩ := Option.map_eq_some_iff.1 hz
 have hrd : (Ty.nstruct TP' TU' FD fs PP).rd fx ver st = if (Scal.i8.rd st).1 = -1 ∨ (Scal.i8.rd st).2.2 = true then (.list none, (Scal.i8.rd st).2)
  else (.list (some [.obj (fs.rd fx ver (Scal.i8.rd st).2).1 (fs.rd fx ver (Scal.i8.rd st).2).2.1]), (fs.rd fx ver (Scal.i8.rd st).2).2.2) := by simp only [Ty.rd]
 rw [hrd] at kn kr
 clear hrd
 simp only [Ty.rc]
 refine vS (m_rcall (K := KR L n t) hst.p7 (H.scal .i8 hI8 rb sb st w hst.rd) hkt (hs.kn n (Nat.le_refl _) (by omega)) (by omega) (by omega) ?_)
 rintro a1 v w1 hf1 he1 ⟨⟨hv, _⟩, hr1, hE1⟩
 have hst1 := hst.step hs hf1 hr1 hE1
 have hz1 := hf1.size
 have hEm1 : Eff (FM rb pb (po + off) 1) w w1 := hE1.mono (fun k i _ h => .inl h)
 have hc1 : Cells w1 pb (po + off) [.pointer none] := hc.eff hE1 (by rintro i hi ⟨h, _⟩; exact h1 h)
 have hv' : v = .int .i8 (Scal.i8.rd st).1 := hv
 have hp1 : a1.eval (.tmp s) = .pointer (some ⟨pb, po, none⟩) := by rw [hf1.slot _ (.inl hsn)]; exact hp
 have hws1 := hE1.size
 refine vS (vS (vc_runS ?_))
 refine rD rfl (wN rfl) (rM (dn (rT ?_)))
 refine rD rfl (wN rfl) (r_neq (k := .i8) (m := (Scal.i8.rd st).1) (n := -1) (by simp (disch := (try simp only [sP]); omega) only [eV, he1, hv']) rfl (dn (rT ?_)))
 refine rD rfl (wN rfl) (rM (dn (rT ?_)))
 have null : ∀ a2, Fr (KR L n t) a a2 → ((Scal.i8.rd st).1 = -1 ∨ (Scal.i8.rd st).2.2 = true) → Q .normal a2 w1 := by
  intro a2 hf2 hor
  rw [if_pos hor] at kn
  exact kn a2 w1 [.pointer none] (.list none) hf2 (hst.step hs hf2 hr1 hE1) rfl hc1 rfl hEm1 (fun _ => rfl)
 by_cases hm : (Scal.i8.rd st).1 = -1
 ·have hm' : ((Scal.i8.rd st).1 != -1) = false := by simpa using hm
  rw [hm']
  refine runS_no rfl (by rw [wS (b := false) rfl rfl (by simp (disch := (try simp only [sP]); omega) only [eV])]; rfl) ?_
  refine rD rfl (wN rfl) (r_pickF (by simp (disch := (try simp only [sP]); omega) only [eV]) (dn (rT ?_)))
  refine runS_nil ?_
  refine vS (vC (t := false) (by simp (disch := (try simp only [sP]); omega) only [eV]) (fun h => by cases h) (fun _ => ?_))
  refine vK (vN (vN (null _ ?_ (.inl hm))))
  exact ((((hf1.put _ (hkt _ (by omega))).put _ (hkt _ (by omega))).put _ (hkt _ (by omega))).put _ (hkt _ (by omega))).put _ (hkt _ (by omega))
 have hm' : ((Scal.i8.rd st).1 != -1) = true := by simpa using hm
 rw [hm']
 refine rD rfl (by rw [wS (b := true) rfl rfl (by simp (disch := (try simp only [sP]); omega) only [eV])]; rfl) (r_call' (args := #[.pointer (some ⟨rb, 0, none⟩)]) ?_ (H.ok rb sb (Scal.i8.rd st).2 w1 hr1) ?_)
 ·have := hst1.p7
  simp only [lM]
  simp (disch := (try simp only [sP]); omega) only [eV, this]
 rintro v2 w2 ⟨rfl, hw2⟩
 rw [hw2]
 clear hw2
 refine dn (rT ?_)
 refine rD rfl (wN rfl) (r_pickT (by simp (disch := (try simp only [sP]); omega) only [eV]) (dn (rT ?_)))
 refine runS_nil ?_
 generalize ha2 : Act.put _ (some (t + 5)) _ = a2
 have hf2 : Fr (KR L n t) a a2 := by
  subst ha2
  exact ((((hf1.put _ (hkt _ (by omega))).put _ (hkt _ (by omega))).put _ (hkt _ (by omega))).put _ (hkt _ (by omega))).put _ (hkt _ (by omega))
 have hz2 := hf2.size
 have he2 : a2.eval (.tmp (t + 5)) = .bool (!(Scal.i8.rd st).2.2) := by subst ha2; simp (disch := (try simp only [sP]); omega) only [eV]
 have hp2 : a2.eval (.tmp s) = .pointer (some ⟨pb, po, none⟩) := by subst ha2; simp (disch := (try simp only [sP]); omega) only [eV, hp1]
 clear ha2
 refine vS (vC (t := !(Scal.i8.rd st).2.2) he2 ?_ (fun hbad => ?_))
 rotate_left
 ·have hbad' : (Scal.i8.rd st).2.2 = true := by simpa using hbad
  exact vK (vN (vN (null a2 hf2 (.inr hbad'))))
 ·intro hgood
  have hgood' : (Scal.i8.rd st).2.2 = false := by simpa using hgood
  have hor : ¬ ((Scal.i8.rd st).1 = -1 ∨ (Scal.i8.rd st).2.2 = true) := by
   rintro (h | h)
   ·exact hm h
   ·rw [hgood'] at h; cases h
  rw [if_neg hor] at kn kr
  have hfree1 : Free w1 pb (po + off) := hf.eff hE1
  have hpb1 := hfree1.lt
  have hrb1 : rb < w1.heap.size := by omega
  have hsb1 := hr1.lt
  have hev1 : E.vErr < w1.heap.size := lt_of_cell hst1.err
  have hf2' : Free (w1.alloc (.cells z.cells TU')) pb (po + off) := hfree1.eff ((Eff.refl (fun _ _ => False) _).alloc _)
  refine vX (rM ?_)
  refine r_alloc hz ?_
  refine r_nil (ad := ⟨pb, po, none⟩) (by simp (disch := (try simp only [sP]); omega) only [eV, hp2]) ?_
  refine rF (b := pb) (o := po) (by simp (disch := (try simp only [sP]); omega) only [eV]) hfo ?_
  refine r_store (b := pb) (o := po + off) (v := .pointer (some ⟨w1.heap.size, 0, none⟩)) (by simp (disch := (try simp only [sP]); omega) only [eV]) (by simp (disch := (try simp only [sP]); omega) only [eV]) rfl hTP hf2' ?_
  refine dn ?_
  have hzl : z.cells.size = fs.size := by
   have := congrArg List.length hzc
   rw [Flds.zc_len] at this
   simpa using this
  have hEa : Eff (fun k i => k = pb ∧ i = po + off) w1 ((w1.alloc (.cells z.cells TU')).setCell ⟨pb, po + off, none⟩ (.pointer (some ⟨w1.heap.size, 0, none⟩))) :=
   ((Eff.refl _ w1).alloc _).setCell _ _ _ (fun _ => ⟨rfl, rfl⟩)
  have hc3 : Cells ((w1.alloc (.cells z.cells TU')).setCell ⟨pb, po + off, none⟩ (.pointer (some ⟨w1.heap.size, 0, none⟩))) pb (po + off) [.pointer (some ⟨w1.heap.size, 0, none⟩)] := by
   intro j u hu
   cases j with
   | zero =>
    simp only [List.getElem?_cons_zero, Option.some.injEq] at hu
    subst hu
    exact cell_setCell_same _ hf2'.1
   | succ j => simp at hu
  have hq3 : Cells ((w1.alloc (.cells z.cells TU')).setCell ⟨pb, po + off, none⟩ (.pointer (some ⟨w1.heap.size, 0, none⟩))) w1.heap.size 0 fs.zc := by
   intro j u hu
   rw [cell_setCell_ne _ (.inl (by omega)), Nat.zero_add]
   refine cells_new w1 _ TU' ?_
   rw [← Array.getElem?_toList, hzc]
   exact hu
  have hqf : ∀ j, j < fs.size → Free ((w1.alloc (.cells z.cells TU')).setCell ⟨pb, po + off, none⟩ (.pointer (some ⟨w1.heap.size, 0, none⟩))) w1.heap.size (0 + j) := by
   intro j hj
   have := free_new w1 z.cells TU' (i := j) (by omega)
   rw [Nat.zero_add]
   exact this.eff ((Eff.refl (fun k _ => k = pb) _).setCell _ _ _ (fun _ => rfl))
  have hqlt : w1.heap.size < ((w1.alloc (.cells z.cells TU')).setCell ⟨pb, po + off, none⟩ (.pointer (some ⟨w1.heap.size, 0, none⟩))).heap.size := by simp
  generalize (w1.alloc (.cells z.cells TU')).setCell ⟨pb, po + off, none⟩ (.pointer (some ⟨w1.heap.size, 0, none⟩)) = w3 at *
  have hst2 : RSta E x ver fx rb sb ev a2 w1 (Scal.i8.rd st).2 := hst.step hs hf2 hr1 hE1
  generalize ha3 : Act.put _ (some (t + 9)) _ = a3
  have hf3 : Fr (KR L n t) a2 a3 := by
   subst ha3
   exact ((((Fr.refl _ a2).put _ (hkt _ (by omega))).put _ (hkt _ (by omega))).put _ (hkt _ (by omega))).put _ (hkt _ (by omega))
  have hp3 : a3.eval (.tmp s) = .pointer (some ⟨pb, po, none⟩) := by subst ha3; simp (disch := (try simp only [sP]); omega) only [eV, hp2]
  have hz3 := hf3.size
  clear ha3
  have hst3 : RSta E x ver fx rb sb ev a3 w3 (Scal.i8.rd st).2 := hst2.keep hs hf3 hEa (by rintro j ⟨h, _⟩; exact h1 h.symm) (by rintro j ⟨h, _⟩; exact h2 h.symm) (by rintro j ⟨h, _⟩; exact h3 h.symm)
  refine vX (rM ?_)
  refine r_nil (ad := ⟨pb, po, none⟩) (by simp (disch := (try simp only [sP]); omega) only [eV, hp3]) ?_
  refine rF (b := pb) (o := po) (by simp (disch := (try simp only [sP]); omega) only [eV]) hfo ?_
  refine rL (b := pb) (o := po + off) (v := .pointer (some ⟨w1.heap.size, 0, none⟩)) (by simp (disch := (try simp only [sP]); omega) only [eV]) hTP (hc3 0 _ rfl) ?_
  refine rA (dn (vX (rM ?_)))
  refine r_call' (args := #[.pointer (some ⟨w1.heap.size, 0, none⟩)]) ?_ (c_dflt (b := w1.heap.size) (o := 0) (off := 0) (cs := fs.zc) htxt hnt hokD (Flds.zc_len fs) hq3 (fun i hi => hqf i hi)) ?_
  ·simp only [lM]
   simp (disch := (try simp only [sP]); omega) only [eV]
  rintro v4 w4 ⟨hE4, hc4⟩
  rw [Flds.over_zc] at hc4
  refine dn (vX (rM (rA (dn ?_))))
  generalize ha5 : Act.put _ (some (n + 2)) _ = a5
  have hf5 : Fr (KR L n t) a3 a5 := by
   subst ha5
   exact (((((((((Fr.refl _ a3).put _ (hkt _ (by omega))).put _ (hkt _ (by omega))).put _ (hkt _ (by omega))).put _ (hkt _ (by omega))).put _ (hs.kn (n + 1) (by omega) (by omega))).put _ (hkt _ (by omega))).put _ (hkt _ (by omega))).put _ (hkt _ (by omega))).put _ (hs.kn (n + 2) (by omega) (by omega))
  have hp5 : a5.eval (.tmp (n + 2)) = .pointer (some ⟨w1.heap.size, 0, none⟩) := by subst ha5; simp (disch := (try simp only [sP]); omega) only [eV]
  have hz5 := hf5.size
  clear ha5
  have hE4q : ∀ k, k < w1.heap.size → ∀ i, ¬ (k = w1.heap.size ∧ 0 + 0 ≤ i ∧ i < 0 + 0 + fs.size) := by rintro k hk i ⟨h, _⟩; omega
  have hst5 : RSta E x ver fx rb sb ev a5 w4 (Scal.i8.rd st).2 := hst3.keep hs hf5 hE4 (fun i => hE4q _ hrb1 i) (fun i => hE4q _ hsb1 i) (fun i => hE4q _ hev1 i)
  have hc4' : Cells w4 pb (po + off) [.pointer (some ⟨w1.heap.size, 0, none⟩)] := hc3.eff hE4 (fun i _ => hE4q _ hpb1 _)
  have hw34 := hE4.size
  have hE13 : Eff (FM rb pb (po + off) 1) w w4 := (hEm1.trans' hEa (by rintro k i _ ⟨g1, g2⟩; exact .inr ⟨g1, by omega, by omega⟩)).trans' hE4 (by rintro k i hk ⟨g1, _⟩; omega)
  have hfr5 : Fr (KR L n t) a a5 := (hf2.trans hf3).trans hf5
  refine hF x ver fx L TP' TU' (n + 2) 0 0 (n + 3) (t + 17) b rb sb w1.heap.size 0 (w1.heap.size + 1) ev a5 w4 (Scal.i8.rd st).2 _ hokF htxF (hs.up (by omega) (by omega) (by omega)) (by omega) (by rw [hz5, hz3, hz2]; omega) hst5 hp5 (by omega) hc4 (fun i hi => (hqf i hi).eff hE4) (by omega) (by omega) (by omega) (by omega) (by omega) (by omega) ?_ ?_
  ·intro a6 w6 cs ds tags g1 g2 g3 g4 g5 g6 g7
   have hM6 : ∀ k, k < w1.heap.size → k ≠ rb → ∀ i, ¬ FM rb w1.heap.size (0 + 0) fs.size k i := by
    rintro k hk hne i (⟨h, _⟩ | ⟨h, _⟩)
    ·exact hne h
    ·omega
   have hE6 : Eff (FM rb pb (po + off) 1) w w6 := hE13.trans' g6 (by
    rintro k i hk (h | ⟨h, _⟩)
    ·exact .inl h
    ·omega)
   refine vN (vN (kn a6 w6 [.pointer (some ⟨w1.heap.size, 0, none⟩)] (.list (some [.obj ds tags])) (hfr5.trans (g1.mono (KR.mono (by omega) (by omega)))) g2 rfl (hc4'.eff g6 (fun i _ => hM6 pb hpb1 h1 _)) ?_ hE6 ?_))
   ·simp only [Ty.Rep]
    exact ⟨w1.heap.size, cs, rfl, by omega, Nat.lt_of_lt_of_le (Nat.lt_of_lt_of_le hqlt hw34) g6.size, g3, g4, g5⟩
   ·intro h
    obtain ⟨rfl, rfl⟩ := g7 h
    rfl
  ·intro a6 w6 g1 g2 g3 g4 g5
   exact kr a6 w6 (by rw [g1, hfr5.defers]) (by rw [g2, hfr5.size]) g3 (hE13.trans' g4 (by
    rintro k i hk (h | ⟨h, _⟩)
    ·exact .inl h
    ·omega)) g5
theorem fv_cons (H : EnvR P E T) (hT : T []) {v : Ver} {ty : Ty} {r : Flds} (hlf : ty.tp = none → ty.np = false → ty.RVal P E T) (hfn : ∀ TP TU FD fs PP, ty = .nstruct TP TU FD fs PP → fs.RVal P E T) (hfs : ∀ TP TU FD fs, ty = .struct TP TU FD fs → fs.RVal P E T) (hr : r.RVal P E T) : (Flds.cons v ty r).RVal P E T := by
 intro x ver fx L TP TU s idx off n t b rb sb pb po B ev a w st Q hok htx hs hn ht hst hp hsn hc hf h1 h2 h3 hB hrB hBw kn kr
 have hnL := hs.nL; have hLt := hs.Lt; have h7 := hs.seven
 have hkt := hs.kt
 simp only [Flds.okR, Bool.and_eq_true, beq_iff_eq] at hok
 obtain ⟨⟨⟨hfo, hokt⟩, hokz⟩, hokr⟩ := hok
 simp only [Flds.txR] at htx
 obtain ⟨htxt, htxr⟩ := htx
 simp only [Flds.rt] at ht
 simp only [Flds.size] at hf kn kr
 simp only [Flds.dz] at hc
 have hcd : Cells w pb (po + off) ty.dz := by
  have := hc.tk (n := ty.size)
  rwa [← Ty.dz_len ty, List.take_left] at this
 have hcr : Cells w pb (po + (off + ty.size)) r.dz := by
  have := hc.dp (n := ty.size)
  rwa [← Ty.dz_len ty, List.drop_left, Ty.dz_len ty, Nat.add_assoc] at this
 have hn1 : n + 1 + (match ty.tp with | some _ => 1 | none => 0) + ty.rn + r.rn ≤ L := by
  simp only [Flds.rn] at hn
  cases htp : ty.tp <;> simp only [htp] at hn ⊢ <;> omega
 simp only [Flds.rc]
 -- what comes behind
 have next : ∀ (a1 : Act) (w1 : World) (c : List Value) (d d1 : D) (st1 : RSt), Fr (KR L n t) a a1 → RSta E x ver fx rb sb ev a1 w1 st1 → c.length = ty.size → Cells w1 pb (po + off) c → ty.Rep w1 ⟨sb, T⟩ B c d → Eff (FM rb pb (po + off) ty.size) w w1 → (st1.2 = false → d = d1) →
   ((Flds.cons v ty r).rd fx ver st = (d1 :: (r.rd fx ver st1).1, (r.rd fx ver st1).2)) →
   vc P (sq (r.rc E x TP TU s (idx + 1) (n + 1 + (match ty.tp with | some _ => 1 | none => 0) + ty.rn) (t + v.nt + ty.h + ty.rt x) (b + ty.wb))) Q a1 w1 := by
  intro a1 w1 c d d1 st1 hfr hst1 hcl hcc hrep hE hd hrd
  have hsz := hfr.size
  have hw1 := hE.size
  have hMs : ∀ i, ¬ FM rb pb (po + (off + ty.size)) r.size sb i := by
   rintro i (⟨h, _⟩ | ⟨h, _⟩)
   ·exact hst.rd.ne h.symm
   ·exact h2 h.symm
  have hMB : ∀ k i, B ≤ k → ¬ FM rb pb (po + (off + ty.size)) r.size k i := by
   rintro k i hk (⟨h, _⟩ | ⟨h, _⟩) <;> omega
  have hEE : ∀ w2, Eff (FM rb pb (po + (off + ty.size)) r.size) w1 w2 → Eff (FM rb pb (po + off) (ty.size + r.size)) w w2 := by
   intro w2 h
   refine (hE.mono ?_).trans (h.mono ?_)
   ·rintro k i _ (h | ⟨g1, g2, g3⟩)
    ·exact .inl h
    ·exact .inr ⟨g1, g2, by omega⟩
   ·rintro k i _ (h | ⟨g1, g2, g3⟩)
    ·exact .inl h
    ·exact .inr ⟨g1, by omega, by omega⟩
  refine hr x ver fx L TP TU s (idx + 1) (off + ty.size) _ _ _ rb sb pb po B ev a1 w1 st1 Q hokr htxr (hs.up (by omega) (by omega) (by omega)) hn1 (by rw [hsz]; omega) hst1 (by rw [hfr.slot _ (.inl hsn)]; exact hp) (by omega)
   (hcr.eff hE ?_) (fun i hi => ?_) h1 h2 h3 hB hrB (by omega) ?_ ?_
  ·rintro i hi (⟨h, _⟩ | ⟨_, _, h⟩)
   ·exact h1 h
   ·omega
  ·have := (hf (ty.size + i) (by omega)).eff hE
   rwa [show po + off + (ty.size + i) = po + (off + ty.size) + i by omega] at this
  ·intro a2 w2 cs ds tags g1 g2 g3 g4 g5 g6 g7
   refine kn a2 w2 (c ++ cs) (d :: ds) tags (hfr.trans (g1.mono (KR.mono (by omega) (by omega)))) (by rw [hrd]; exact g2) (by rw [List.length_append, hcl, g3]) ?_ ?_ (hEE w2 g6) ?_
   ·refine (hcc.eff g6 ?_).append ?_
    ·rintro i hi (⟨h, _⟩ | ⟨_, h, _⟩)
     ·exact h1 h
     ·omega
    ·rw [hcl, show po + off + ty.size = po + (off + ty.size) by omega]
     exact g4
   ·simp only [Flds.Rep]
    rw [← hcl, List.take_left, List.drop_left]
    exact ⟨Ty.Rep.eff g6 hMs ty B B c d (fun k i hk _ => hMB k i hk) (Nat.le_refl _) hrep, g5⟩
   ·intro h
    rw [hrd] at h ⊢
    obtain ⟨rfl, rfl⟩ := g7 h
    rw [hd (Flds.rd_mono fx ver r _ h)]
    exact ⟨rfl, rfl⟩
  ·intro a2 w2 g1 g2 g3 g4 g5
   exact kr a2 w2 (by rw [g1, hfr.defers]) (by rw [g2, hsz]) g3 (hEE w2 g4) (by rw [hrd]; exact g5)
 refine vS (m_ver (K := KR L n t) hst.ver (by have := hs.vs; omega) hkt (by omega) ?_ ?_)
 ·intro hv a1 hf1 he1
  have hrd : (Flds.cons v ty r).rd fx ver st = ((ty.rd fx ver st).1 :: (r.rd fx ver (ty.rd fx ver st).2).1, (r.rd fx ver (ty.rd fx ver st).2).2) := by simp only [Flds.rd, hv, if_true]
  have hbad : (ty.rd fx ver st).2.2 = true → ((Flds.cons v ty r).rd fx ver st).2.2.2 = true := by
   intro h
   rw [hrd]
   cases hh : (r.rd fx ver (ty.rd fx ver st).2).2.2.2 with
   | true => rfl
   | false => rw [Flds.rd_mono fx ver r _ hh] at h; cases h
  have hst1 := hst.fr hs hf1
  have hsz1 := hf1.size
  have hp1 : a1.eval (.tmp s) = .pointer (some ⟨pb, po, none⟩) := by rw [hf1.slot _ (.inl hsn)]; exact hp
  cases htp : ty.tp with
  | some TP' =>
   cases ty with
   | struct TP2 TU2 FD fs =>
    simp only [Ty.tp, Option.some.injEq] at htp
    subst htp
    simp only [Ty.tp, Ty.h, Ty.rn, Ty.rt, Ty.size, Ty.dz] at hn1 ht hf hcd next kn kr ⊢
    refine vX (rM ?_)
    refine r_nil (ad := ⟨pb, po, none⟩) (by simp (disch := (try simp only [sP]); omega) only [eV, hp1]) ?_
    refine rF (b := pb) (o := po) (by simp (disch := (try simp only [sP]); omega) only [eV]) hfo ?_
    refine rA (dn ?_)
    generalize ha2 : Act.put (Act.put (Act.put (Act.put a1 _ _) _ _) _ _) _ _ = a2
    have hf2 : Fr (KR L n t) a1 a2 := by
     subst ha2
     exact ((((Fr.refl _ a1).put _ (hkt _ (by omega))).put _ (hkt _ (by omega))).put _ (hkt _ (by omega))).put _ (hs.kn n (Nat.le_refl _) (by omega))
    have hp2 : a2.eval (.tmp n) = .pointer (some ⟨pb, po + off, none⟩) := by subst ha2; simp (disch := (try simp only [sP]); omega) only [eV]
    have hsz2 := hf2.size
    refine m_struct (hfs _ _ _ _ rfl) (ver := ver) (B := B) hokt htxt (hs.up (n' := n) (t' := t + v.nt + 3) (Nat.le_refl _) (by omega) (by omega)) (by omega) (by rw [hsz2, hsz1]; omega) (hst1.fr hs hf2) hp2 (Flds.dz_len fs) (Flds.over_dz fs) hcd (fun i hi => hf i (by omega)) h1 h2 h3 hB hrB hBw ?_ ?_
    ·intro a3 w3 cs ds tags g1 g2 g3 g4 g5 g6 g7
     exact next a3 w3 cs (.obj ds tags) _ _ ((hf1.trans hf2).trans (g1.mono (KR.mono (Nat.le_refl _) (by omega)))) g2 g3 g4 g5 g6 (fun h => by obtain ⟨rfl, rfl⟩ := g7 h; rfl) hrd
    ·intro a3 w3 g1 g2 g3 g4 g5
     refine kr a3 w3 (by rw [g1, hf2.defers, hf1.defers]) (by rw [g2, hsz2, hsz1]) g3 (g4.mono ?_) (hbad g5)
     rintro k i _ (h | ⟨m1, m2, m3⟩)
     ·exact .inl h
     ·exact .inr ⟨m1, m2, by omega⟩
   | _ => cases htp
  | none =>
   simp only [htp] at hn1 next ⊢
   have hh4 : ty.h = 4 := by simp only [Ty.h, htp]
   cases hnp : ty.np with
   | true =>
    cases ty with
    | nstruct TP2 TU2 FD fs PP2 =>
     simp only [if_true, List.append_nil]
     simp only [Ty.rn, Ty.rt, Ty.size, Ty.dz] at hn1 ht hf hcd hh4 next kn kr
     rw [hh4] at ht
     refine m_nstruct H (hfn _ _ _ _ _ rfl) (B := B) hokt htxt (hs.up (n' := n) (t' := t + v.nt) (Nat.le_refl _) (by omega) (by omega)) (by omega) (by rw [hsz1]; omega) hst1 hp1 hsn hfo hcd (by simpa using hf 0 (by omega)) h1 h2 h3 hB hrB hBw ?_ ?_
     ·intro a3 w3 c d g1 g2 g3 g4 g5 g6 g7
      exact next a3 w3 c d _ _ (hf1.trans (g1.mono (KR.mono (Nat.le_refl _) (by omega)))) g2 g3 g4 g5 g6 g7 hrd
     ·intro a3 w3 g1 g2 g3 g4 g5
      refine kr a3 w3 (by rw [g1, hf1.defers]) (by rw [g2, hsz1]) g3 (g4.mono ?_) (hbad g5)
      rintro k i _ (h | ⟨m1, m2, m3⟩)
      ·exact .inl h
      ·exact .inr ⟨m1, m2, by omega⟩
    | _ => cases hnp
   | false =>
   simp only [Bool.false_eq_true, if_false]
   have hrn : ty.rslot ≤ ty.rn := by cases ty <;> simp [Ty.rslot, Ty.rn]
   refine vc_sq_append ?_
   refine hlf htp hnp x ver fx L TP TU s idx n (t + v.nt) b rb sb ev a1 w st _ hokt htxt (hs.up (Nat.le_refl _) (by omega) (by omega)) (by omega) (by omega) hst1 ?_ ?_ ?_
   ·intro hli
    refine ⟨pb, po, off, hp1, hsn, hfo, ?_⟩
    cases ty <;> simp only [Ty.isList] at hli <;> try cases hli
    exact hcd 0 (.slice none 0 0) (by simp [Ty.dz])
   ·intro a2 w2 cs d hf2' hst2 hval hrep hE hd
    obtain ⟨hcl, hc1⟩ := Ty.Rep.leaf ty htp hrep
    have hS := Ty.okR_okS ty hokt htp
    have hf2 : Fr (KR L n t) a1 a2 := hf2'.mono (KR.mono (Nat.le_refl _) (by omega))
    have hsz2 := hf2.size
    have hp2 : a2.eval (.tmp s) = .pointer (some ⟨pb, po, none⟩) := by rw [hf2.slot _ (.inl hsn)]; exact hp1
    refine vS (vR (by cases ty.arr <;> simp) ?_)
    refine rM ?_
    refine r_leafLoad (cs := cs) hS hcl ?_ ?_
    ·unfold Ty.Val at hval ⊢
     cases ha : ty.arr with
     | true =>
      simp only [ha, if_true] at hval ⊢
      obtain ⟨q1, g1, g2⟩ := hval
      exact ⟨q1, (by simp (disch := (try simp only [sP]); omega) only [eV, g1]), g2⟩
     | false =>
      simp only [ha, Bool.false_eq_true, if_false] at hval ⊢
      rw [hval]
      simp (disch := (try simp only [sP]); omega) only [eV]
    refine r_nil (ad := ⟨pb, po, none⟩) (by simp (disch := (try simp only [sP]); omega) only [eV, hp2]) ?_
    refine rF (b := pb) (o := po) (by simp (disch := (try simp only [sP]); omega) only [eV]) hfo ?_
    have hfree : ∀ j, j < ty.size → Free w2 pb (po + off + j) := fun j hj => (hf j (by omega)).eff hE
    refine r_leafStore (b := pb) (o := po + off) (cs := cs) hS hcl hc1 (by simp (disch := (try simp only [sP]); omega) only [eV]) (by simp (disch := (try simp only [sP]); omega) only [eV]) hfree ?_
    refine dn (vN ?_)
    have hE2 := setCells_eff pb cs w2 (po + off)
    rw [hcl] at hE2
    have hE2' : Eff (FM rb pb (po + off) ty.size) w2 (setCells w2 pb (po + off) cs) := hE2.mono (fun k i _ h => .inr h)
    have hE1' : Eff (FM rb pb (po + off) ty.size) w w2 := hE.mono (fun k i _ h => .inl h)
    generalize ha3 : Act.put (Act.put (Act.put (Act.put a2 _ _) _ _) _ _) _ _ = a3
    have hf3 : Fr (KR L n t) a2 a3 := by
     subst ha3
     exact ((((Fr.refl _ a2).put _ (hkt _ (by omega))).put _ (hkt _ (by omega))).put _ (hkt _ (by omega))).put _ (hkt _ (by omega))
    refine next a3 _ cs d _ _ ((hf1.trans hf2).trans hf3) (hst2.keep hs hf3 hE2 (by rintro j ⟨h, _⟩; exact h1 h.symm) (by rintro j ⟨h, _⟩; exact h2 h.symm) (by rintro j ⟨h, _⟩; exact h3 h.symm)) hcl ?_ ?_ (hE1'.trans hE2') hd hrd
    ·intro j u hu
     exact setCells_cell _ _ _ _ (fun j hj => (hfree j (by omega)).1) j u hu
    ·have hws := hE.size
     refine Ty.Rep.eff hE2 ?_ ty w.heap.size B cs d ?_ hBw hrep
     ·rintro j ⟨h, _⟩; exact h2 h.symm
     ·rintro k j hk _ ⟨h, _⟩; omega
   ·intro a2 w2 g1 g2 g3 g4 g5
    exact kr a2 w2 (by rw [g1, hf1.defers]) (by rw [g2, hsz1]) g3 (g4.mono (fun k i _ h => .inl h)) (hbad g5)
 ·intro hv a1 hf1 he1
  refine next a1 w ty.dz ty.dflt ty.dflt st hf1 (hst.fr hs hf1) (Ty.dz_len ty) hcd (Ty.dz_rep hT ty B hokz) (Eff.refl _ _) (fun _ => rfl) ?_
  simp only [Flds.rd, hv, Bool.false_eq_true, if_false]
mutual
theorem Ty.rval (H : EnvR P E T) (hT : T []) : ∀ ty : Ty, ty.tp = none → ty.np = false → ty.RVal P E T
 | .scal k df, _, _ => rv_scal H k df
 | .named k N df, _, _ => rv_named H k N df
 | .uuid, _, _ => rv_uuid H
 | .text, _, _ => rv_text H
 | .ntext, _, _ => rv_ntext H
 | .ntextFrom N, _, _ => rv_ntextFrom H N
 | .bytes, _, _ => rv_bytes H
 | .nbytes, _, _ => rv_nbytes H
 | .list TS null e, _, _ => rv_list H (fun h h' => Ty.rval H hT e h h') (fun TP TU FD fs h => Ty.rvals H hT e TP TU FD fs h)
 | .struct _ _ _ _, h, _ => by cases h
 | .nstruct _ _ _ _ _, _, h => by cases h
theorem Ty.rvaln (H : EnvR P E T) (hT : T []) : ∀ (ty : Ty) (TP TU : TypeId) (FD : FuncId) (fs : Flds) (PP : TypeId), ty = .nstruct TP TU FD fs PP → fs.RVal P E T
 | .nstruct TP TU FD fs PP, TP', TU', FD', fs', PP', h => by
  cases h
  exact Flds.rval H hT fs
 | .struct _ _ _ _, _, _, _, _, _, h | .scal _ _, _, _, _, _, _, h | .named _ _ _, _, _, _, _, _, h | .uuid, _, _, _, _, _, h | .text, _, _, _, _, _, h | .ntext, _, _, _, _, _, h | .ntextFrom _, _, _, _, _, _, h | .bytes, _, _, _, _, _, h | .nbytes, _, _, _, _, _, h | .list _ _ _, _, _, _, _, _, h => by cases h
theorem Ty.rvals (H : EnvR P E T) (hT : T []) : ∀ (ty : Ty) (TP TU : TypeId) (FD : FuncId) (fs : Flds), ty = .struct TP TU FD fs → fs.RVal P E T
 | .struct TP TU FD fs, TP', TU', FD', fs', h => by
  cases h
  exact Flds.rval H hT fs
 | .scal _ _, _, _, _, _, h | .named _ _ _, _, _, _, _, h | .uuid, _, _, _, _, h | .text, _, _, _, _, h | .ntext, _, _, _, _, h | .ntextFrom _, _, _, _, _, h | .bytes, _, _, _, _, h | .nbytes, _, _, _, _, h | .list _ _ _, _, _, _, _, h | .nstruct _ _ _ _ _, _, _, _, _, h => by cases h
theorem Flds.rval (H : EnvR P E T) (hT : T []) : ∀ fs : Flds, fs.RVal P E T
 | .nil b => fv_nil H hT b
 | .cons v ty r => fv_cons H hT (fun h h' => Ty.rval H hT ty h h') (fun TP TU FD fs PP h => Ty.rvaln H hT ty TP TU FD fs PP h) (fun TP TU FD fs h => Ty.rvals H hT ty TP TU FD fs h) (Flds.rval H hT r)
end
end
end Go.Km
namespace Go.Km
open Go Go.RowKit
attribute [local irreducible] vc rO_ runG runS runD
structure EnvRX (P : Program) (E : Env) : Prop where
 i16 : oneT P E.tI16 = true
 rd : lays P E.tRd = some ([(0, 1), (1, 1)], #[.slice none 0 0, .bool false])
 rdA : aggT P E.tRd = some 2
def Msg.rdv (m : Msg) (ver : Nat) (st : RSt) : List D × List (Nat × List UInt8) × RSt := m.fs.rd (m.isFlex ver) ver st
def RFC (m : Msg) (T : List (Nat × List UInt8) → Prop) (ev : Value) (ver mb rb sb B : Nat) (st : RSt) (w w' : World) (v : Value) : Prop :=
 v = (if (m.rdv ver st).2.2.2 then ev else .nilIface) ∧ Eff (FM rb mb 1 m.fs.size) w w' ∧
 ((m.rdv ver st).2.2.2 = false → ∃ cs, cs.length = m.fs.size ∧ Cells w' mb 1 cs ∧ m.fs.Rep w' ⟨sb, T⟩ B cs (m.rdv ver st).1 (m.rdv ver st).2.1)
def Msg.rtail (E : Env) (m : Msg) (t1 : Nat) : List Code :=
  [wLoad m.TP m.TU E.tI16 8 0 0 t1, rg [oMove (t1 + 4) (.tmp 8) E.tI16]] ++
    (match m.flex with
     | none => []
     | some f => [rg [oMove (t1 + 5) (.tmp 8) E.tI16, oBin (t1 + 6) .geq E.tI16 (.tmp (t1 + 5)) (i16 f) E.tI16 E.tO, oAssign 9 (.tmp (t1 + 6)) E.tO], rg [oMove (t1 + 7) (.tmp 9) E.tO]]) ++
    ([rg [oMove (t1 + 5 + (match m.flex with | none => 0 | some _ => 3)) (.tmp 0) m.TP, oAssign m.rs (.tmp (t1 + 5 + (match m.flex with | none => 0 | some _ => 3))) m.TP]] ++ m.fs.rc E m.rx m.TP m.TU m.rs 1 (m.rs + 1) (t1 + 5 + (match m.flex with | none => 0 | some _ => 3) + 1) 0 ++ [rCall E E.rComplete E.tErr 6 (t1 + 5 + (match m.flex with | none => 0 | some _ => 3) + 1 + m.fs.rt m.rx), .ret])
theorem rcode_eq (E : Env) (m : Msg) : m.rcode E = sq ([rg [oAssign 6 (.const .nilIface) E.tErr],
  rg [oMove m.rlocals (.tmp 0) m.TP, oCall (some (m.rlocals + 1)) m.FD #[.tmp m.rlocals] #[m.TP] 0],
  rg [oMove (m.rlocals + 2) (.tmp 1) E.tB, oBuild (m.rlocals + 3) E.tRd #[(0, .tmp (m.rlocals + 2))], oAlloc 7 E.tRd, oStore E.tRd (.tmp 7) (.tmp (m.rlocals + 3))]] ++
  ((if m.kept then [rg [oMove (m.rlocals + 4) (.tmp 0) m.TP, oCall (some (m.rlocals + 5)) E.rI16 #[.tmp 7] #[E.tRd] E.tI16, oNil (m.rlocals + 6) (.tmp (m.rlocals + 4)), oField (m.rlocals + 7) m.TU (.tmp (m.rlocals + 6)) 0, oStore E.tI16 (.tmp (m.rlocals + 7)) (.tmp (m.rlocals + 5))]] else []) ++
  m.rtail E (m.rlocals + 4 + (if m.kept then 4 else 0)))) := by
 unfold Msg.rcode Msg.rtail
 simp only [List.append_assoc, List.cons_append, List.nil_append]
 rfl
section
variable {P : Program} {E : Env} {T : List (Nat × List UInt8) → Prop}
theorem rf_flds (H : EnvR P E T) (hT : T []) {m : Msg} {ver mb rb sb B t2 : Nat} {ev : Value} {a : Act} {w : World} {st : RSt}
  (hok : m.fs.okR P E m.rx m.TU 1 1 = true) (htx : m.fs.txR P E) (ht2 : m.rlocals ≤ t2) (hsz : t2 + 1 + m.fs.rt m.rx + 1 ≤ a.tmps.size) (hdf : a.defers = [])
  (h0 : a.eval (.tmp 0) = .pointer (some ⟨mb, 0, none⟩)) (h2 : a.eval (.tmp 2) = .bool false) (h7 : a.eval (.tmp 7) = .pointer (some ⟨rb, 0, none⟩)) (h8 : a.eval (.tmp 8) = .int .i16 (ver : Int)) (h9 : ∀ f, m.rx.fl = some f → a.eval (.tmp f) = .bool (m.isFlex ver))
  (hr : RdS w rb sb st) (he : w.cell? ⟨E.vErr, 0, none⟩ = some ev) (her : E.vErr ≠ rb)
  (hc : Cells w mb 1 m.fs.dz) (hf : ∀ i, i < m.fs.size → Free w mb (1 + i)) (hm1 : mb ≠ rb) (hm2 : mb ≠ sb) (hm3 : mb ≠ E.vErr) (hmB : mb < B) (hrB : rb < B) (hB : B ≤ w.heap.size) :
  vc P (sq ([rg [oMove t2 (.tmp 0) m.TP, oAssign m.rs (.tmp t2) m.TP]] ++ m.fs.rc E m.rx m.TP m.TU m.rs 1 (m.rs + 1) (t2 + 1) 0 ++ [rCall E E.rComplete E.tErr 6 (t2 + 1 + m.fs.rt m.rx), .ret])) (Out P #[.tmp 6] fun v w' => RFC m T ev ver mb rb sb B st w w' v) a w := by
 have hrs : m.rs = (match m.flex with | none => 9 | some _ => 10) := rfl
 have hrl : m.rlocals = m.rs + 1 + m.fs.rn := rfl
 have hrs9 : 9 ≤ m.rs := by rw [hrs]; cases m.flex <;> simp
 have hfl9 : ∀ f, m.rx.fl = some f → f = 9 ∧ m.rs = 10 := by
  intro f hf
  cases hfx : m.flex <;> simp [Msg.rx, Msg.rs, hfx] at hf ⊢
  omega
 have hno : m.rx.fl = none → m.isFlex ver = false := by
  intro hf
  cases hfx : m.flex <;> simp [Msg.rx, Msg.isFlex, hfx] at hf ⊢
 have hs : RSl m.rx m.rlocals (m.rs + 1) (t2 + 1) (m.isFlex ver) :=
  ⟨by omega, by show 8 < m.rs + 1; omega, fun f hf => by have := hfl9 f hf; omega, hno, by omega, by omega⟩
 simp only [List.cons_append, List.nil_append]
 refine vX (rM (rA (dn ?_)))
 generalize ha1 : Act.put (Act.put a _ _) _ _ = a1
 have hf1 : Fr (fun k => k < m.rs) a a1 := by
  subst ha1
  exact ((Fr.refl _ a).put _ (by omega)).put _ (by omega)
 have hp1 : a1.eval (.tmp m.rs) = .pointer (some ⟨mb, 0, none⟩) := by subst ha1; simp (disch := (try simp only [sP]); omega) only [eV, h0]
 have hs1 := hf1.size
 clear ha1
 have hst : RSta E m.rx ver (m.isFlex ver) rb sb ev a1 w st :=
  ⟨hr, by rw [hf1.slot 7 (by omega)]; exact h7, by rw [hf1.slot 2 (by omega)]; exact h2, by show a1.eval (.tmp 8) = _; rw [hf1.slot 8 (by omega)]; exact h8, fun f hf => by have := hfl9 f hf; rw [hf1.slot f (by omega)]; exact h9 f hf, he, her⟩
 refine vc_sq_append ?_
 refine Flds.rval H hT m.fs m.rx ver (m.isFlex ver) m.rlocals m.TP m.TU m.rs 1 1 (m.rs + 1) (t2 + 1) 0 rb sb mb 0 B ev a1 w st _ hok htx hs (by omega) (by omega) hst hp1 (by omega) (by simpa using hc) (fun i hi => by simpa using hf i hi) hm1 hm2 hm3 hmB hrB hB ?_ ?_
 ·intro a2 w2 cs ds tags g1 g2 g3 g4 g5 g6 g7
  have hs2 := g1.size
  refine vX ?_
  refine r_call' (args := #[.pointer (some ⟨rb, 0, none⟩)]) ?_ (H.complete rb sb _ w2 ev g2.rd g2.err) ?_
  ·simp only [lM]
   simp (disch := (try simp only [sP]); omega) only [eV, g2.p7]
  rintro v w3 ⟨rfl, rfl⟩
  refine rA (dn (vS (vT ?_)))
  refine ⟨by simp only [dF]; rw [g1.defers, hf1.defers]; exact hdf, _, rO ?_, rfl, by simpa using g6, ?_⟩
  ·simp (disch := (try simp only [sP]); omega) only [eV]
   rfl
  ·intro h
   obtain ⟨rfl, rfl⟩ := g7 h
   exact ⟨cs, g3, by simpa using g4, g5⟩
 ·intro a2 w2 g1 g2 g3 g4 g5
  refine ⟨by rw [g1, hf1.defers]; exact hdf, ev, rO g3, ?_, by simpa using g4, ?_⟩
  ·rw [if_pos (show (m.rdv ver st).2.2.2 = true from g5)]
  ·intro h
   rw [show (m.rdv ver st).2.2.2 = true from g5] at h
   cases h
theorem rf_tail (H : EnvR P E T) (HX : EnvRX P E) (hT : T []) {m : Msg} {ver mb rb sb B t1 : Nat} {ev : Value} {a : Act} {w : World} {st : RSt}
  (hok : m.fs.okR P E m.rx m.TU 1 1 = true) (htx : m.fs.txR P E) (h00 : fieldOff P m.TU 0 = some 0) (ht1 : m.rlocals ≤ t1) (hsz : t1 + 5 + (match m.flex with | none => 0 | some _ => 3) + 1 + m.fs.rt m.rx + 1 ≤ a.tmps.size) (hdf : a.defers = [])
  (h0 : a.eval (.tmp 0) = .pointer (some ⟨mb, 0, none⟩)) (h2 : a.eval (.tmp 2) = .bool false) (h7 : a.eval (.tmp 7) = .pointer (some ⟨rb, 0, none⟩)) (hv : w.cell? ⟨mb, 0, none⟩ = some (.int .i16 (ver : Int)))
  (hr : RdS w rb sb st) (he : w.cell? ⟨E.vErr, 0, none⟩ = some ev) (her : E.vErr ≠ rb)
  (hc : Cells w mb 1 m.fs.dz) (hf : ∀ i, i < m.fs.size → Free w mb (1 + i)) (hm1 : mb ≠ rb) (hm2 : mb ≠ sb) (hm3 : mb ≠ E.vErr) (hmB : mb < B) (hrB : rb < B) (hB : B ≤ w.heap.size) :
  vc P (sq (m.rtail E t1))
  (Out P #[.tmp 6] fun v w' => RFC m T ev ver mb rb sb B st w w' v) a w := by
 have hrl : m.rlocals = m.rs + 1 + m.fs.rn := rfl
 have hrs9 : 9 ≤ m.rs := by show 9 ≤ (match m.flex with | none => 9 | some _ => 10); cases m.flex <;> simp
 simp only [Msg.rtail, List.append_assoc, List.cons_append, List.nil_append]
 refine vS (m_load (K := fun k => k < 8) h0 h00 HX.i16 (by simpa using hv) (by omega) (fun d hd => by omega) (by omega) (by omega) ?_)
 intro a1 hf1 hv1
 have hs1 := hf1.size
 refine vX (rM (dn ?_))
 cases hfx : m.flex with
 | none =>
  simp only [hfx, List.nil_append, Nat.add_zero] at hsz ⊢
  have := rf_flds H hT (m := m) (ver := ver) (mb := mb) (rb := rb) (sb := sb) (B := B) (t2 := t1 + 5) (ev := ev) (a := a1.put (some (t1 + 4)) (a1.eval (.tmp 8))) (w := w) (st := st) hok htx (by omega) (by rw [zP, hs1]; omega) (by rw [dF, hf1.defers]; exact hdf)
   (by simp (disch := (try simp only [sP]); omega) only [eV, hf1.slot 0 (by omega), h0]) (by simp (disch := (try simp only [sP]); omega) only [eV, hf1.slot 2 (by omega), h2]) (by simp (disch := (try simp only [sP]); omega) only [eV, hf1.slot 7 (by omega), h7]) (by simp (disch := (try simp only [sP]); omega) only [eV, hv1]) (fun f hf => by simp [Msg.rx, hfx] at hf) hr he her hc hf hm1 hm2 hm3 hmB hrB hB
  simp only [List.append_assoc, List.cons_append, List.nil_append] at this
  exact this
 | some f =>
  simp only [hfx, List.cons_append, List.nil_append] at hsz ⊢
  refine vX (rM ?_)
  refine r_geq (k := .i16) (m := (ver : Int)) (n := (f : Int)) (by simp (disch := (try simp only [sP]); omega) only [eV, hv1]) rfl ?_
  refine rA (dn (vX (rM (dn ?_))))
  generalize ha2 : Act.put (Act.put (Act.put (Act.put (Act.put a1 _ _) _ _) _ _) _ _) _ _ = a2
  have hf2 : Fr (fun k => k < 9) a1 a2 := by
   subst ha2
   exact (((((Fr.refl _ a1).put _ (by omega)).put _ (by omega)).put _ (by omega)).put _ (by omega)).put _ (by omega)
  have h92 : a2.eval (.tmp 9) = .bool (decide ((ver : Int) ≥ (f : Int))) := by subst ha2; simp (disch := (try simp only [sP]); omega) only [eV]
  have hs2 := hf2.size
  clear ha2
  have := rf_flds H hT (m := m) (ver := ver) (mb := mb) (rb := rb) (sb := sb) (B := B) (t2 := t1 + 5 + 3) (ev := ev) (a := a2) (w := w) (st := st) hok htx (by omega) (by rw [hs2, hs1]; omega) (by rw [hf2.defers, hf1.defers]; exact hdf)
   (by rw [hf2.slot 0 (by omega), hf1.slot 0 (by omega)]; exact h0) (by rw [hf2.slot 2 (by omega), hf1.slot 2 (by omega)]; exact h2) (by rw [hf2.slot 7 (by omega), hf1.slot 7 (by omega)]; exact h7) (by rw [hf2.slot 8 (by omega)]; exact hv1)
   (fun g hg => by
    simp only [Msg.rx, hfx, Option.map_some, Option.some.injEq] at hg
    subst hg
    rw [h92]
    simp only [Msg.isFlex, hfx]
    congr 1
    simp) hr he her hc hf hm1 hm2 hm3 hmB hrB hB
  simp only [List.append_assoc, List.cons_append, List.nil_append] at this
  exact this
def Msg.rtop (m : Msg) : Nat := m.rlocals + 4 + (if m.kept then 4 else 0) + 5 + (match m.flex with | none => 0 | some _ => 3) + 1 + m.fs.rt m.rx + 1
def Msg.rver (m : Msg) (ver : Nat) (l : List UInt8) : Int := if m.kept then sgn 2 (rdN 2 (l, false)).1 else ver
def Msg.rst (m : Msg) (l : List UInt8) : RSt := if m.kept then (rdN 2 (l, false)).2 else (l, false)
def RFD (m : Msg) (T : List (Nat × List UInt8) → Prop) (ev : Value) (ver mb sb : Nat) (l : List UInt8) (w w' : World) (v : Value) : Prop :=
 v = (if (m.rdv ver (m.rst l)).2.2.2 then ev else .nilIface) ∧ Eff (fun k _ => k = mb) w w' ∧
 ((m.rdv ver (m.rst l)).2.2.2 = false → ∃ cs, cs.length = m.fs.size ∧ Cells w' mb 0 (.int .i16 (ver : Int) :: cs) ∧ m.fs.Rep w' ⟨sb, T⟩ 0 cs (m.rdv ver (m.rst l)).1 (m.rdv ver (m.rst l)).2.1)
set_option maxHeartbeats 1000000 in
theorem c_readFrom (H : EnvR P E T) (HX : EnvRX P E) (hT : T []) {m : Msg} {RF : FuncId} {np nt npd ntd : Nat} (ht : Text P RF np nt #[.tmp 6] (m.rcode E)) (hn : m.rtop ≤ nt) (hd : Text P m.FD npd ntd #[] (dcode E m.TP m.TU 1 m.fs)) (hnd : 2 + m.fs.dn + m.fs.dt ≤ ntd) (hokd : m.fs.okD P E m.TU 1 1 = true)
  (hok : m.fs.okR P E m.rx m.TU 1 1 = true) (htx : m.fs.txR P E) (h00 : fieldOff P m.TU 0 = some 0) (hk16 : m.kept = true → E.rI16 ≠ 0)
  {ver ver0 mb sb : Nat} {ev sv : Value} {l : List UInt8} {w : World} (hver : m.rver ver0 l = (ver : Int))
  (hc : Cells w mb 0 (.int .i16 (ver0 : Int) :: m.fs.dz)) (hf : ∀ i, i < m.fs.size + 1 → Free w mb i) (hs : SrcV w sb sv l) (hsb : sb < w.heap.size) (hl : l.length ≤ big) (he : w.cell? ⟨E.vErr, 0, none⟩ = some ev) (hm2 : mb ≠ sb) (hm3 : mb ≠ E.vErr) :
  CallsV P RF #[.pointer (some ⟨mb, 0, none⟩), sv, .bool false] w fun v w' => RFD m T ev ver mb sb l w w' v := by
 have hrl : m.rlocals = m.rs + 1 + m.fs.rn := rfl
 have hrs9 : 9 ≤ m.rs := by show 9 ≤ (match m.flex with | none => 9 | some _ => 10); cases m.flex <;> simp
 have hnt : m.rlocals + 4 + (if m.kept then 4 else 0) + 5 + (match m.flex with | none => 0 | some _ => 3) + 1 + m.fs.rt m.rx + 1 ≤ nt := hn
 have hmb : mb < w.heap.size := (hf 0 (by omega)).lt
 refine CallsV.enter ht (by simp; omega) ?_
 intro a hsz hdf harg
 have e0 := harg 0 (.pointer (some ⟨mb, 0, none⟩)) (by simp)
 have e1 := harg 1 sv (by simp)
 have e2 := harg 2 (.bool false) (by simp)
 obtain ⟨zr, hzr, hzrc⟩ := lays_zero HX.rd
 rw [rcode_eq]
 simp only [List.cons_append, List.nil_append]
 refine vX (rA (dn (vX (rM ?_))))
 have hcz : Cells w mb (0 + 1) m.fs.dz := hc.dp (n := 1)
 refine r_call' (args := #[.pointer (some ⟨mb, 0, none⟩)]) ?_ (c_dflt (b := mb) (o := 0) (off := 1) (cs := m.fs.dz) hd hnd hokd (Flds.dz_len _) hcz (fun i hi => by have := hf (i + 1) (by omega); rwa [show 0 + 1 + i = i + 1 by omega])) ?_
 ·simp only [lM]
  simp (disch := (try simp only [sP]); omega) only [eV, e0]
 rintro v1 w1 ⟨hE1, hc1⟩
 rw [Flds.over_dz] at hc1
 refine dn ?_
 have hz1 := hE1.size
 refine vX (rM ?_)
 have hs1 : SrcV w1 sb sv l := hs.heap (hE1.blockEq hsb (by rintro i ⟨h, _⟩; exact hm2 h.symm))
 have hsv1 := hs.one
 have hsvc : sv.cells = #[sv] := by
  obtain ⟨ad, cap, rfl, _⟩ := hs.form
  rfl
 generalize hA : Act.put _ (some (m.rlocals + 2)) _ = A
 have hfA : Fr (fun k => k = 0 ∨ k = 1 ∨ k = 2) a A := by
  subst hA
  exact ((((Fr.refl _ a).put _ (by omega)).put _ (by omega)).put _ (by omega)).put _ (by omega)
 have hAv : A.eval (.tmp (m.rlocals + 2)) = sv := by subst hA; simp (disch := (try simp only [sP]); omega) only [eV, e1]
 have hsA := hfA.size
 clear hA
 refine r_build (cells := #[sv, .bool false]) HX.rd ?_ ?_
 ·simp [Instr.fill, hAv, hsvc]
 refine r_alloc hzr ?_
 have hfree : ∀ i, i < [sv, Value.bool false].length → Free (w1.alloc (.cells zr.cells E.tRd)) w1.heap.size (0 + i) := by
  intro i hi
  rw [Nat.zero_add]
  exact free_new w1 _ _ (by rw [hzrc]; simpa using hi)
 refine r_storeAgg (b := w1.heap.size) (o := 0) (cs := [sv, .bool false]) (by simp (disch := (try simp only [sP]); omega) only [eV]) (by simp (disch := (try simp only [sP]); omega) only [eV]) (by intro v hv; simp only [List.mem_cons, List.not_mem_nil, or_false] at hv; rcases hv with rfl | rfl; exact hsv1; rfl) HX.rdA hfree ?_
 refine dn ?_
 have hcb : Cells (setCells (w1.alloc (.cells zr.cells E.tRd)) w1.heap.size 0 [sv, .bool false]) w1.heap.size 0 [sv, .bool false] :=
  fun i v hv => setCells_cell _ _ _ _ (fun j hj => (hfree j hj).1) i v hv
 have hE2 := setCells_eff w1.heap.size [sv, .bool false] (w1.alloc (.cells zr.cells E.tRd)) 0
 have hb2 : Below w1.heap.size w1 (setCells (w1.alloc (.cells zr.cells E.tRd)) w1.heap.size 0 [sv, .bool false]) :=
  ((Below.refl w1.heap.size w1).alloc (o := .cells _ _) (Nat.le_refl _)).trans (hE2.below (by simp) (by rintro k i hk ⟨rfl, _, _⟩; omega))
 have hz2 : w1.heap.size < (setCells (w1.alloc (.cells zr.cells E.tRd)) w1.heap.size 0 [sv, .bool false]).heap.size := by
  have := hE2.size
  simp at this
  omega
 have hfr2 : ∀ i, i < 2 → Free (setCells (w1.alloc (.cells zr.cells E.tRd)) w1.heap.size 0 [sv, .bool false]) w1.heap.size i := fun i hi => by
  have := (hfree i (by simpa using hi)).eff hE2
  rwa [Nat.zero_add] at this
 generalize setCells (w1.alloc (.cells zr.cells E.tRd)) w1.heap.size 0 [sv, .bool false] = w2 at *
 generalize hrb : w1.heap.size = rb at *
 generalize ha2 : Act.put _ (some 7) _ = a2
 have hf2 : Fr (fun k => k = 0 ∨ k = 1 ∨ k = 2) a a2 := by
  subst ha2
  exact (hfA.put _ (by omega)).put _ (by omega)
 have h27 : a2.eval (.tmp 7) = .pointer (some ⟨rb, 0, none⟩) := by subst ha2; simp (disch := (try simp only [sP]); omega) only [eV]
 have hs2z := hf2.size
 clear ha2
 have hrd : RdS w2 rb sb (l, false) := ⟨by omega, by omega, ⟨sv, hcb, hs1.heap (hb2.block sb (by omega))⟩, hfr2 0 (by omega), hfr2 1 (by omega), hl⟩
 have hbw : Below w1.heap.size w1 w2 := by rw [hrb]; exact hb2
 have hE02 : Eff (fun k _ => k = mb) w w2 := (hE1.mono (fun k i _ h => h.1)).trans (Eff.of_below hbw)
 have hev2 : w2.cell? ⟨E.vErr, 0, none⟩ = some ev := hE02.cellSome he (by rintro h; exact hm3 h.symm)
 have hevlt : E.vErr < w.heap.size := lt_of_cell he
 have hc2 : Cells w2 mb 1 m.fs.dz := hc1.below hb2 (by omega)
 have hv2 : w2.cell? ⟨mb, 0, none⟩ = some (.int .i16 (ver0 : Int)) := by
  have := hc 0 (.int .i16 (ver0 : Int)) (by simp)
  have := hE1.cellSome this (by rintro ⟨_, h, _⟩; omega)
  rw [hb2.cell (p := ⟨mb, 0, none⟩) (show mb < rb by omega)]
  exact this
 have hfm2 : ∀ i, i < m.fs.size + 1 → Free w2 mb i := fun i hi => (hf i hi).eff hE02
 have fin : ∀ (t1 : Nat) (a3 : Act) (w3 : World), m.rlocals ≤ t1 → t1 + 5 + (match m.flex with | none => 0 | some _ => 3) + 1 + m.fs.rt m.rx + 1 ≤ nt → Fr (fun k => k = 0 ∨ k = 1 ∨ k = 2 ∨ k = 7) a2 a3 → RdS w3 rb sb (m.rst l) → w3.cell? ⟨mb, 0, none⟩ = some (.int .i16 (ver : Int)) →
   Eff (fun k i => RM rb k i ∨ (k = mb ∧ i < 1)) w2 w3 → vc P (sq (m.rtail E t1)) (Out P #[.tmp 6] fun v w' => RFD m T ev ver mb sb l w w' v) a3 w3 := by
  intro t1 a3 w3 h1 h2 h3 h4 h5 h6
  have hz3 := h6.size
  refine vc_mono _ (rf_tail H HX hT (m := m) (ver := ver) (mb := mb) (rb := rb) (sb := sb) (B := rb + 1) (t1 := t1) (ev := ev) (a := a3) (w := w3) (st := m.rst l) hok htx h00 h1 (by rw [h3.size, hs2z, hsz]; exact h2) (by rw [h3.defers, hf2.defers]; exact hdf)
   (by rw [h3.slot 0 (by omega), hf2.slot 0 (by omega)]; exact e0) (by rw [h3.slot 2 (by omega), hf2.slot 2 (by omega)]; exact e2) (by rw [h3.slot 7 (by omega)]; exact h27) h5 h4 (h6.cellSome hev2 (by rintro (⟨h, _⟩ | ⟨h, _⟩); omega; exact hm3 h.symm)) (by omega)
   (hc2.eff h6 (by rintro i hi (⟨h, _⟩ | ⟨_, h⟩) <;> omega)) (fun i hi => (hfm2 (1 + i) (by omega)).eff h6) (by omega) hm2 hm3 (by omega) (by omega) (by omega)) ?_
  have key : ∀ v w', RFC m T ev ver mb rb sb (rb + 1) (m.rst l) w3 w' v → RFD m T ev ver mb sb l w w' v := by
   rintro v w' ⟨g1, g2, g3⟩
   refine ⟨g1, ?_, fun h => ?_⟩
   ·refine (hE02.trans' h6 ?_).trans' g2 ?_
    ·rintro k i hk (⟨h, _⟩ | ⟨h, _⟩)
     ·omega
     ·exact h
    ·rintro k i hk (⟨h, _⟩ | ⟨h, _⟩)
     ·omega
     ·exact h
   ·obtain ⟨cs, k1, k2, k3⟩ := g3 h
    refine ⟨cs, k1, ?_, Flds.Rep.eff (Eff.refl (fun _ _ => False) w') (fun _ h => h) m.fs (rb + 1) 0 cs _ _ (fun _ _ _ _ h => h) (Nat.zero_le _) k3⟩
    have h0 := g2.cellSome h5 (by rintro (⟨h, _⟩ | ⟨_, h, _⟩) <;> omega)
    intro i u hu
    cases i with
    | zero => simp only [List.getElem?_cons_zero, Option.some.injEq] at hu; subst hu; exact h0
    | succ i =>
     simp only [List.getElem?_cons_succ] at hu
     have := k2 i u hu
     rwa [show 1 + i = 0 + (i + 1) by omega] at this
  intro e a w' h
  cases e <;> first | exact ⟨h.1, let ⟨v, hv, hs⟩ := h.2; ⟨v, hv, key v w' hs⟩⟩ | exact h
 cases hk : m.kept with
 | false =>
  simp only [hk, Bool.false_eq_true, if_false, List.nil_append] at hnt ⊢
  have hv : ver0 = ver := by
   have : (ver0 : Int) = (ver : Int) := by simpa [Msg.rver, hk] using hver
   omega
  subst hv
  exact fin _ a2 w2 (by omega) (by omega) (Fr.refl _ _) (by simp only [Msg.rst, hk, Bool.false_eq_true, if_false]; exact hrd) hv2 (Eff.refl _ _)
 | true =>
  simp only [hk, if_true, List.cons_append, List.nil_append] at hnt ⊢
  have hv : sgn 2 (rdN 2 (l, false)).1 = (ver : Int) := by simpa [Msg.rver, hk] using hver
  have hst : m.rst l = (rdN 2 (l, false)).2 := by simp [Msg.rst, hk]
  refine vX (rM ?_)
  refine r_call' (args := #[.pointer (some ⟨rb, 0, none⟩)]) ?_ (H.scal .i16 (hk16 hk) rb sb (l, false) w2 hrd) ?_
  ·simp only [lM]
   simp (disch := (try simp only [sP]); omega) only [eV, h27]
  rintro v w3 ⟨⟨hv3, hvo⟩, hr3, hE3⟩
  have hv3' : v = .int .i16 (ver : Int) := by rw [hv3, ← hv]; rfl
  subst hv3'
  refine r_nil (ad := ⟨mb, 0, none⟩) (by simp (disch := (try simp only [sP]); omega) only [eV, hf2.slot 0 (by omega), e0]) ?_
  refine rF (b := mb) (o := 0) (by simp (disch := (try simp only [sP]); omega) only [eV]) h00 ?_
  have hf3 : Free w3 mb (0 + 0) := (hfm2 0 (by omega)).eff hE3
  refine r_store (b := mb) (o := 0 + 0) (v := .int .i16 (ver : Int)) (by simp (disch := (try simp only [sP]); omega) only [eV]) (by simp (disch := (try simp only [sP]); omega) only [eV]) rfl HX.i16 hf3 ?_
  refine dn ?_
  have hE4 : Eff (fun k i => k = mb ∧ i < 1) w3 (w3.setCell ⟨mb, 0 + 0, none⟩ (.int .i16 (ver : Int))) := (Eff.refl _ w3).setCell _ _ _ (fun _ => ⟨rfl, by omega⟩)
  refine fin _ _ _ (by omega) (by omega) ((((Fr.refl _ a2).put _ (by omega)).put _ (by omega) |>.put _ (by omega)).put _ (by omega)) ?_ (cell_setCell_same _ hf3.1) ((hE3.mono (fun k i _ h => .inl h)).trans (hE4.mono (fun k i _ h => .inr h)))
  rw [hst]
  exact (show RdS w3 rb sb (rdN 2 (l, false)).2 from hr3).keep hE4 (by rintro i ⟨h, _⟩; omega) (by rintro i ⟨h, _⟩; exact hm2 h.symm)
end
end Go.Km
namespace Go.Km
open Go Go.RowKit
attribute [local irreducible] vc rO_ runG runS runD
def ReadC (P : Program) (E : Env) (T : List (Nat × List UInt8) → Prop) (m : Msg) (f : FuncId) : Prop :=
 ∀ (ver ver0 mb sb : Nat) (ev sv : Value) (l : List UInt8) (w : World), m.rver ver0 l = (ver : Int) → Cells w mb 0 (.int .i16 (ver0 : Int) :: m.fs.dz) → (∀ i, i < m.fs.size + 1 → Free w mb i) → SrcV w sb sv l → sb < w.heap.size → l.length ≤ big →
  w.cell? ⟨E.vErr, 0, none⟩ = some ev → mb ≠ sb → mb ≠ E.vErr → CallsV P f #[.pointer (some ⟨mb, 0, none⟩), sv] w fun v w' => RFD m T ev ver mb sb l w w' v
def c_rfw (E : Env) (m : Msg) (RF : FuncId) : Code :=
 sq [rg [oAssign 4 (.const .nilIface) E.tErr], rg [oMove 5 (.tmp 0) m.TP, oMove 6 (.tmp 1) E.tB, oCall (some 7) RF #[.tmp 5, .tmp 6, .const (.bool false)] #[m.TP, E.tB, E.tO] E.tErr, oAssign 4 (.tmp 7) E.tErr], .ret]
def Msg.wdat (m : Msg) (ver : Nat) (ds : List D) : List D := if m.kept then .int ver :: ds else ds
def Msg.out (m : Msg) (ver : Nat) (ds : List D) (tags : List (Nat × List UInt8)) : List UInt8 := m.wfs.wr (m.isFlex ver) ver (m.wdat ver ds) tags
def Msg.back (m : Msg) (ver : Nat) (l : List UInt8) : Option (List UInt8) :=
 if (m.rdv ver (m.rst l)).2.2.2 then none else some (m.out ver (m.rdv ver (m.rst l)).1 (m.rdv ver (m.rst l)).2.1)
def BackV (E : Env) (o : Option (List UInt8)) (W w' : World) (r : Value) : Prop :=
 Below W.heap.size W w' ∧ match o with
 | none => r = .tuple #[.slice none 0 0, .bool false]
 | some l => ∃ x, r = .tuple #[x, .bool true] ∧ w'.ownsRow W.heap.size E.tU8 1 x l.length (l.map bv)
structure MR where
 newPtr : FuncId
 setV : FuncId
 app : FuncId
 rd : FuncId
 rdi : FuncId
 again : FuncId
def c_again (E : Env) (m : Msg) (N : MR) : Code :=
 sq [rg [oAssign 4 (.const (.slice none 0 0)) E.tB, oAssign 5 (.const (.bool false)) E.tO],
  rg [oCall (some 7) N.newPtr #[] #[] m.TP, oAssign 6 (.tmp 7) m.TP],
  rg [oMove 8 (.tmp 6) m.TP, oMove 9 (.tmp 0) E.tI, oConv 10 E.tI E.tI16 (.tmp 9), oCall (some 11) N.setV #[.tmp 8, .tmp 10] #[m.TP, E.tI16] 0],
  sq [rg [oMove 12 (.tmp 6) m.TP, oMove 13 (.tmp 1) E.tB, oBuiltin 14 .append #[.const (.slice none 0 0), .tmp 13] #[E.tB, E.tB] E.tB, oCall (some 15) N.rd #[.tmp 12, .tmp 14] #[m.TP, E.tB] E.tErr,
    oBin 16 .neq E.tErr (.tmp 15) (.const .nilIface) E.tErr E.tO],
   .cond (.tmp 16) (sq [rg [oAssign 4 (.const (.slice none 0 0)) E.tB, oAssign 5 (.const (.bool false)) E.tO], .ret]) .skip],
  rg [oMove 17 (.tmp 6) m.TP, oCall (some 18) N.app #[.tmp 17, .const (.slice none 0 0)] #[m.TP, E.tB] E.tB, oAssign 4 (.tmp 18) E.tB, oAssign 5 (.const (.bool true)) E.tO],
  .ret]
def ifaceT (P : Program) (t : TypeId) : Bool :=
 match P.underlying t with
 | some (.interface _) => true
 | _ => false
def isErr : Value → Bool
 | .nilIface => false
 | _ => true
section
variable {P : Program} {E : Env} {T : List (Nat × List UInt8) → Prop}
theorem r_neqNil {a : Act} {w : World} {r : List Oper} {Q : Exit → Act → World → Prop} {d t x yt ty p af g v} (ht : ifaceT P t = true) (hx : a.eval x = v) (hv : v = .nilIface ∨ ∃ u z, v = .iface u z) (h : rO_ P Q r (a.put (some d) (.bool (isErr v))) w) :
  rO_ P Q (⟨some d, .binOp .neq t x (.const .nilIface) yt, ty, p, af, g⟩ :: r) a w := by
 obtain ⟨ms, hu⟩ : ∃ ms, P.underlying t = some (.interface ms) := by
  unfold ifaceT at ht
  split at ht
  ·rename_i ms h; exact ⟨ms, h⟩
  ·cases ht
 refine st ?_
 rcases hv with rfl | ⟨u, z, rfl⟩
 ·have h1 : (eqGuard .neq t x (.const .nilIface) .nilIface .nilIface).run P w = .ok () w := by cases x <;> simp [eqGuard]
  have h2 : (binOp .neq t .nilIface .nilIface).run P w = .ok (.bool false) w := by
   simp only [binOp]
   have h0 : ∀ k : Nat, (Op.equalIn (k + 1) t .nilIface .nilIface).run P w = .ok true w := fun k => by simp [Op.equalIn, run_underlying hu]
   simp [Op.equal, Op.maxDepth, h0 9999]
  simp only [Oper.wp, execOp, hx, eval_const, h1, h2, Sem.run_bind, Sem.run_pure, Result.andThen_ok, Oper.upon_value]
  exact h
 ·have h1 : (eqGuard .neq t x (.const .nilIface) (.iface u z) .nilIface).run P w = .ok () w := by simp [eqGuard]
  have h2 : (binOp .neq t (.iface u z) .nilIface).run P w = .ok (.bool true) w := by
   simp only [binOp]
   have h0 : ∀ k : Nat, (Op.equalIn (k + 1) t (.iface u z) .nilIface).run P w = .ok false w := fun k => by simp [Op.equalIn, run_underlying hu]
   simp [Op.equal, Op.maxDepth, h0 9999]
  simp only [Oper.wp, execOp, hx, eval_const, h1, h2, Sem.run_bind, Sem.run_pure, Result.andThen_ok, Oper.upon_value]
  exact h
theorem c_rfw_ok (H : EnvR P E T) (HX : EnvRX P E) (hT : T []) {m : Msg} {RF f : FuncId} {np nt npr ntr npd ntd : Nat} (ht : Text P f np nt #[.tmp 4] (c_rfw E m RF)) (hn : 8 ≤ nt) (htr : Text P RF npr ntr #[.tmp 6] (m.rcode E)) (hnr : m.rtop ≤ ntr) (hd : Text P m.FD npd ntd #[] (dcode E m.TP m.TU 1 m.fs)) (hnd : 2 + m.fs.dn + m.fs.dt ≤ ntd) (hokd : m.fs.okD P E m.TU 1 1 = true)
  (hok : m.fs.okR P E m.rx m.TU 1 1 = true) (htx : m.fs.txR P E) (h00 : fieldOff P m.TU 0 = some 0) (hk16 : m.kept = true → E.rI16 ≠ 0) : ReadC P E T m f := by
 intro ver ver0 mb sb ev sv l w h1 h2 h3 h4 h5 h6 h7 h8 h9
 refine CallsV.enter ht (by simp; omega) ?_
 intro a hsz hdf harg
 have e0 := harg 0 (.pointer (some ⟨mb, 0, none⟩)) (by simp)
 have e1 := harg 1 sv (by simp)
 unfold c_rfw
 refine vX (rA (dn (vX (rM (rM ?_)))))
 refine r_call' (args := #[.pointer (some ⟨mb, 0, none⟩), sv, .bool false]) ?_ (c_readFrom H HX hT htr hnr hd hnd hokd hok htx h00 hk16 h1 h2 h3 h4 h5 h6 h7 h8 h9) ?_
 ·simp only [lM]
  simp (disch := (try simp only [sP]); omega) only [eV, e0, e1]
 intro v w' hS
 refine rA (dn (vS (vT ?_)))
 exact ⟨by simp only [dF]; exact hdf, v, rO (by simp (disch := (try simp only [sP]); omega) only [eV]), hS⟩
theorem own_mono2 {W : World} {B B' : Nat} {e : TypeId} {s : Nat} {v : Value} {n : Nat} {xs : List Value} (h : W.ownsRow B e s v n xs) (hB : B' ≤ B) : W.ownsRow B' e s v n xs := by
 refine ⟨h.1, ?_⟩
 rcases h.2 with h | ⟨g, cap, cur, h1, h2, h3⟩
 ·exact .inl h
 ·exact .inr ⟨g, cap, cur, h1, Nat.le_trans hB h2, h3⟩
theorem RowB.below {w w' : World} {B : Nat} {v : Value} {l : List UInt8} (h : RowB w v l) (hb : Below B w w') (hB : B = w.heap.size := by rfl) : RowB w' v l := by
 rcases h with h | ⟨q, o, cap, hv, hc⟩
 ·exact .inl h
 ·refine .inr ⟨q, o, cap, hv, fun i u hu => ?_⟩
  have h1 := hc i u hu
  rw [hb.cell (p := ⟨q, o + i, none⟩) (show q < B by rw [hB]; exact lt_of_cell h1)]
  exact h1
theorem RowB.src {w : World} {t e : TypeId} {v : Value} {l : List UInt8} (h : RowB w v l) (ht : sliceT P t = some (e, 1)) : Src P 1 t v l.length (l.map bv) w := by
 rcases h with ⟨rfl, rfl⟩ | ⟨q, o, cap, rfl, hc⟩
 ·exact src_nil ht
 ·exact src_cells ht hc (by simp) (bv_one l)
theorem own_src {w : World} {U d : Nat} {e : TypeId} {v : Value} {l : List UInt8} (h : w.ownsRow U e 1 v l.length (l.map bv)) (hd : d < w.heap.size) (hdU : d < U) : ∃ sb, SrcV w sb v l ∧ sb < w.heap.size ∧ (sb = d ∨ U ≤ sb) := by
 have hr := RowB.of_own h
 rcases h.2 with ⟨rfl, h0⟩ | ⟨g, cap, cur, rfl, hbg, hg, hnc, hcm, hcs, htake⟩
 ·exact ⟨d, .inl ⟨rfl, List.eq_nil_of_length_eq_zero h0⟩, hd, .inl rfl⟩
 ·have hlt : g < w.heap.size := (Array.getElem?_eq_some_iff.1 hg).1
  refine ⟨g, .inr ⟨0, cap, rfl, hnc, ?_⟩, hlt, .inr hbg⟩
  rcases hr with ⟨h, _⟩ | ⟨q, o, cap', h, hc⟩
  ·cases h
  ·cases h
   exact hc
theorem wrap_i16n {n : Nat} (h : n < 32768) : IntKind.i16.wrap (n : Int) = (n : Int) := by
 have h2 : (2 : Int) ^ 16 = 65536 := by decide
 have h3 : (2 : Int) ^ (16 - 1) = 32768 := by decide
 simp only [IntKind.wrap, IntKind.bits, IntKind.signed, Bool.true_and, decide_eq_true_eq, h2, h3]
 split <;> omega
theorem rf_out (HW : EnvW P E T) (HI : EnvI P E) {m : Msg} {f : FuncId} {np nt : Nat} (ha : Text P f np nt #[.tmp 4] (m.wcode E)) (hna : m.wtop ≤ nt) (hokw : m.okW P E = true) {ver mb sb : Nat} {ev : Value} {l : List UInt8} {w w' : World} {v : Value} (hv : ver < 32768)
  (h : RFD m T ev ver mb sb l w w' v) (hnb : (m.rdv ver (m.rst l)).2.2.2 = false) (hb : (m.out ver (m.rdv ver (m.rst l)).1 (m.rdv ver (m.rst l)).2.1).length ≤ big) :
  CallsV P f #[.pointer (some ⟨mb, 0, none⟩), .slice none 0 0] w' fun x w2 => w2.ownsRow w'.heap.size E.tU8 1 x (m.out ver (m.rdv ver (m.rst l)).1 (m.rdv ver (m.rst l)).2.1).length ((m.out ver (m.rdv ver (m.rst l)).1 (m.rdv ver (m.rst l)).2.1).map bv) ∧ Below w'.heap.size w' w2 := by
 obtain ⟨_, _, h3⟩ := h
 obtain ⟨cs, k1, k2, k3⟩ := h3 hnb
 have hver : w'.cell? ⟨mb, 0, none⟩ = some (.int .i16 (ver : Int)) := by simpa using k2 0 (.int .i16 (ver : Int)) (by simp)
 unfold Msg.out at hb ⊢
 cases hk : m.kept with
 | false =>
  have hwfs : m.wfs = m.fs := by simp [Msg.wfs, hk]
  have hwi : m.wi = 1 := by simp [Msg.wi, hk]
  refine appendTo (sb := ⟨sb, T⟩) (cs := cs) (B := 0) HW HI ha hna hokw hver ?_ ?_ hb
  ·rw [hwi]
   exact k2.dp (n := 1)
  ·rw [hwfs]
   simpa [Msg.wdat, hk] using k3
 | true =>
  have hwfs : m.wfs = .cons .all (.scal .i16 0) m.fs := by simp [Msg.wfs, hk]
  have hwi : m.wi = 0 := by simp [Msg.wi, hk]
  refine appendTo (sb := ⟨sb, T⟩) (cs := .int .i16 (ver : Int) :: cs) (B := 0) HW HI ha hna hokw hver ?_ ?_ hb
  ·rw [hwi]
   exact k2
  ·rw [hwfs]
   simp only [Msg.wdat, hk, if_true, Flds.Rep, Ty.size, List.take_succ_cons, List.take_zero, List.drop_succ_cons, List.drop_zero]
   exact ⟨⟨rfl, by show (-32768 : Int) ≤ _ ∧ _; omega⟩, k3⟩
theorem c_again_ok (HW : EnvW P E T) (HI : EnvI P E) (HB : rowB P E.tB E.tU8 1 = true) (i16 : intT P E.tI16 = some .i16) (ii : intT P E.tI = some .i64) (o16 : oneT P E.tI16 = true) (oE : ifaceT P E.tErr = true) {m : Msg} {N : MR} {np nt nps nts npa nta : Nat}
  (ht : Text P N.again np nt #[.tmp 4, .tmp 5] (c_again E m N)) (hn : 19 ≤ nt) (hN : NewC P N.newPtr m) (hs : Text P N.setV nps nts #[] (c_setV E m)) (hns : 8 ≤ nts) (ho : fieldOff P m.TU 0 = some 0) (hR : ReadC P E T m N.rd)
  (ha : Text P N.app npa nta #[.tmp 4] (m.wcode E)) (hna : m.wtop ≤ nta) (hokw : m.okW P E = true) (hk : m.kept = false)
  {ver : Nat} {l : List UInt8} {sv ev : Value} {W : World} (hv : ver < 32768) (hsrc : ∀ w', Below W.heap.size W w' → Src P 1 E.tB sv l.length (l.map bv) w') (hl : l.length ≤ big) (he : W.cell? ⟨E.vErr, 0, none⟩ = some ev) (hev : ∃ u z, ev = .iface u z)
  (hb : ∀ x, m.back ver l = some x → x.length ≤ big) : CallsV P N.again #[.int .i64 ver, sv] W fun r w' => BackV E (m.back ver l) W w' r := by
 refine CallsV.enter ht (by simp; omega) ?_
 intro a hsz hdf harg
 have e0 := harg 0 (.int .i64 ver) (by simp)
 have e1 := harg 1 sv (by simp)
 have hevlt : E.vErr < W.heap.size := lt_of_cell he
 unfold c_again
 refine vX (rA (rA (dn (vX ?_))))
 refine r_call' (args := #[]) (by simp) (hN W) ?_
 rintro v w1 ⟨rfl, hb1, hz1, hc1, hf1⟩
 refine rA (dn (vX (rM (rM ?_))))
 refine r_conv (k := .i64) (k' := .i16) (m := (ver : Int)) ii i16 (by simp (disch := (try simp only [sP]); omega) only [eV, e0]) ?_
 rw [wrap_i16n hv]
 refine r_call' (args := #[.pointer (some ⟨W.heap.size, 0, none⟩), .int .i16 ver]) ?_ (c_setV_ok hs hns ho o16 (hf1 0 (by omega))) ?_
 ·simp only [lM]
  simp (disch := (try simp only [sP]); omega) only [eV]
 rintro v w2 rfl
 refine dn ?_
 have hb2 : Below W.heap.size W (w1.setCell ⟨W.heap.size, 0, none⟩ (.int .i16 ver)) := hb1.setCell (p := ⟨W.heap.size, 0, none⟩) (Nat.le_refl _) _
 have hc2 : Cells (w1.setCell ⟨W.heap.size, 0, none⟩ (.int .i16 ver)) W.heap.size 0 (.int .i16 (ver : Int) :: m.fs.dz) := by
  intro i v hv
  cases i with
  | zero =>
   simp only [List.getElem?_cons_zero, Option.some.injEq] at hv
   subst hv
   exact cell_setCell_same _ (hf1 0 (by omega)).1
  | succ i =>
   rw [cell_setCell_ne _ (.inr (by omega))]
   exact hc1 (i + 1) v (by simpa using hv)
 have hf2 : ∀ i, i < m.fs.size + 1 → Free (w1.setCell ⟨W.heap.size, 0, none⟩ (.int .i16 ver)) W.heap.size i := fun i hi => (hf1 i hi).eff ((Eff.refl (fun k _ => k = W.heap.size) w1).setCell _ _ _ (fun _ => rfl))
 have hz2 : W.heap.size < (w1.setCell ⟨W.heap.size, 0, none⟩ (.int .i16 ver)).heap.size := by simpa using hz1
 generalize w1.setCell ⟨W.heap.size, 0, none⟩ (.int .i16 ver) = w2 at *
 generalize ha1 : Act.put _ (some 11) _ = a1
 have hf3 : Fr (fun k => k = 0 ∨ k = 1) a a1 := by
  subst ha1
  exact ((((((((Fr.refl _ a).put _ (by omega)).put _ (by omega)).put _ (by omega)).put _ (by omega)).put _ (by omega)).put _ (by omega)).put _ (by omega)).put _ (by omega)
 have h6 : a1.eval (.tmp 6) = .pointer (some ⟨W.heap.size, 0, none⟩) := by subst ha1; simp (disch := (try simp only [sP]); omega) only [eV]
 have h11 : a1.eval (.tmp 1) = sv := by rw [hf3.slot 1 (.inr rfl)]; exact e1
 have hsz1 := hf3.size
 have hdf1 := hf3.defers
 clear ha1
 refine vS (vX (rM (rM ?_)))
 refine r_append (U := w2.heap.size) (v := .slice none 0 0) (n := 0) (xs := []) (u := sv) (m := l.length) (news := l.map bv) HB rfl (by simp (disch := (try simp only [sP]); omega) only [eV, h11]) (World.ownsRow_nil _ _ _ _) (Nat.le_refl _) (hsrc _ hb2) (by omega) ?_
 intro v3 w3 hown3 hb3
 rw [Nat.zero_add, List.nil_append] at hown3
 have hb03 : Below W.heap.size W w3 := hb2.trans (hb3.mono (Nat.le_of_lt hz2))
 have hev3 : w3.cell? ⟨E.vErr, 0, none⟩ = some ev := by rw [hb03.cell (p := ⟨E.vErr, 0, none⟩) hevlt]; exact he
 have hz3 := hb3.size
 obtain ⟨sb, hsv, hsb, hsbc⟩ := own_src (d := E.vErr) hown3 (by omega) (by omega)
 have hc3 : Cells w3 W.heap.size 0 (.int .i16 (ver : Int) :: m.fs.dz) := hc2.below hb3 hz2
 have hf3' : ∀ i, i < m.fs.size + 1 → Free w3 W.heap.size i := fun i hi => (hf2 i hi).eff (Eff.of_below (M := fun _ _ => False) hb3)
 have hrst : m.rst l = (l, false) := by simp [Msg.rst, hk]
 refine r_call' (args := #[.pointer (some ⟨W.heap.size, 0, none⟩), v3]) ?_ (hR ver ver W.heap.size sb ev v3 l w3 (by simp [Msg.rver, hk]) hc3 hf3' hsv hsb hl hev3 (by omega) (by omega)) ?_
 ·simp only [lM]
  simp (disch := (try simp only [sP]); omega) only [eV, h6]
 intro x w4 hx
 have hbw4 : Below W.heap.size W w4 := hb03.trans (hx.2.1.below (by omega) (by rintro k i hk rfl; omega))
 have hz4 := hx.2.1.size
 have hxv := hx.1
 refine r_neqNil (v := x) oE (by simp (disch := (try simp only [sP]); omega) only [eV]) (by rw [hxv]; split; exact .inr hev; exact .inl rfl) ?_
 refine dn ?_
 have hcv : isErr x = (m.rdv ver (m.rst l)).2.2.2 := by
  rw [hxv]
  obtain ⟨u, z, rfl⟩ := hev
  cases (m.rdv ver (m.rst l)).2.2.2 <;> rfl
 rw [hcv]
 refine vS (vC (t := (m.rdv ver (m.rst l)).2.2.2) (by simp (disch := (try simp only [sP]); omega) only [eV]) ?_ ?_)
 ·intro h
  refine vX (rA (rA (dn (vS (vT ?_)))))
  refine ⟨by simp only [dF]; rw [hdf1]; exact hdf, .tuple #[.slice none 0 0, .bool false], results_two (by simp (disch := (try simp only [sP]); omega) only [eV]) (by simp (disch := (try simp only [sP]); omega) only [eV]), hbw4, ?_⟩
  simp only [Msg.back, h, if_true]
 ·intro h
  refine vK (vN ?_)
  have hbk : m.back ver l = some (m.out ver (m.rdv ver (m.rst l)).1 (m.rdv ver (m.rst l)).2.1) := by simp [Msg.back, h]
  refine vX (rM ?_)
  refine r_call' (args := #[.pointer (some ⟨W.heap.size, 0, none⟩), .slice none 0 0]) ?_ (rf_out HW HI ha hna hokw hv hx h (hb _ hbk)) ?_
  ·simp only [lM]
   simp (disch := (try simp only [sP]); omega) only [eV, h6]
  rintro y w5 ⟨hy, hb5⟩
  refine rA (rA (dn (vS (vT ?_))))
  refine ⟨by simp only [dF]; rw [hdf1]; exact hdf, .tuple #[y, .bool true], results_two (by simp (disch := (try simp only [sP]); omega) only [eV]) (by simp (disch := (try simp only [sP]); omega) only [eV]), hbw4.trans (hb5.mono (by omega)), ?_⟩
  rw [hbk]
  exact ⟨y, rfl, own_mono2 hy (by omega)⟩
end
end Go.Km
namespace Go.Km
open Go Go.RowKit
theorem o8_toNat (n : Int) : (UInt8.ofNat (n % 256).toNat).toNat = (n % 256).toNat := by
 have h1 : 0 ≤ n % 256 := Int.emod_nonneg _ (by decide)
 have h2 : n % 256 < 256 := Int.emod_lt_of_pos _ (by decide)
 simp only [UInt8.toNat_ofNat']
 omega
theorem emod_mul' (n m : Int) (hm : 0 < m) : n % (m * 256) = n % m + m * (n / m % 256) := by
 have h1 := Int.mul_ediv_add_emod n m
 have h2 := Int.mul_ediv_add_emod (n / m) 256
 have h3 : 0 ≤ n % m := Int.emod_nonneg _ (by omega)
 have h4 : n % m < m := Int.emod_lt_of_pos _ hm
 have h5 : 0 ≤ n / m % 256 := Int.emod_nonneg _ (by decide)
 have h6 : n / m % 256 < 256 := Int.emod_lt_of_pos _ (by decide)
 generalize n % m = s at *
 generalize n / m % 256 = r at *
 generalize n / m / 256 = q at *
 generalize n / m = p at *
 subst h2
 have e : n = (s + m * r) + (m * 256) * q := by
  rw [← h1, Int.mul_add, Int.mul_assoc]
  omega
 rw [e, Int.add_mul_emod_self_left]
 have h7 : 0 ≤ m * r := Int.mul_nonneg (by omega) h5
 have h8 : m * r ≤ m * 255 := Int.mul_le_mul_of_nonneg_left (by omega) (by omega)
 exact Int.emod_eq_of_lt (by omega) (by omega)
theorem be_foldl : ∀ (k : Nat) (n : Int) (acc : Nat), (be k n).foldl (fun n b => n * 256 + b.toNat) acc = acc * 256 ^ k + (n % (256 ^ k : Nat)).toNat
 | 0, n, acc => by
  simp [be]
 | k + 1, n, acc => by
  simp only [be, List.foldl_cons]
  rw [be_foldl k n, o8_toNat]
  have hp : (0 : Int) < ((256 ^ k : Nat) : Int) := by exact_mod_cast Nat.pow_pos (by decide)
  have e1 : (256 : Int) ^ k = ((256 ^ k : Nat) : Int) := by simp
  have e2 : ((256 ^ (k + 1) : Nat) : Int) = ((256 ^ k : Nat) : Int) * 256 := by rw [Nat.pow_succ]; simp
  rw [e1, e2, Int.fdiv_eq_ediv_of_nonneg _ (Int.le_of_lt hp), emod_mul' _ _ hp]
  have h1 : 0 ≤ n % ((256 ^ k : Nat) : Int) := Int.emod_nonneg _ (by omega)
  have h2 : 0 ≤ n / ((256 ^ k : Nat) : Int) % 256 := Int.emod_nonneg _ (by decide)
  generalize n % ((256 ^ k : Nat) : Int) = x at *
  generalize n / ((256 ^ k : Nat) : Int) % 256 = y at *
  obtain ⟨x, rfl⟩ : ∃ m : Nat, x = m := ⟨x.toNat, by omega⟩
  obtain ⟨y, rfl⟩ : ∃ m : Nat, y = m := ⟨y.toNat, by omega⟩
  have e3 : (x : Int) + ((256 ^ k : Nat) : Int) * (y : Int) = ((x + 256 ^ k * y : Nat) : Int) := by simp
  rw [e3]
  simp only [Int.toNat_natCast]
  rw [Nat.add_mul, Nat.pow_succ, Nat.mul_comm (256 ^ k) y, Nat.mul_comm (256 ^ k) 256, Nat.mul_assoc]
  omega
theorem rdN_be (k : Nat) (n : Int) (r : List UInt8) : rdN k (be k n ++ r, false) = ((n % (256 ^ k : Nat)).toNat, r, false) := by
 have hl : (be k n).length = k := be_len k n
 unfold rdN
 rw [if_neg (by show ¬ (be k n ++ r).length < k; rw [List.length_append, hl]; omega)]
 have h1 : (be k n ++ r).take k = be k n := by
  have := List.take_left (l₁ := be k n) (l₂ := r)
  rwa [hl] at this
 have h2 : (be k n ++ r).drop k = r := by
  have := List.drop_left (l₁ := be k n) (l₂ := r)
  rwa [hl] at this
 show (beN ((be k n ++ r).take k), (be k n ++ r).drop k, false) = _
 rw [h1, h2]
 unfold beN
 rw [be_foldl k n 0]
 simp
theorem sgn_emod {k : Nat} {n : Int} (hk : 0 < k) (h1 : -(2 ^ (8 * k - 1) : Nat) ≤ n) (h2 : n < (2 ^ (8 * k - 1) : Nat)) : sgn k (n % (256 ^ k : Nat)).toNat = n := by
 have e : (256 : Nat) ^ k = 2 ^ (8 * k - 1) + 2 ^ (8 * k - 1) := by
  rw [show 256 = 2 ^ 8 from rfl, ← Nat.pow_mul, ← Nat.mul_two, ← Nat.pow_succ]
  congr 1
  omega
 have e2 : (2 : Int) ^ (8 * k) = ((256 ^ k : Nat) : Int) := by
  rw [show 256 = 2 ^ 8 from rfl, ← Nat.pow_mul]
  simp
 unfold sgn
 rw [e2, e]
 have hp : 0 < 2 ^ (8 * k - 1) := Nat.pow_pos (by decide)
 generalize 2 ^ (8 * k - 1) = m at *
 rcases Int.lt_or_le n 0 with hn | hn
 ·have : n % ((m + m : Nat) : Int) = n + ((m + m : Nat) : Int) := by
   rw [← Int.add_emod_right, Int.emod_eq_of_lt (by omega) (by omega)]
  rw [this, if_neg (by omega)]
  omega
 ·rw [Int.emod_eq_of_lt hn (by omega), if_pos (by omega)]
  omega
theorem Scal.rd_wr {k : Scal} {n : Int} (h : k.ok n) (r : List UInt8) : k.rd (k.wr n ++ r, false) = (n, r, false) := by
 cases k with
 | bool =>
  have : n = 0 ∨ n = 1 := h
  rcases this with rfl | rfl
  ·rfl
  ·rfl
 | i8 =>
  have h : -128 ≤ n ∧ n ≤ 127 := h
  simp only [Scal.rd, Scal.wr, rdN_be]
  rw [sgn_emod (k := 1) (by decide) (by simp; omega) (by simp; omega)]
 | i16 =>
  have h : -32768 ≤ n ∧ n ≤ 32767 := h
  simp only [Scal.rd, Scal.wr, rdN_be]
  rw [sgn_emod (k := 2) (by decide) (by simp; omega) (by simp; omega)]
 | u16 =>
  have h : 0 ≤ n ∧ n ≤ 65535 := h
  simp only [Scal.rd, Scal.wr, rdN_be]
  rw [Int.emod_eq_of_lt (by omega) (by simp; omega), Int.toNat_of_nonneg (by omega)]
 | i32 =>
  have h : -2147483648 ≤ n ∧ n ≤ 2147483647 := h
  simp only [Scal.rd, Scal.wr, rdN_be]
  rw [sgn_emod (k := 4) (by decide) (by simp; omega) (by simp; omega)]
 | i64 =>
  have h : -9223372036854775808 ≤ n ∧ n ≤ 9223372036854775807 := h
  simp only [Scal.rd, Scal.wr, rdN_be]
  rw [sgn_emod (k := 8) (by decide) (by simp; omega) (by simp; omega)]
 | f64 =>
  have h : 0 ≤ n ∧ n < 18446744073709551616 := h
  simp only [Scal.rd, Scal.wr, rdN_be]
  rw [Int.toNat_of_nonneg h.1, Int.emod_eq_of_lt (by omega) (by simp; omega), Int.toNat_of_nonneg h.1]
theorem uvF_one {f n : Nat} (h : n < 128) : uvF (f + 1) n = [UInt8.ofNat n] := by simp [uvF, h]
theorem uvF_more {f n : Nat} (h : 128 ≤ n) : uvF (f + 1) n = UInt8.ofNat (n % 128 + 128) :: uvF f (n / 128) := by
 have : ¬ n < 128 := by omega
 simp [uvF, this]
theorem u8n {n : Nat} (h : n < 256) : (UInt8.ofNat n).toNat = n := by
 simp only [UInt8.toNat_ofNat']
 omega
theorem uvDec_uvF : ∀ (j f n acc : Nat) (r : List UInt8), j ≤ 4 → j ≤ f → n * 2 ^ (7 * (4 - j)) < 4294967296 → uvDec (4 - j) acc (uvF (f + 1) n ++ r) = some (acc + n * 2 ^ (7 * (4 - j)), 4 - j + (uvF (f + 1) n).length)
 | 0, f, n, acc, r, _, _, h => by
  simp only [Nat.sub_zero] at h ⊢
  have e : (2 : Nat) ^ (7 * 4) = 268435456 := by decide
  have e2 : (2 : Nat) ^ 28 = 268435456 := by decide
  rw [e] at h
  have hn : n < 128 := by omega
  rw [uvF_one hn]
  simp only [List.cons_append, List.nil_append, uvDec, if_true, u8n (show n < 256 by omega), e, e2]
  rw [if_pos (by omega)]
  rfl
 | j + 1, f, n, acc, r, hj, hf, h => by
  have hi : ¬ (4 - (j + 1) = 4) := by omega
  rcases Nat.lt_or_ge n 128 with hn | hn
  ·rw [uvF_one hn]
   simp only [List.cons_append, List.nil_append, uvDec, if_neg hi, u8n (show n < 256 by omega), if_pos hn]
   rfl
  ·obtain ⟨f', rfl⟩ : ∃ f', f = f' + 1 := ⟨f - 1, by omega⟩
   rw [uvF_more hn]
   simp only [List.cons_append, uvDec, if_neg hi, u8n (show n % 128 + 128 < 256 by omega)]
   rw [if_neg (by omega)]
   have e1 : 4 - (j + 1) + 1 = 4 - j := by omega
   have e3 : (n % 128 + 128) % 128 = n % 128 := by omega
   have e4 : (2 : Nat) ^ (7 * (4 - j)) = 2 ^ (7 * (4 - (j + 1))) * 128 := by
    rw [show 7 * (4 - j) = 7 * (4 - (j + 1)) + 7 by omega, Nat.pow_add]
   have hd : n % 128 + n / 128 * 128 = n := by omega
   have key : n % 128 * 2 ^ (7 * (4 - (j + 1))) + n / 128 * 2 ^ (7 * (4 - j)) = n * 2 ^ (7 * (4 - (j + 1))) := by
    rw [e4, Nat.mul_comm (2 ^ (7 * (4 - (j + 1)))) 128, ← Nat.mul_assoc, ← Nat.add_mul, hd]
   rw [e1, e3, uvDec_uvF j f' (n / 128) _ r (by omega) (by omega) (by omega)]
   simp only [Option.some.injEq, Prod.mk.injEq, List.length_cons]
   constructor
   ·omega
   ·omega
theorem rdUv_uvar {n : Nat} (h : n < 4294967296) (r : List UInt8) : rdUv (Go.Km.uvar n ++ r, false) = (n, r, false) := by
 have := uvDec_uvF 4 8 n 0 r (by decide) (by decide) (by simpa using h)
 simp only [Nat.sub_self, Nat.mul_zero, Nat.pow_zero, Nat.mul_one, Nat.zero_add] at this
 unfold rdUv
 show (match uvDec 0 0 (uvF 9 n ++ r) with | none => _ | some (v, k) => _) = _
 rw [this]
 show (n, List.drop (uvF 9 n).length (uvF 9 n ++ r), false) = _
 rw [List.drop_left]
theorem uvF_le : ∀ (f n k : Nat), n < 2 ^ (7 * (k + 1)) → (uvF f n).length ≤ k + 1
 | 0, n, k, h => by simp [uvF]
 | f + 1, n, k, h => by
  rcases Nat.lt_or_ge n 128 with hn | hn
  ·rw [uvF_one hn]; simp
  ·rw [uvF_more hn]
   cases k with
   | zero => simp at h; omega
   | succ k =>
    have e : (2 : Nat) ^ (7 * (k + 1 + 1)) = 2 ^ (7 * (k + 1)) * 128 := by rw [show 7 * (k + 1 + 1) = 7 * (k + 1) + 7 by omega, Nat.pow_add]
    have := uvF_le f (n / 128) k (by rw [Nat.div_lt_iff_lt_mul (by decide)]; omega)
    simp only [List.length_cons]
    omega
theorem uvDec_size : ∀ (l : List UInt8) (i acc v n : Nat), acc < 2 ^ (7 * i) → i ≤ 4 → uvDec i acc l = some (v, n) → v < 2 ^ (7 * n) ∧ n ≤ i + l.length ∧ i < n
 | [], i, acc, v, n, _, _, h => by cases h
 | b :: r, i, acc, v, n, ha, hi, h => by
  have hp : 2 ^ (7 * (i + 1)) = 2 ^ (7 * i) * 128 := by rw [show 7 * (i + 1) = 7 * i + 7 by omega, Nat.pow_add]
  have hmul : ∀ x : Nat, x < 128 → acc + x * 2 ^ (7 * i) < 2 ^ (7 * (i + 1)) := fun x hx => by
   have : x * 2 ^ (7 * i) ≤ 127 * 2 ^ (7 * i) := Nat.mul_le_mul_right _ (by omega)
   rw [hp]
   omega
  unfold uvDec at h
  split at h
  ·rename_i h4
   subst h4
   split at h
   ·rename_i hb
    simp only [Option.some.injEq, Prod.mk.injEq] at h
    obtain ⟨rfl, rfl⟩ := h
    simp only [List.length_cons]
    have := hmul b.toNat (by omega)
    exact ⟨by simpa using this, by omega, by omega⟩
   ·cases h
  ·split at h
   ·rename_i h1
    simp only [Option.some.injEq, Prod.mk.injEq] at h
    obtain ⟨rfl, rfl⟩ := h
    have := hmul b.toNat h1
    simp only [List.length_cons]
    exact ⟨this, by omega, by omega⟩
   ·have := uvDec_size r (i + 1) _ v n (hmul (b.toNat % 128) (Nat.mod_lt _ (by decide))) (by omega) h
    simp only [List.length_cons]
    exact ⟨this.1, by omega, by omega⟩
theorem rdUv_len {st : RSt} (h : (rdUv st).2.2 = false) : (Go.Km.uvar (rdUv st).1).length + (rdUv st).2.1.length ≤ st.1.length := by
 unfold rdUv at h ⊢
 cases hu : uvDec 0 0 st.1 with
 | none => simp [hu] at h
 | some x =>
  obtain ⟨v, n⟩ := x
  obtain ⟨h1, h2, h3⟩ := uvDec_size st.1 0 0 v n (by decide) (by decide) hu
  obtain ⟨k, rfl⟩ : ∃ k, n = k + 1 := ⟨n - 1, by omega⟩
  have := uvF_le 9 v k h1
  simp only [List.length_drop]
  show (uvF 9 v).length + _ ≤ _
  omega
def Ext {α : Type} (g : RSt → α × RSt) : Prop := ∀ l m : List UInt8, (g (l, false)).2.2 = false → g (l ++ m, false) = ((g (l, false)).1, (g (l, false)).2.1 ++ m, false)
theorem rdN_ext (k : Nat) : Ext (rdN k) := by
 intro l m h
 unfold rdN at h ⊢
 split at h
 ·cases h
 ·rename_i hl
  simp only at hl
  simp only [List.length_append]
  rw [if_neg (by omega), if_neg hl, List.take_append_of_le_length (by omega), List.drop_append_of_le_length (by omega)]
theorem uvDec_ext : ∀ (l m : List UInt8) (i acc : Nat) (x : Nat × Nat), uvDec i acc l = some x → uvDec i acc (l ++ m) = some x
 | [], m, i, acc, x, h => by cases h
 | b :: r, m, i, acc, x, h => by
  simp only [List.cons_append]
  unfold uvDec at h ⊢
  split
  ·rename_i h4; rw [if_pos h4] at h; exact h
  ·rename_i h4
   rw [if_neg h4] at h
   split
   ·rename_i h1; rw [if_pos h1] at h; exact h
   ·rename_i h1
    rw [if_neg h1] at h
    exact uvDec_ext r m (i + 1) _ x h
theorem rdUv_ext : Ext rdUv := by
 intro l m h
 unfold rdUv at h ⊢
 cases hu : uvDec 0 0 l with
 | none => simp [hu] at h
 | some x =>
  obtain ⟨v, n⟩ := x
  have h2 := (uvDec_size l 0 0 v n (by decide) (by decide) hu).2.1
  simp only [uvDec_ext l m 0 0 _ hu]
  rw [List.drop_append_of_le_length (by omega)]
theorem rdSpan_ext (n : Int) : Ext (rdSpan n) := by
 intro l m h
 unfold rdSpan at h ⊢
 split at h
 ·cases h
 ·rename_i hl
  simp only at hl
  simp only [List.length_append]
  rw [if_neg (by omega), if_neg hl, List.take_append_of_le_length (by omega), List.drop_append_of_le_length (by omega)]
theorem Ext.bind {α β : Type} {g : RSt → α × RSt} {f : α → RSt → β × RSt} (hg : Ext g) (hf : ∀ x, Ext (f x)) (hm : ∀ x st, (f x st).2.2 = false → st.2 = false) : Ext fun st => f (g st).1 (g st).2 := by
 intro l m h
 have h : (f (g (l, false)).1 (g (l, false)).2).2.2 = false := h
 have h1 := hm _ _ h
 have e := hg l m h1
 show f (g (l ++ m, false)).1 (g (l ++ m, false)).2 = ((f (g (l, false)).1 (g (l, false)).2).1, (f (g (l, false)).1 (g (l, false)).2).2.1 ++ m, false)
 rw [e]
 have e2 : (g (l, false)).2 = ((g (l, false)).2.1, false) := Prod.ext rfl h1
 rw [e2] at h ⊢
 exact hf _ _ _ h
theorem Ext.map {α β : Type} {g : RSt → α × RSt} (hg : Ext g) (f : α → β) : Ext fun st => (f (g st).1, (g st).2) := by
 intro l m h
 show (f (g (l ++ m, false)).1, (g (l ++ m, false)).2) = _
 rw [hg l m h]
theorem Ext.pure {α : Type} (x : α) : Ext fun st => (x, st) := fun l m h => rfl
theorem Scal.rd_ext (k : Scal) : Ext k.rd := by
 cases k with
 | bool => exact (rdN_ext 1).map (fun n => if n != 0 then (1 : Int) else 0)
 | i8 => exact (rdN_ext 1).map (sgn 1)
 | i16 => exact (rdN_ext 2).map (sgn 2)
 | u16 => exact (rdN_ext 2).map (fun n => (n : Int))
 | i32 => exact (rdN_ext 4).map (sgn 4)
 | i64 => exact (rdN_ext 8).map (sgn 8)
 | f64 => exact (rdN_ext 8).map (fun n => (n : Int))
theorem rdL_ext (fx : Bool) : Ext (rdL fx) := by
 cases fx with
 | true => exact rdUv_ext.map (fun n => (n : Int) - 1)
 | false => exact (rdN_ext 2).map (sgn 2)
theorem rdLB_ext (fx : Bool) : Ext (rdLB fx) := by
 cases fx with
 | true => exact rdUv_ext.map (fun n => (n : Int) - 1)
 | false => exact (rdN_ext 4).map (sgn 4)
theorem rdNul_ext {g : RSt → Int × RSt} (hg : Ext g) : Ext fun st => rdNul (g st) := by
 refine Ext.bind (f := fun n st => rdNul (n, st)) hg (fun n => ?_) (fun n st h => rdNul_mono h)
 intro l m h
 simp only [rdNul] at h ⊢
 by_cases hn : n < 0
 ·simp only [if_pos hn]
 ·simp only [if_neg hn] at h ⊢
  rw [rdSpan_ext n l m h]
theorem rdOct_ext {g : RSt → Int × RSt} (hg : Ext g) : Ext fun st => rdOct (g st) := by
 refine Ext.bind (f := fun n st => rdOct (n, st)) hg (fun n => ?_) (fun n st h => rdOct_mono h)
 intro l m h
 simp only [rdOct] at h ⊢
 by_cases hn : n = -1
 ·simp only [if_pos hn]
 ·simp only [if_neg hn] at h ⊢
  rw [rdSpan_ext n l m h]
theorem rdStr_ext {g : RSt → Int × RSt} (hg : Ext g) : Ext fun st => rdStr (g st) :=
 Ext.bind (f := fun n st => rdSpan n st) hg (fun n => rdSpan_ext n) (fun n st h => rdSpan_mono h)
theorem rdCount_ext {g : RSt → Int × RSt} (hg : Ext g) : Ext fun st => rdCount (g st) := by
 refine Ext.bind (f := fun n st => rdCount (n, st)) hg (fun n => ?_) (fun n st h => rdCount_mono h)
 intro l m h
 simp only [rdCount] at h ⊢
 by_cases hn : (l.length : Int) < n
 ·rw [if_pos hn] at h; cases h
 ·rw [if_neg hn, if_neg (by simp only [List.length_append]; omega)]
theorem rdCn_ext (fx : Bool) : Ext (rdCn fx) := by
 cases fx with
 | true => exact rdCount_ext (rdUv_ext.map (fun n => IntKind.i32.wrap (IntKind.i32.wrap (n : Int) - 1)))
 | false => exact rdCount_ext ((rdN_ext 4).map (sgn 4))
theorem rdMany_ext {f : RSt → D × RSt} (hf : Ext f) (hm : ∀ st, (f st).2.2 = false → st.2 = false) : ∀ n, Ext (rdMany f n)
 | 0 => fun l m h => rfl
 | n + 1 => by
  have h1 := Ext.bind (f := fun x st => ((x :: (rdMany f n st).1 : List D), (rdMany f n st).2)) hf (fun x => (rdMany_ext hf hm n).map (fun r => x :: r)) (fun x st h => rdMany_mono hm n st h)
  exact h1
theorem rdTag_ext : Ext rdTag :=
 Ext.bind (f := fun a st => (((a, (rdSpan ((rdUv st).1 : Int) (rdUv st).2).1), (rdSpan ((rdUv st).1 : Int) (rdUv st).2).2) : (Nat × List UInt8) × RSt)) rdUv_ext
  (fun a => (Ext.bind (f := fun (n : Nat) st => rdSpan (n : Int) st) rdUv_ext (fun n => rdSpan_ext _) (fun n st h => rdSpan_mono h)).map (fun x => (a, x))) (fun a st h => rdUv_mono (rdSpan_mono h))
theorem rdTagsN_ext : ∀ (n : Nat) (acc : List (Nat × List UInt8)), Ext (rdTagsN n acc)
 | 0, acc => fun l m h => rfl
 | n + 1, acc => by
  have := Ext.bind (f := fun (x : Nat × List UInt8) st => rdTagsN n (setTag x.1 x.2 acc) st) rdTag_ext (fun x => rdTagsN_ext n _) (fun x st h => rdTagsN_mono n _ st h)
  exact this
theorem rdTags_ext : Ext rdTags := Ext.bind (f := fun n st => rdTagsN n [] st) rdUv_ext (fun n => rdTagsN_ext n []) (fun n st h => rdTagsN_mono n _ st h)
mutual
theorem Ty.rd_ext (fx : Bool) (ver : Nat) : ∀ t : Ty, Ext (t.rd fx ver)
 | .scal s _ | .named s _ _ => by
  have := s.rd_ext.map (fun n => D.int n)
  simpa only [Ext, Ty.rd] using this
 | .uuid => by
  have := (rdSpan_ext 16).map (fun l => D.bytes (some l))
  simpa only [Ext, Ty.rd] using this
 | .text => by
  have := (rdStr_ext (rdL_ext fx)).map (fun l => D.bytes (some l))
  simpa only [Ext, Ty.rd] using this
 | .ntext => by
  have := (rdNul_ext (rdL_ext fx)).map (fun l => D.bytes l)
  simpa only [Ext, Ty.rd] using this
 | .ntextFrom N => by
  by_cases hN : ver < N
  ·have := (rdStr_ext (rdL_ext fx)).map (fun l => D.bytes (some l))
   simpa only [Ext, Ty.rd, if_pos hN] using this
  ·have := (rdNul_ext (rdL_ext fx)).map (fun l => D.bytes l)
   simpa only [Ext, Ty.rd, if_neg hN] using this
 | .bytes => by
  have := (rdOct_ext (rdLB_ext fx)).map (fun l => D.bytes l)
  simpa only [Ext, Ty.rd] using this
 | .nbytes => by
  have := (rdNul_ext (rdLB_ext fx)).map (fun l => D.bytes l)
  simpa only [Ext, Ty.rd] using this
 | .list TS null e => by
  have := Ext.bind (f := fun n st => if st.2 then ((.list none : D), st) else if n ≤ 0 then (if emptyB null ver n then (.list (some []) : D) else .list none, st) else
    (.list (some (rdMany (fun s => e.rd fx ver s) n.toNat st).1), (rdMany (fun s => e.rd fx ver s) n.toNat st).2)) (rdCn_ext fx) (fun n => ?_) (fun n st h => ?_)
  ·simpa only [Ext, Ty.rd] using this
  ·intro l m h
   simp only [Bool.false_eq_true, if_false] at h ⊢
   split
   ·rename_i hn; simp only [if_pos hn]
   ·rename_i hn
    simp only [if_neg hn] at h ⊢
    rw [rdMany_ext (Ty.rd_ext fx ver e) (fun st h => Ty.rd_mono fx ver e st h) n.toNat l m h]
  ·rcases Bool.eq_false_or_eq_true st.2 with hb | hb
   ·rw [if_pos hb] at h; exact h
   ·exact hb
 | .struct _ _ _ fs => by
  have := (Flds.rd_ext fx ver fs)
  intro l m h
  simp only [Ty.rd] at h ⊢
  rw [this l m h]
 | .nstruct _ _ _ fs _ => by
  have := Ext.bind (f := fun (n : Int) st => if n = -1 ∨ st.2 = true then ((.list none : D), st) else (.list (some [.obj (fs.rd fx ver st).1 (fs.rd fx ver st).2.1]), (fs.rd fx ver st).2.2)) (Scal.rd_ext .i8) (fun n => ?_) (fun n st h => ?_)
  ·simpa only [Ext, Ty.rd] using this
  ·intro l m h
   simp only [Bool.false_eq_true, or_false] at h ⊢
   split
   ·rename_i hn; simp only [if_pos hn]
   ·rename_i hn
    simp only [if_neg hn] at h ⊢
    rw [Flds.rd_ext fx ver fs l m h]
  ·split at h
   ·exact h
   ·exact Flds.rd_mono fx ver fs _ h
theorem Flds.rd_ext (fx : Bool) (ver : Nat) : ∀ (fs : Flds) (l m : List UInt8), (fs.rd fx ver (l, false)).2.2.2 = false → fs.rd fx ver (l ++ m, false) = ((fs.rd fx ver (l, false)).1, (fs.rd fx ver (l, false)).2.1, (fs.rd fx ver (l, false)).2.2.1 ++ m, false)
 | .nil _, l, m, h => by
  cases fx with
  | true =>
   simp only [Flds.rd, if_true] at h ⊢
   rw [rdTags_ext l m h]
  | false => simp [Flds.rd]
 | .cons v t r, l, m, h => by
  simp only [Flds.rd] at h ⊢
  split
  ·rename_i hv
   simp only [if_pos hv] at h
   have h1 := Flds.rd_mono fx ver r _ h
   have e := Ty.rd_ext fx ver t l m h1
   have e2 : (t.rd fx ver (l, false)).2 = ((t.rd fx ver (l, false)).2.1, false) := Prod.ext rfl h1
   simp only [e]
   rw [e2] at h ⊢
   rw [Flds.rd_ext fx ver r _ m h]
  ·rename_i hv
   simp only [if_neg hv] at h
   rw [Flds.rd_ext fx ver r l m h]
end
end Go.Km
namespace Go.Km
open Go Go.RowKit
def strOk (fx : Bool) (l : List UInt8) : Prop := if fx then l.length + 1 < 4294967296 else l.length ≤ 32767
def octOk (fx : Bool) (l : List UInt8) : Prop := if fx then l.length + 1 < 4294967296 else l.length < 2147483648
def tagsGood (tags : List (Nat × List UInt8)) : Prop := TagsOk tags ∧ tags.length < 4294967296 ∧ ∀ x ∈ tags, x.2.length < 4294967296
mutual
def Ty.good (fx : Bool) (ver : Nat) : Ty → D → Prop
 | .scal s _, .int n | .named s _ _, .int n => s.ok n
 | .uuid, .bytes (some l) => l.length = 16
 | .text, .bytes (some l) => strOk fx l
 | .ntext, .bytes none => True
 | .ntext, .bytes (some l) => strOk fx l
 | .ntextFrom N, .bytes none => N ≤ ver
 | .ntextFrom _, .bytes (some l) => strOk fx l
 | .bytes, .bytes (some l) => octOk fx l
 | .nbytes, .bytes none => True
 | .nbytes, .bytes (some l) => octOk fx l
 | .list _ null _, .list none => null = none ∨ ∃ N, null = some N ∧ N ≤ ver
 | .list _ null e, .list (some l) => (null = none → l ≠ []) ∧ l.length < 2147483648 ∧ ∀ d ∈ l, e.good fx ver d
 | .struct _ _ _ fs, .obj l tags => fs.good fx ver l tags
 | .nstruct _ _ _ _ _, .list none => True
 | .nstruct _ _ _ fs _, .list (some [.obj l tags]) => fs.good fx ver l tags
 | _, _ => False
def Flds.good (fx : Bool) (ver : Nat) : Flds → List D → List (Nat × List UInt8) → Prop
 | .nil _, [], tags => if fx then tagsGood tags else tags = []
 | .cons v t r, d :: l, tags => (if v.has ver then t.good fx ver d else d = t.dflt) ∧ r.good fx ver l tags
 | _, _, _ => False
end
mutual
def Ty.pos (fx : Bool) (ver : Nat) : Ty → Bool
 | .struct _ _ _ fs => fs.pos fx ver
 | _ => true
def Flds.pos (fx : Bool) (ver : Nat) : Flds → Bool
 | .nil _ => fx
 | .cons v t r => (v.has ver && t.pos fx ver) || r.pos fx ver
end
mutual
def Ty.lp (fx : Bool) (ver : Nat) : Ty → Bool
 | .list _ _ e => e.pos fx ver && e.lp fx ver
 | .struct _ _ _ fs | .nstruct _ _ _ fs _ => fs.lp fx ver
 | _ => true
def Flds.lp (fx : Bool) (ver : Nat) : Flds → Bool
 | .nil _ => true
 | .cons v t r => (!v.has ver || t.lp fx ver) && r.lp fx ver
end
theorem Scal.wr_pos (k : Scal) (n : Int) : 1 ≤ (k.wr n).length := by
 cases k <;> simp [Scal.wr, be_len]
theorem uvar_pos1 (n : Nat) : 1 ≤ (Go.Km.uvar n).length := uvF_pos 9 n
theorem wrStr_pos (fx : Bool) (l : List UInt8) : 1 ≤ (wrStr fx l).length := by
 unfold wrStr
 cases fx
 ·simp [be_len]; omega
 ·have := uvar_pos1 (l.length + 1)
  simp; omega
theorem wrBytes_pos (fx : Bool) (l : List UInt8) : 1 ≤ (wrBytes fx l).length := by
 unfold wrBytes
 cases fx
 ·simp [be_len]; omega
 ·have := uvar_pos1 (l.length + 1)
  simp; omega
theorem wrLen_pos (fx : Bool) (n : Nat) : 1 ≤ (wrLen fx n).length := by
 unfold wrLen
 cases fx
 ·simp [be_len]
 ·exact uvar_pos1 _
theorem wrNull_pos (fx : Bool) : 1 ≤ (wrNull fx).length := by
 cases fx <;> simp [wrNull, be_len]
mutual
theorem Ty.wr_pos (fx : Bool) (ver : Nat) : ∀ (t : Ty) (d : D), t.pos fx ver = true → t.good fx ver d → 1 ≤ (t.wr fx ver d).length
 | .scal s _, d, hp, h | .named s _ _, d, hp, h => by
  cases d <;> simp only [Ty.good] at h
  simp only [Ty.wr]
  exact s.wr_pos _
 | .uuid, d, hp, h => by
  cases d with
  | bytes o =>
   cases o <;> simp only [Ty.good] at h
   simp only [Ty.wr]; omega
  | _ => simp only [Ty.good] at h
 | .text, d, hp, h => by
  cases d with
  | bytes o =>
   cases o <;> simp only [Ty.good] at h
   simp only [Ty.wr]; exact wrStr_pos _ _
  | _ => simp only [Ty.good] at h
 | .ntext, d, hp, h => by
  cases d with
  | bytes o =>
   simp only [Ty.wr]
   cases o with
   | none => cases fx <;> simp [wrNStr, be_len]
   | some l => exact wrStr_pos _ _
  | _ => simp only [Ty.good] at h
 | .ntextFrom N, d, hp, h => by
  cases d with
  | bytes o =>
   simp only [Ty.wr]
   split
   ·exact wrStr_pos _ _
   ·cases o with
    | none => cases fx <;> simp [wrNStr, be_len]
    | some l => exact wrStr_pos _ _
  | _ => simp only [Ty.good] at h
 | .bytes, d, hp, h => by
  cases d with
  | bytes o => simp only [Ty.wr]; exact wrBytes_pos _ _
  | _ => simp only [Ty.good] at h
 | .nbytes, d, hp, h => by
  cases d with
  | bytes o =>
   simp only [Ty.wr]
   cases o with
   | none => cases fx <;> simp [wrNBytes, be_len]
   | some l => exact wrBytes_pos _ _
  | _ => simp only [Ty.good] at h
 | .list _ null e, d, hp, h => by
  cases d with
  | list o =>
   cases o with
   | none =>
    simp only [Ty.wr]
    split
    ·exact wrNull_pos _
    ·exact wrLen_pos _ _
   | some l =>
    simp only [Ty.wr, List.length_append]
    have := wrLen_pos fx l.length
    omega
  | _ => simp only [Ty.good] at h
 | .struct _ _ _ fs, d, hp, h => by
  cases d with
  | obj l tags =>
   simp only [Ty.good] at h
   simp only [Ty.pos] at hp
   simp only [Ty.wr]
   exact Flds.wr_pos fx ver fs l tags hp h
  | _ => simp only [Ty.good] at h
 | .nstruct _ _ _ fs _, d, hp, h => by
  cases d with
  | list o =>
   rcases o with _ | ⟨_ | ⟨d0, _ | ⟨d1, r⟩⟩⟩
   ·simp [Ty.wr]
   ·simp only [Ty.good] at h
   ·cases d0 <;> simp only [Ty.good] at h
    simp [Ty.wr]
   ·cases d0 <;> simp only [Ty.good] at h
  | _ => simp only [Ty.good] at h
theorem Flds.wr_pos (fx : Bool) (ver : Nat) : ∀ (fs : Flds) (l : List D) (tags : List (Nat × List UInt8)), fs.pos fx ver = true → fs.good fx ver l tags → 1 ≤ (fs.wr fx ver l tags).length
 | .nil _, l, tags, hp, h => by
  simp only [Flds.pos] at hp
  subst hp
  simp only [Flds.wr, if_true, wrTags, List.length_append]
  have := uvar_pos1 tags.length
  omega
 | .cons v t r, [], tags, hp, h => by simp [Flds.good] at h
 | .cons v t r, d :: l, tags, hp, h => by
  simp only [Flds.good] at h
  simp only [Flds.pos, Bool.or_eq_true, Bool.and_eq_true] at hp
  simp only [Flds.wr, List.length_append]
  rcases hp with ⟨hv, hp⟩ | hp
  ·simp only [hv, if_true] at h ⊢
   have := Ty.wr_pos fx ver t d hp h.1
   omega
  ·have := Flds.wr_pos fx ver r l tags hp h.2
   omega
end
theorem rdSpan_app (l r : List UInt8) : rdSpan (l.length : Int) (l ++ r, false) = (l, r, false) := by
 unfold rdSpan
 rw [if_neg (by simp; omega)]
 simp
theorem rdL_wr {fx : Bool} {n : Nat} (h : if fx then n + 1 < 4294967296 else n ≤ 32767) (r : List UInt8) : rdL fx ((if fx then Go.Km.uvar (n + 1) else be 2 n) ++ r, false) = ((n : Int), r, false) := by
 cases fx with
 | true =>
  simp only [if_true] at h ⊢
  simp only [rdL, if_true, rdLc, rdUv_uvar h]
  congr 1
  omega
 | false =>
  simp only [Bool.false_eq_true, if_false] at h ⊢
  simp only [rdL, Bool.false_eq_true, if_false, rdL2, rdN_be]
  rw [sgn_emod (k := 2) (by decide) (by simp) (by simp; omega)]
theorem rdLB_wr {fx : Bool} {n : Nat} (h : if fx then n + 1 < 4294967296 else n < 2147483648) (r : List UInt8) : rdLB fx ((if fx then Go.Km.uvar (n + 1) else be 4 n) ++ r, false) = ((n : Int), r, false) := by
 cases fx with
 | true =>
  simp only [if_true] at h ⊢
  simp only [rdLB, if_true, rdLc, rdUv_uvar h]
  congr 1
  omega
 | false =>
  simp only [Bool.false_eq_true, if_false] at h ⊢
  simp only [rdLB, Bool.false_eq_true, if_false, rdL4, rdN_be]
  rw [sgn_emod (k := 4) (by decide) (by simp) (by simp; omega)]
theorem wrap_i32_ok {n : Nat} (h : n < 2147483648) : IntKind.i32.wrap (IntKind.i32.wrap ((n + 1 : Nat) : Int) - 1) = (n : Int) := by
 have h2 : (2 : Int) ^ 32 = 4294967296 := by decide
 have h3 : (2 : Int) ^ (32 - 1) = 2147483648 := by decide
 simp only [IntKind.wrap, IntKind.bits, IntKind.signed, Bool.true_and, decide_eq_true_eq, h2, h3]
 split <;> split <;> omega
theorem rdCn_wr {fx : Bool} {n : Nat} (h : n < 2147483648) {r : List UInt8} (hr : n ≤ r.length) : rdCn fx (wrLen fx n ++ r, false) = ((n : Int), r, false) := by
 cases fx with
 | true =>
  simp only [rdCn, wrLen, if_true, rdCc, rdUv_uvar (show n + 1 < 4294967296 by omega)]
  rw [wrap_i32_ok h]
  simp only [rdCount]
  rw [if_neg (by omega)]
 | false =>
  simp only [rdCn, wrLen, Bool.false_eq_true, if_false, rdC4, rdL4, rdN_be]
  rw [sgn_emod (k := 4) (by decide) (by simp) (by simp; omega)]
  simp only [rdCount]
  rw [if_neg (by omega)]
theorem rdCn_null {fx : Bool} {r : List UInt8} : rdCn fx (wrNull fx ++ r, false) = (-1, r, false) := by
  cases fx with
  | true =>
    have e : ([0] : List UInt8) = Go.Km.uvar 0 := rfl
    simp only [rdCn, wrNull, if_true, rdCc, e, rdUv_uvar (show 0 < 4294967296 by omega)]
    simp only [rdCount]
    rw [if_neg (by have : IntKind.i32.wrap (IntKind.i32.wrap ((0 : Nat) : Int) - 1) = -1 := by decide
                   rw [this]; omega)]
    rfl
  | false =>
    simp only [rdCn, wrNull, Bool.false_eq_true, if_false, rdC4, rdL4, rdN_be]
    rw [sgn_emod (k := 4) (by decide) (by simp) (by simp)]
    simp only [rdCount]
    rw [if_neg (by omega)]
theorem wrStr_rd {fx : Bool} {l : List UInt8} (h : strOk fx l) (r : List UInt8) : rdStr (rdL fx (wrStr fx l ++ r, false)) = (l, r, false) := by
 unfold wrStr
 rw [List.append_assoc, rdL_wr h]
 exact rdSpan_app l r
theorem wrNStr_rd {fx : Bool} {l : List UInt8} (h : strOk fx l) (r : List UInt8) : rdNul (rdL fx (wrStr fx l ++ r, false)) = (some l, r, false) := by
 unfold wrStr
 rw [List.append_assoc, rdL_wr h]
 unfold rdNul
 rw [if_neg (by simp)]
 simp only [rdSpan_app]
theorem wrNStr_rd0 {fx : Bool} (r : List UInt8) : rdNul (rdL fx (wrNStr fx none ++ r, false)) = (none, r, false) := by
 cases fx with
 | true =>
  have e : ([0] : List UInt8) = Go.Km.uvar 0 := rfl
  simp only [rdL, wrNStr, if_true, rdLc, e, rdUv_uvar (show 0 < 4294967296 by omega)]
  rfl
 | false =>
  simp only [rdL, wrNStr, Bool.false_eq_true, if_false, rdL2, rdN_be]
  rw [sgn_emod (k := 2) (by decide) (by simp) (by simp)]
  rfl
theorem wrBytes_rd {fx : Bool} {l : List UInt8} (h : octOk fx l) (r : List UInt8) : rdOct (rdLB fx (wrBytes fx l ++ r, false)) = (some l, r, false) := by
 unfold wrBytes
 rw [List.append_assoc, rdLB_wr h]
 unfold rdOct
 rw [if_neg (by simp)]
 simp only [rdSpan_app]
theorem wrNBytes_rd {fx : Bool} {l : List UInt8} (h : octOk fx l) (r : List UInt8) : rdNul (rdLB fx (wrBytes fx l ++ r, false)) = (some l, r, false) := by
 unfold wrBytes
 rw [List.append_assoc, rdLB_wr h]
 unfold rdNul
 rw [if_neg (by simp)]
 simp only [rdSpan_app]
theorem wrNBytes_rd0 {fx : Bool} (r : List UInt8) : rdNul (rdLB fx (wrNBytes fx none ++ r, false)) = (none, r, false) := by
 cases fx with
 | true =>
  have e : ([0] : List UInt8) = Go.Km.uvar 0 := rfl
  simp only [rdLB, wrNBytes, if_true, rdLc, e, rdUv_uvar (show 0 < 4294967296 by omega)]
  rfl
 | false =>
  simp only [rdLB, wrNBytes, Bool.false_eq_true, if_false, rdL4, rdN_be]
  rw [sgn_emod (k := 4) (by decide) (by simp) (by simp)]
  rfl
theorem setTag_last : ∀ (acc : List (Nat × List UInt8)) (k : Nat) (v : List UInt8), (∀ x ∈ acc, x.1 < k) → setTag k v acc = acc ++ [(k, v)]
 | [], k, v, h => rfl
 | x :: l, k, v, h => by
  have h1 := h x (by simp)
  simp only [setTag]
  rw [if_neg (by omega), if_neg (by omega), setTag_last l k v (fun y hy => h y (by simp [hy]))]
  rfl
theorem rdTag_wr {x : Nat × List UInt8} (h1 : x.1 < 4294967296) (h2 : x.2.length < 4294967296) (r : List UInt8) : rdTag (wrTag x ++ r, false) = (x, r, false) := by
 unfold wrTag rdTag
 simp only [List.append_assoc, rdUv_uvar h1, rdUv_uvar h2, rdSpan_app]
theorem rdTagsN_wr : ∀ (tags acc : List (Nat × List UInt8)) (r : List UInt8), (∀ x ∈ tags, x.1 < 4294967296) → (∀ x ∈ tags, x.2.length < 4294967296) → tags.Pairwise (fun x y => x.1 < y.1) → (∀ x ∈ acc, ∀ y ∈ tags, x.1 < y.1) →
  rdTagsN tags.length acc ((tags.map wrTag).flatten ++ r, false) = (acc ++ tags, r, false)
 | [], acc, r, _, _, _, _ => by simp [rdTagsN]
 | x :: tags, acc, r, h1, h2, h3, h4 => by
  simp only [List.length_cons, List.map_cons, List.flatten_cons, List.append_assoc]
  unfold rdTagsN
  rw [rdTag_wr (h1 x (by simp)) (h2 x (by simp))]
  simp only
  rw [setTag_last acc x.1 x.2 (fun y hy => h4 y hy x (by simp))]
  have h5 := List.pairwise_cons.1 h3
  rw [rdTagsN_wr tags (acc ++ [(x.1, x.2)]) r (fun y hy => h1 y (by simp [hy])) (fun y hy => h2 y (by simp [hy])) h5.2 ?_]
  ·simp
  ·intro y hy z hz
   rcases List.mem_append.1 hy with hy | hy
   ·exact h4 y hy z (by simp [hz])
   ·simp only [List.mem_cons, List.not_mem_nil, or_false] at hy
    subst hy
    exact h5.1 z hz
theorem rdTags_wr {tags : List (Nat × List UInt8)} (h : tagsGood tags) (r : List UInt8) : rdTags (wrTags tags ++ r, false) = (tags, r, false) := by
 obtain ⟨⟨h1, h2⟩, h3, h4⟩ := h
 unfold rdTags wrTags
 simp only [List.append_assoc, rdUv_uvar h3]
 have := rdTagsN_wr tags [] r h2 h4 h1 (fun x hx => by simp at hx)
 simpa using this
theorem rdMany_wr {f : RSt → D × RSt} {g : D → List UInt8} : ∀ (l : List D) (r : List UInt8), (∀ d ∈ l, ∀ r, f (g d ++ r, false) = (d, r, false)) → rdMany f l.length ((l.map g).flatten ++ r, false) = (l, r, false)
 | [], r, _ => by simp [rdMany]
 | d :: l, r, h => by
  simp only [List.length_cons, List.map_cons, List.flatten_cons, List.append_assoc, rdMany]
  rw [h d (by simp)]
  simp only
  rw [rdMany_wr l r (fun d hd => h d (by simp [hd]))]
theorem flat_len {g : D → List UInt8} : ∀ (l : List D), (∀ d ∈ l, 1 ≤ (g d).length) → l.length ≤ (l.map g).flatten.length
 | [], _ => by simp
 | d :: l, h => by
  have h1 := h d (by simp)
  have h2 := flat_len l (fun d hd => h d (by simp [hd]))
  simp only [List.length_cons, List.map_cons, List.flatten_cons, List.length_append]
  omega
mutual
theorem Ty.rd_wr (fx : Bool) (ver : Nat) : ∀ (t : Ty) (d : D) (r : List UInt8), t.lp fx ver = true → t.good fx ver d → t.rd fx ver (t.wr fx ver d ++ r, false) = (d, r, false)
 | .scal s _, d, r, hp, h | .named s _ _, d, r, hp, h => by
  cases d <;> simp only [Ty.good] at h
  simp only [Ty.wr, Ty.rd, Scal.rd_wr h]
 | .uuid, d, r, hp, h => by
  cases d with
  | bytes o =>
   cases o with
   | none => simp only [Ty.good] at h
   | some l =>
    simp only [Ty.good] at h
    simp only [Ty.wr, Ty.rd]
    have := rdSpan_app l r
    rw [h] at this
    rw [show ((16 : Nat) : Int) = 16 from rfl] at this
    rw [this]
  | _ => simp only [Ty.good] at h
 | .text, d, r, hp, h => by
  cases d with
  | bytes o =>
   cases o with
   | none => simp only [Ty.good] at h
   | some l =>
    simp only [Ty.good] at h
    simp only [Ty.wr, Ty.rd, wrStr_rd h]
  | _ => simp only [Ty.good] at h
 | .ntext, d, r, hp, h => by
  cases d with
  | bytes o =>
   cases o with
   | none => simp only [Ty.wr, Ty.rd, wrNStr_rd0]
   | some l =>
    simp only [Ty.good] at h
    simp only [Ty.wr, Ty.rd, wrNStr, wrNStr_rd h]
  | _ => simp only [Ty.good] at h
 | .ntextFrom N, d, r, hp, h => by
  cases d with
  | bytes o =>
   cases o with
   | none =>
    simp only [Ty.good] at h
    have hN : ¬ ver < N := by omega
    simp only [Ty.wr, Ty.rd, if_neg hN, wrNStr_rd0]
   | some l =>
    simp only [Ty.good] at h
    simp only [Ty.wr, Ty.rd]
    by_cases hN : ver < N
    ·simp only [if_pos hN, Option.getD_some, wrStr_rd h]
    ·simp only [if_neg hN, wrNStr, wrNStr_rd h]
  | _ => simp only [Ty.good] at h
 | .bytes, d, r, hp, h => by
  cases d with
  | bytes o =>
   cases o with
   | none => simp only [Ty.good] at h
   | some l =>
    simp only [Ty.good] at h
    simp only [Ty.wr, Ty.rd, Option.getD_some, wrBytes_rd h]
  | _ => simp only [Ty.good] at h
 | .nbytes, d, r, hp, h => by
  cases d with
  | bytes o =>
   cases o with
   | none => simp only [Ty.wr, Ty.rd, wrNBytes_rd0]
   | some l =>
    simp only [Ty.good] at h
    simp only [Ty.wr, Ty.rd, wrNBytes, wrNBytes_rd h]
  | _ => simp only [Ty.good] at h
 | .list TS null e, d, r, hp, h => by
  simp only [Ty.lp, Bool.and_eq_true] at hp
  cases d with
  | list o =>
   cases o with
   | none =>
    simp only [Ty.good] at h
    simp only [Ty.wr, Ty.rd]
    rcases h with rfl | ⟨N, rfl, hN⟩
    ·simp only [Option.isSome_none, Bool.false_eq_true, if_false]
     rw [rdCn_wr (by decide) (Nat.zero_le _)]
     simp [emptyB]
    ·simp only [Option.isSome_some, if_true, rdCn_null]
     have : ¬ ver < N := by omega
     simp [emptyB, this]
   | some l =>
    simp only [Ty.good] at h
    obtain ⟨h0, h1, h2⟩ := h
    have hfl := flat_len (g := fun d => e.wr fx ver d) l (fun d hd => Ty.wr_pos fx ver e d hp.1 (h2 d hd))
    simp only [Ty.wr, Ty.rd, List.append_assoc]
    rw [rdCn_wr h1 (by simp only [List.length_append]; omega)]
    simp only [Bool.false_eq_true, if_false]
    cases l with
    | nil =>
     have hnl : null ≠ none := fun hh => h0 hh rfl
     obtain ⟨N, rfl⟩ := Option.ne_none_iff_exists'.1 hnl
     simp [emptyB]
    | cons d l =>
     rw [if_neg (by simp only [List.length_cons]; omega), Int.toNat_natCast]
     rw [rdMany_wr (f := fun s => e.rd fx ver s) (g := fun d => e.wr fx ver d) (d :: l) r (fun d hd r => Ty.rd_wr fx ver e d r hp.2 (h2 d hd))]
  | _ => simp only [Ty.good] at h
 | .struct _ _ _ fs, d, r, hp, h => by
  cases d with
  | obj l tags =>
   simp only [Ty.good] at h
   simp only [Ty.lp] at hp
   simp only [Ty.wr, Ty.rd, Flds.rd_wr fx ver fs l tags r hp h]
  | _ => simp only [Ty.good] at h
 | .nstruct _ _ _ fs _, d, r, hp, h => by
  have e1 : ∀ (r : List UInt8), Scal.i8.rd (255 :: r, false) = (-1, (r, false)) := fun r => by
   have := Scal.rd_wr (k := .i8) (n := -1) (by simp [Scal.ok]) r
   rwa [show Scal.i8.wr (-1) = [255] by decide] at this
  have e2 : ∀ (r : List UInt8), Scal.i8.rd (1 :: r, false) = (1, (r, false)) := fun r => by
   have := Scal.rd_wr (k := .i8) (n := 1) (by simp [Scal.ok]) r
   rwa [show Scal.i8.wr 1 = [1] by decide] at this
  cases d with
  | list o =>
   rcases o with _ | ⟨_ | ⟨d0, _ | ⟨d1, r⟩⟩⟩
   ·simp only [Ty.wr, Ty.rd, List.cons_append, List.nil_append, e1, true_or, if_true]
   ·simp only [Ty.good] at h
   ·cases d0 <;> simp only [Ty.good] at h
    simp only [Ty.lp] at hp
    simp only [Ty.wr, Ty.rd, List.cons_append, e2, Bool.false_eq_true, or_false]
    rw [if_neg (by decide), Flds.rd_wr fx ver fs _ _ r hp h]
   ·cases d0 <;> simp only [Ty.good] at h
  | _ => simp only [Ty.good] at h
theorem Flds.rd_wr (fx : Bool) (ver : Nat) : ∀ (fs : Flds) (l : List D) (tags : List (Nat × List UInt8)) (r : List UInt8), fs.lp fx ver = true → fs.good fx ver l tags → fs.rd fx ver (fs.wr fx ver l tags ++ r, false) = (l, tags, r, false)
 | .nil _, [], tags, r, hp, h => by
  simp only [Flds.good] at h
  cases fx with
  | true =>
   simp only [if_true] at h
   simp only [Flds.wr, Flds.rd, if_true, rdTags_wr h]
  | false =>
   simp only [Bool.false_eq_true, if_false] at h
   subst h
   simp [Flds.wr, Flds.rd]
 | .nil _, _ :: _, tags, r, hp, h => by simp [Flds.good] at h
 | .cons v t r', [], tags, r, hp, h => by simp [Flds.good] at h
 | .cons v t r', d :: l, tags, r, hp, h => by
  simp only [Flds.good] at h
  simp only [Flds.lp, Bool.and_eq_true, Bool.or_eq_true, Bool.not_eq_true'] at hp
  obtain ⟨h1, h2⟩ := h
  simp only [Flds.wr, Flds.rd, List.append_assoc]
  cases hv : v.has ver with
  | true =>
   simp only [hv, if_true] at h1 ⊢
   have hpt : t.lp fx ver = true := by
    rcases hp.1 with h | h
    ·rw [hv] at h; cases h
    ·exact h
   rw [Ty.rd_wr fx ver t d _ hpt h1]
   simp only
   rw [Flds.rd_wr fx ver r' l tags r hp.2 h2]
  | false =>
   simp only [hv, Bool.false_eq_true, if_false, List.nil_append] at h1 ⊢
   subst h1
   rw [Flds.rd_wr fx ver r' l tags r hp.2 h2]
end
end Go.Km
namespace Go.Km
open Go Go.RowKit
theorem sgn_rng {k n : Nat} (hk : 0 < k) (h : n < 256 ^ k) : -(2 ^ (8 * k - 1) : Nat) ≤ sgn k n ∧ sgn k n < (2 ^ (8 * k - 1) : Nat) := by
 have e : (256 : Nat) ^ k = 2 ^ (8 * k - 1) + 2 ^ (8 * k - 1) := by
  rw [show 256 = 2 ^ 8 from rfl, ← Nat.pow_mul, ← Nat.mul_two, ← Nat.pow_succ]
  congr 1
  omega
 have e2 : (2 : Int) ^ (8 * k) = ((256 ^ k : Nat) : Int) := by
  rw [show 256 = 2 ^ 8 from rfl, ← Nat.pow_mul]
  simp
 unfold sgn
 rw [e2]
 rw [e] at h ⊢
 generalize 2 ^ (8 * k - 1) = m at *
 split <;> omega
theorem Scal.rd_ok (k : Scal) (st : RSt) : k.ok (k.rd st).1 := by
 cases k with
 | bool =>
  simp only [Scal.rd, Scal.ok]
  split <;> simp
 | i8 => have := sgn_rng (k := 1) (by decide) (rdN_lt 1 st); simp only [Scal.rd, Scal.ok]; simp at this; omega
 | i16 => have := sgn_rng (k := 2) (by decide) (rdN_lt 2 st); simp only [Scal.rd, Scal.ok]; simp at this; omega
 | i32 => have := sgn_rng (k := 4) (by decide) (rdN_lt 4 st); simp only [Scal.rd, Scal.ok]; simp at this; omega
 | i64 => have := sgn_rng (k := 8) (by decide) (rdN_lt 8 st); simp only [Scal.rd, Scal.ok]; simp at this; omega
 | u16 => have := rdN_lt 2 st; simp only [Scal.rd, Scal.ok]; omega
 | f64 => have := rdN_lt 8 st; simp only [Scal.rd, Scal.ok]; omega
theorem rdN_len {k : Nat} {st : RSt} (h : (rdN k st).2.2 = false) : k + (rdN k st).2.1.length ≤ st.1.length := by
 unfold rdN at h ⊢
 split at h
 ·cases h
 ·rename_i hl
  rw [if_neg hl]
  simp only [List.length_drop]
  omega
theorem rdSpan_len {n : Int} {st : RSt} (h : (rdSpan n st).2.2 = false) : ((rdSpan n st).1.length : Int) = n ∧ (rdSpan n st).1.length + (rdSpan n st).2.1.length ≤ st.1.length := by
 unfold rdSpan at h ⊢
 split at h
 ·cases h
 ·rename_i hl
  rw [if_neg hl]
  simp only [List.length_drop, List.length_take]
  omega
theorem uvar_le {n k : Nat} (h : n < 4294967296) (hk : n ≤ k) : (Go.Km.uvar n).length ≤ (Go.Km.uvar k).length := by
 have key : ∀ (f a b : Nat), a ≤ b → (uvF f a).length ≤ (uvF f b).length := by
  intro f
  induction f with
  | zero => intro a b _; simp [uvF]
  | succ f ih =>
   intro a b hab
   rcases Nat.lt_or_ge a 128 with ha | ha
   ·rw [uvF_one ha]
    have := uvF_pos (f + 1) b
    simpa using this
   ·rw [uvF_more ha, uvF_more (by omega)]
    simp only [List.length_cons]
    have := ih (a / 128) (b / 128) (Nat.div_le_div_right hab)
    omega
 exact key 9 n k hk
theorem rdL_len {fx : Bool} {st : RSt} (h : (rdL fx st).2.2 = false) : ∀ n : Nat, (n : Int) = (rdL fx st).1 → (if fx then Go.Km.uvar (n + 1) else be 2 n).length + (rdL fx st).2.1.length ≤ st.1.length := by
 intro n hn
 cases fx with
 | true =>
  simp only [rdL, if_true, rdLc] at h hn ⊢
  have := rdUv_len h
  have e : n + 1 = (rdUv st).1 := by omega
  rw [e]
  exact this
 | false =>
  simp only [rdL, Bool.false_eq_true, if_false, rdL2] at h hn ⊢
  have := rdN_len h
  simp only [be_len]
  exact this
theorem rdLB_len {fx : Bool} {st : RSt} (h : (rdLB fx st).2.2 = false) : ∀ n : Nat, (n : Int) = (rdLB fx st).1 → (if fx then Go.Km.uvar (n + 1) else be 4 n).length + (rdLB fx st).2.1.length ≤ st.1.length := by
 intro n hn
 cases fx with
 | true =>
  simp only [rdLB, if_true, rdLc] at h hn ⊢
  have := rdUv_len h
  have e : n + 1 = (rdUv st).1 := by omega
  rw [e]
  exact this
 | false =>
  simp only [rdLB, Bool.false_eq_true, if_false, rdL4] at h hn ⊢
  have := rdN_len h
  simp only [be_len]
  exact this
theorem rdL_min {fx : Bool} {st : RSt} (h : (rdL fx st).2.2 = false) : (if fx then 1 else 2) + (rdL fx st).2.1.length ≤ st.1.length := by
 cases fx with
 | true =>
  simp only [rdL, if_true, rdLc] at h ⊢
  have := rdUv_len h
  have := uvar_pos1 (rdUv st).1
  omega
 | false =>
  simp only [rdL, Bool.false_eq_true, if_false, rdL2] at h ⊢
  exact rdN_len h
theorem rdLB_min {fx : Bool} {st : RSt} (h : (rdLB fx st).2.2 = false) : (if fx then 1 else 4) + (rdLB fx st).2.1.length ≤ st.1.length := by
 cases fx with
 | true =>
  simp only [rdLB, if_true, rdLc] at h ⊢
  have := rdUv_len h
  have := uvar_pos1 (rdUv st).1
  omega
 | false =>
  simp only [rdLB, Bool.false_eq_true, if_false, rdL4] at h ⊢
  exact rdN_len h
theorem rdL_rng (fx : Bool) (st : RSt) : (rdL fx st).1 < (if fx then 4294967295 else 32768) := by
 cases fx with
 | true =>
  simp only [rdL, if_true, rdLc]
  have := rdUv_lt st
  omega
 | false =>
  simp only [rdL, Bool.false_eq_true, if_false, rdL2]
  have := sgn2_rng st
  omega
theorem rdLB_rng (fx : Bool) (st : RSt) : (rdLB fx st).1 < (if fx then 4294967295 else 2147483648) := by
 cases fx with
 | true =>
  simp only [rdLB, if_true, rdLc]
  have := rdUv_lt st
  omega
 | false =>
  simp only [rdLB, Bool.false_eq_true, if_false, rdL4]
  have := sgn4_rng st
  omega
theorem strOk_of {fx : Bool} {l : List UInt8} {st : RSt} (h : (l.length : Int) = (rdL fx st).1) : strOk fx l := by
 have := rdL_rng fx st
 unfold strOk
 cases fx <;> simp only [Bool.false_eq_true, if_false, if_true] at this ⊢ <;> omega
theorem octOk_of {fx : Bool} {l : List UInt8} {st : RSt} (h : (l.length : Int) = (rdLB fx st).1) : octOk fx l := by
 have := rdLB_rng fx st
 unfold octOk
 cases fx <;> simp only [Bool.false_eq_true, if_false, if_true] at this ⊢ <;> omega
theorem i32_rng (n : Int) : -2147483648 ≤ IntKind.i32.wrap n ∧ IntKind.i32.wrap n ≤ 2147483647 := by
 have h2 : (2 : Int) ^ 32 = 4294967296 := by decide
 have h3 : (2 : Int) ^ (32 - 1) = 2147483648 := by decide
 simp only [IntKind.wrap, IntKind.bits, IntKind.signed, Bool.true_and, decide_eq_true_eq, h2, h3]
 split <;> omega
theorem rdCount_nb {p : Int × RSt} (h : (rdCount p).2.2 = false) : rdCount p = p := by
 unfold rdCount at h ⊢
 split at h
 ·cases h
 ·rename_i hh; rw [if_neg hh]
theorem rdCn_rng {fx : Bool} {st : RSt} (h : (rdCn fx st).2.2 = false) : (rdCn fx st).1 < 2147483648 := by
 cases fx with
 | true =>
  simp only [rdCn, if_true, rdCc, rdCount] at h ⊢
  split at h
  ·cases h
  ·rename_i hh
   rw [if_neg hh]
   have := i32_rng (IntKind.i32.wrap ((rdUv st).1 : Int) - 1)
   simp only
   omega
 | false =>
  have e : rdCn false st = rdL4 st := rdCount_nb h
  rw [e]
  have := sgn4_rng st
  show sgn 4 (rdN 4 st).1 < _
  omega
theorem rdCn_min {fx : Bool} {st : RSt} (h : (rdCn fx st).2.2 = false) : (if fx then 1 else 4) + (rdCn fx st).2.1.length ≤ st.1.length := by
 cases fx with
 | true =>
  simp only [rdCn, if_true, rdCc, rdCount] at h ⊢
  split at h
  ·cases h
  ·rename_i hh
   rw [if_neg hh]
   have h1 := rdUv_len h
   have h2 := uvar_pos1 (rdUv st).1
   simp only
   omega
 | false =>
  have e : rdCn false st = rdL4 st := rdCount_nb h
  rw [e] at h ⊢
  exact rdN_len (k := 4) h
theorem rdCn_len {fx : Bool} {st : RSt} (h : (rdCn fx st).2.2 = false) : ∀ n : Nat, (n : Int) = (rdCn fx st).1 → (wrLen fx n).length + (rdCn fx st).2.1.length ≤ st.1.length := by
 intro n hn
 have hr := rdCn_rng h
 cases fx with
 | true =>
  simp only [rdCn, if_true, rdCc, rdCount] at h hn hr ⊢
  split at h
  ·cases h
  ·rename_i hh
   rw [if_neg hh] at hn hr ⊢
   simp only at hn hr ⊢
   have h1 := rdUv_len h
   have h4 := rdUv_lt st
   have : n + 1 ≤ (rdUv st).1 := by
    have h2 : (2 : Int) ^ 32 = 4294967296 := by decide
    have h3 : (2 : Int) ^ (32 - 1) = 2147483648 := by decide
    simp only [IntKind.wrap, IntKind.bits, IntKind.signed, Bool.true_and, decide_eq_true_eq, h2, h3] at hn
    split at hn <;> split at hn <;> omega
   have := uvar_le (n := n + 1) (by omega) this
   simp only [wrLen, if_true]
   omega
 | false =>
  have := rdCn_min h
  simp only [wrLen, Bool.false_eq_true, if_false, be_len] at this ⊢
  exact this
def tagSum (l : List (Nat × List UInt8)) : Nat := (l.map wrTag).flatten.length
theorem tagSum_cons (x : Nat × List UInt8) (l : List (Nat × List UInt8)) : tagSum (x :: l) = (wrTag x).length + tagSum l := by simp [tagSum]
theorem setTag_sum (k : Nat) (v : List UInt8) : ∀ l, tagSum (setTag k v l) ≤ (wrTag (k, v)).length + tagSum l
 | [] => by simp [setTag, tagSum]
 | x :: l => by
  simp only [setTag]
  split
  ·rw [tagSum_cons]; exact Nat.le_refl _
  ·split
   ·rw [tagSum_cons, tagSum_cons]; omega
   ·have := setTag_sum k v l
    rw [tagSum_cons, tagSum_cons]; omega
theorem setTag_length (k : Nat) (v : List UInt8) : ∀ l, (setTag k v l).length ≤ l.length + 1
 | [] => by simp [setTag]
 | x :: l => by
  simp only [setTag]
  split
  ·simp
  ·split
   ·simp
   ·have := setTag_length k v l
    simp only [List.length_cons]; omega
theorem setTag_mem (k : Nat) (v : List UInt8) : ∀ l x, x ∈ setTag k v l → x = (k, v) ∨ x ∈ l
 | [], x, h => by simpa [setTag] using h
 | y :: l, x, h => by
  simp only [setTag] at h
  split at h
  ·simpa using h
  ·split at h
   ·rcases List.mem_cons.1 h with h | h
    ·exact .inl h
    ·exact .inr (by simp [h])
   ·rcases List.mem_cons.1 h with h | h
    ·exact .inr (by simp [h])
    ·rcases setTag_mem k v l x h with h | h
     ·exact .inl h
     ·exact .inr (by simp [h])
theorem setTag_sorted (k : Nat) (v : List UInt8) : ∀ l : List (Nat × List UInt8), l.Pairwise (fun x y => x.1 < y.1) → (setTag k v l).Pairwise (fun x y => x.1 < y.1)
 | [], _ => by simp [setTag]
 | y :: l, h => by
  have h2 := List.pairwise_cons.1 h
  simp only [setTag]
  split
  ·rename_i hk
   refine List.pairwise_cons.2 ⟨fun x hx => ?_, h⟩
   rcases List.mem_cons.1 hx with rfl | hx
   ·exact hk
   ·have := h2.1 x hx
    show k < x.1
    omega
  ·split
   ·rename_i h1 h3
    exact List.pairwise_cons.2 ⟨fun x hx => by have := h2.1 x hx; show k < x.1; omega, h2.2⟩
   ·rename_i h1 h3
    refine List.pairwise_cons.2 ⟨fun x hx => ?_, setTag_sorted k v l h2.2⟩
    rcases setTag_mem k v l x hx with rfl | hx
    ·show y.1 < k; omega
    ·exact h2.1 x hx
theorem rdTag_len {st : RSt} (h : (rdTag st).2.2 = false) : (wrTag (rdTag st).1).length + (rdTag st).2.1.length ≤ st.1.length ∧ (rdTag st).1.1 < 4294967296 ∧ (rdTag st).1.2.length < 4294967296 := by
 unfold rdTag at h ⊢
 simp only at h ⊢
 have h1 := rdSpan_len h
 have h2 := rdSpan_mono h
 have h3 := rdUv_len h2
 have h4 := rdUv_len (rdUv_mono h2)
 have h5 := rdUv_lt st
 have h6 := rdUv_lt (rdUv st).2
 have e : (rdSpan ((rdUv (rdUv st).2).1 : Int) (rdUv (rdUv st).2).2).1.length = (rdUv (rdUv st).2).1 := by omega
 refine ⟨?_, h5, by omega⟩
 simp only [wrTag, List.length_append]
 rw [e]
 omega
theorem rdTagsN_len : ∀ (n : Nat) (acc : List (Nat × List UInt8)) (st : RSt), (rdTagsN n acc st).2.2 = false → acc.Pairwise (fun x y => x.1 < y.1) → (∀ x ∈ acc, x.1 < 4294967296 ∧ x.2.length < 4294967296) →
  tagSum (rdTagsN n acc st).1 + (rdTagsN n acc st).2.1.length ≤ tagSum acc + st.1.length ∧ (rdTagsN n acc st).1.Pairwise (fun x y => x.1 < y.1) ∧ (∀ x ∈ (rdTagsN n acc st).1, x.1 < 4294967296 ∧ x.2.length < 4294967296) ∧ (rdTagsN n acc st).1.length ≤ acc.length + n
 | 0, acc, st, h, h1, h2 => ⟨Nat.le_refl _, h1, h2, by simp [rdTagsN]⟩
 | n + 1, acc, st, h, h1, h2 => by
  simp only [rdTagsN] at h ⊢
  have ht := rdTag_len (rdTagsN_mono n _ _ h)
  have ih := rdTagsN_len n _ _ h (setTag_sorted _ _ acc h1) (fun x hx => by
   rcases setTag_mem _ _ acc x hx with rfl | hx
   ·exact ht.2
   ·exact h2 x hx)
  have hs := setTag_sum (rdTag st).1.1 (rdTag st).1.2 acc
  have hl := setTag_length (rdTag st).1.1 (rdTag st).1.2 acc
  refine ⟨?_, ih.2.1, ih.2.2.1, ?_⟩
  ·have := ih.1
   have e : ((rdTag st).1.1, (rdTag st).1.2) = (rdTag st).1 := rfl
   rw [e] at hs
   omega
  ·have := ih.2.2.2
   omega
theorem rdTags_good {st : RSt} (h : (rdTags st).2.2 = false) : tagsGood (rdTags st).1 ∧ (wrTags (rdTags st).1).length + (rdTags st).2.1.length ≤ st.1.length := by
 unfold rdTags at h ⊢
 have h1 := rdTagsN_len _ _ _ h List.Pairwise.nil (fun x hx => by simp at hx)
 have h2 := rdUv_len (rdTagsN_mono _ _ _ h)
 have h3 := rdUv_lt st
 obtain ⟨g1, g2, g3, g4⟩ := h1
 simp only [List.length_nil, Nat.zero_add] at g4
 refine ⟨⟨⟨g2, fun x hx => (g3 x hx).1⟩, by omega, fun x hx => (g3 x hx).2⟩, ?_⟩
 have h5 := uvar_le (n := (rdTagsN (rdUv st).1 [] (rdUv st).2).1.length) (by omega) g4
 simp only [wrTags, List.length_append]
 have e : tagSum ([] : List (Nat × List UInt8)) = 0 := rfl
 rw [e] at g1
 unfold tagSum at g1
 omega
theorem rdMany_good {f : RSt → D × RSt} {g : D → List UInt8} {p : D → Prop} (hm : ∀ st, (f st).2.2 = false → st.2 = false) (hf : ∀ st, (f st).2.2 = false → p (f st).1 ∧ (g (f st).1).length + (f st).2.1.length ≤ st.1.length) :
  ∀ (n : Nat) (st : RSt), (rdMany f n st).2.2 = false → (∀ d ∈ (rdMany f n st).1, p d) ∧ ((rdMany f n st).1.map g).flatten.length + (rdMany f n st).2.1.length ≤ st.1.length
 | 0, st, h => by simp [rdMany]
 | n + 1, st, h => by
  simp only [rdMany] at h ⊢
  have ih := rdMany_good hm hf n _ h
  have h1 := hf st (rdMany_mono hm n _ h)
  refine ⟨fun d hd => ?_, ?_⟩
  ·rcases List.mem_cons.1 hd with rfl | hd
   ·exact h1.1
   ·exact ih.1 d hd
  ·simp only [List.map_cons, List.flatten_cons, List.length_append]
   have := ih.2
   have := h1.2
   omega
theorem rdMany_length (f : RSt → D × RSt) : ∀ (n : Nat) (st : RSt), (rdMany f n st).1.length = n
 | 0, _ => rfl
 | n + 1, st => by simp [rdMany, rdMany_length f n]
theorem rdNul_good {p : Int × RSt} (h : (rdNul p).2.2 = false) : (p.1 < 0 ∧ rdNul p = (none, p.2)) ∨ ∃ l : List UInt8, (l.length : Int) = p.1 ∧ (rdNul p).1 = some l ∧ l.length + (rdNul p).2.1.length ≤ p.2.1.length := by
 unfold rdNul at h ⊢
 by_cases hp : p.1 < 0
 ·rw [if_pos hp]; exact .inl ⟨hp, rfl⟩
 ·rw [if_neg hp] at h ⊢
  have := rdSpan_len h
  exact .inr ⟨_, this.1, rfl, this.2⟩
theorem Scal.rd_len {k : Scal} {st : RSt} (h : (k.rd st).2.2 = false) : (k.wr (k.rd st).1).length + (k.rd st).2.1.length ≤ st.1.length := by
 cases k <;> (have h' := rdN_len h; simp only [Scal.rd, Scal.wr, be_len, List.length_cons, List.length_nil]; exact h')
mutual
theorem Ty.rd_good (fx : Bool) (ver : Nat) : ∀ (t : Ty) (st : RSt), t.lp fx ver = true → (t.rd fx ver st).2.2 = false → t.good fx ver (t.rd fx ver st).1 ∧ (t.wr fx ver (t.rd fx ver st).1).length + (t.rd fx ver st).2.1.length ≤ st.1.length
 | .scal s _, st, hp, h | .named s _ _, st, hp, h => by
  simp only [Ty.rd] at h ⊢
  exact ⟨s.rd_ok st, Scal.rd_len h⟩
 | .uuid, st, hp, h => by
  simp only [Ty.rd] at h ⊢
  have := rdSpan_len h
  refine ⟨?_, ?_⟩
  ·simp only [Ty.good]; omega
  ·simp only [Ty.wr]; omega
 | .text, st, hp, h => by
  simp only [Ty.rd, rdStr] at h ⊢
  have h1 := rdSpan_len h
  have h2 := rdL_len (rdSpan_mono h) _ h1.1
  refine ⟨strOk_of h1.1, ?_⟩
  simp only [Ty.wr, wrStr, List.length_append]
  omega
 | .ntext, st, hp, h => by
  simp only [Ty.rd] at h ⊢
  rcases rdNul_good h with ⟨h1, e⟩ | ⟨l, h1, e, h2⟩
  ·rw [e] at h ⊢
   refine ⟨trivial, ?_⟩
   have := rdL_min (fx := fx) h
   simp only [Ty.wr, wrNStr]
   cases fx <;> simp only [Bool.false_eq_true, if_false, if_true, be_len, List.length_cons, List.length_nil] at this ⊢ <;> omega
  ·have h3 := rdL_len (rdNul_mono h) _ h1
   rw [e]
   refine ⟨strOk_of h1, ?_⟩
   simp only [Ty.wr, wrNStr, wrStr, List.length_append]
   omega
 | .ntextFrom N, st, hp, h => by
  simp only [Ty.rd] at h ⊢
  by_cases hN : ver < N
  ·rw [if_pos hN] at h ⊢
   simp only [rdStr] at h ⊢
   have h1 := rdSpan_len h
   have h2 := rdL_len (rdSpan_mono h) _ h1.1
   refine ⟨strOk_of h1.1, ?_⟩
   simp only [Ty.wr, if_pos hN, Option.getD_some, wrStr, List.length_append]
   omega
  ·rw [if_neg hN] at h ⊢
   rcases rdNul_good h with ⟨h1, e⟩ | ⟨l, h1, e, h2⟩
   ·rw [e] at h ⊢
    refine ⟨by simp only [Ty.good]; omega, ?_⟩
    have := rdL_min (fx := fx) h
    simp only [Ty.wr, if_neg hN, wrNStr]
    cases fx <;> simp only [Bool.false_eq_true, if_false, if_true, be_len, List.length_cons, List.length_nil] at this ⊢ <;> omega
   ·have h3 := rdL_len (rdNul_mono h) _ h1
    rw [e]
    refine ⟨strOk_of h1, ?_⟩
    simp only [Ty.wr, if_neg hN, wrNStr, wrStr, List.length_append]
    omega
 | .bytes, st, hp, h => by
  simp only [Ty.rd] at h ⊢
  by_cases hn : (rdLB fx st).1 = -1
  ·have e : rdOct (rdLB fx st) = (some [], (rdLB fx st).2) := by unfold rdOct; rw [if_pos hn]
   rw [e] at h ⊢
   have := rdLB_min (fx := fx) h
   refine ⟨?_, ?_⟩
   ·simp only [Ty.good, octOk]; cases fx <;> simp
   ·simp only [Ty.wr, wrBytes, Option.getD_some, List.append_nil]
    cases fx
    ·simp only [Bool.false_eq_true, if_false, be_len] at this ⊢; omega
    ·simp only [if_true] at this ⊢
     have e : (Go.Km.uvar ([] : List UInt8).length.succ).length = 1 := by decide
     have e2 : (Go.Km.uvar (([] : List UInt8).length + 1)).length = 1 := by decide
     omega
  ·have e : rdOct (rdLB fx st) = (some (rdSpan (rdLB fx st).1 (rdLB fx st).2).1, (rdSpan (rdLB fx st).1 (rdLB fx st).2).2) := by unfold rdOct; rw [if_neg hn]
   rw [e] at h ⊢
   have h1 := rdSpan_len h
   have h2 := rdLB_len (rdSpan_mono h) _ h1.1
   refine ⟨octOk_of h1.1, ?_⟩
   simp only [Ty.wr, wrBytes, Option.getD_some, List.length_append]
   have := h1.2
   omega
 | .nbytes, st, hp, h => by
  simp only [Ty.rd] at h ⊢
  rcases rdNul_good h with ⟨h1, e⟩ | ⟨l, h1, e, h2⟩
  ·rw [e] at h ⊢
   refine ⟨trivial, ?_⟩
   have := rdLB_min (fx := fx) h
   simp only [Ty.wr, wrNBytes]
   cases fx <;> simp only [Bool.false_eq_true, if_false, if_true, be_len, List.length_cons, List.length_nil] at this ⊢ <;> omega
  ·have h3 := rdLB_len (rdNul_mono h) _ h1
   rw [e]
   refine ⟨octOk_of h1, ?_⟩
   simp only [Ty.wr, wrNBytes, wrBytes, List.length_append]
   omega
 | .list TS null e, st, hp, h => by
  simp only [Ty.lp, Bool.and_eq_true] at hp
  have hnb : (rdCn fx st).2.2 = false := by
   simp only [Ty.rd] at h
   split at h
   ·exact h
   ·rename_i hh; simpa using hh
  have hmin := rdCn_min hnb
  have e0 : (Go.Km.uvar (0 + 1)).length = 1 := by decide
  by_cases hl : (rdCn fx st).1 ≤ 0
  ·have e : (Ty.list TS null e).rd fx ver st = (if emptyB null ver (rdCn fx st).1 then .list (some []) else .list none, (rdCn fx st).2) := by
    simp only [Ty.rd, hnb, Bool.false_eq_true, if_false]
    rw [if_pos hl]
   rw [e]
   simp only
   by_cases he : emptyB null ver (rdCn fx st).1 = true
   ·rw [if_pos he]
    refine ⟨⟨fun hn => ?_, by simp, fun d hd => by simp at hd⟩, ?_⟩
    ·subst hn; simp [emptyB] at he
    ·simp only [Ty.wr, wrLen, List.length_nil, List.map_nil, List.flatten_nil, List.append_nil]
     cases fx <;> simp only [Bool.false_eq_true, if_false, if_true, be_len] at hmin ⊢ <;> omega
   ·rw [if_neg he]
    refine ⟨?_, ?_⟩
    ·simp only [Ty.good]
     cases null with
     | none => exact .inl rfl
     | some N =>
      refine .inr ⟨N, rfl, ?_⟩
      simp only [emptyB, Bool.or_eq_true, decide_eq_true_eq, not_or] at he
      omega
    ·simp only [Ty.wr]
     split
     ·simp only [wrNull]
      cases fx <;> simp only [Bool.false_eq_true, if_false, if_true, be_len, List.length_cons, List.length_nil] at hmin ⊢ <;> omega
     ·simp only [wrLen]
      cases fx <;> simp only [Bool.false_eq_true, if_false, if_true, be_len] at hmin ⊢ <;> omega
  ·have e1 : (Ty.list TS null e).rd fx ver st = (.list (some (rdMany (fun s => e.rd fx ver s) (rdCn fx st).1.toNat (rdCn fx st).2).1), (rdMany (fun s => e.rd fx ver s) (rdCn fx st).1.toNat (rdCn fx st).2).2) := by
    simp only [Ty.rd, hnb, Bool.false_eq_true, if_false]
    rw [if_neg hl]
   rw [e1] at h ⊢
   have hg := rdMany_good (f := fun s => e.rd fx ver s) (g := fun d => e.wr fx ver d) (p := fun d => e.good fx ver d) (fun st h => Ty.rd_mono fx ver e st h) (fun st h => Ty.rd_good fx ver e st hp.2 h) _ _ h
   have hlen := rdMany_length (fun s => e.rd fx ver s) (rdCn fx st).1.toNat (rdCn fx st).2
   have hr := rdCn_rng hnb
   have hcl := rdCn_len hnb (rdCn fx st).1.toNat (by omega)
   refine ⟨⟨fun _ hn => ?_, by rw [hlen]; omega, hg.1⟩, ?_⟩
   ·rw [hn] at hlen; simp at hlen; omega
   ·simp only [Ty.wr, List.length_append]
    rw [hlen]
    have := hg.2
    omega
 | .struct _ _ _ fs, st, hp, h => by
  simp only [Ty.rd] at h ⊢
  simp only [Ty.lp] at hp
  have := Flds.rd_good fx ver fs st hp h
  exact ⟨this.1, this.2⟩
 | .nstruct _ _ _ fs _, st, hp, h => by
  simp only [Ty.lp] at hp
  by_cases hc : (Scal.i8.rd st).1 = -1 ∨ (Scal.i8.rd st).2.2 = true
  ·simp only [Ty.rd, if_pos hc] at h ⊢
   have := Scal.rd_len (k := .i8) h
   refine ⟨trivial, ?_⟩
   simp only [Scal.wr, be_len] at this
   simp only [Ty.wr, List.length_cons, List.length_nil]
   exact this
  ·simp only [Ty.rd, if_neg hc] at h ⊢
   have h0 := Flds.rd_mono fx ver fs _ h
   have h1 := Scal.rd_len (k := .i8) h0
   have h2 := Flds.rd_good fx ver fs _ hp h
   refine ⟨h2.1, ?_⟩
   simp only [Scal.wr, be_len] at h1
   have h3 := h2.2
   simp only [Ty.wr, List.length_cons]
   omega
theorem Flds.rd_good (fx : Bool) (ver : Nat) : ∀ (fs : Flds) (st : RSt), fs.lp fx ver = true → (fs.rd fx ver st).2.2.2 = false → fs.good fx ver (fs.rd fx ver st).1 (fs.rd fx ver st).2.1 ∧ (fs.wr fx ver (fs.rd fx ver st).1 (fs.rd fx ver st).2.1).length + (fs.rd fx ver st).2.2.1.length ≤ st.1.length
 | .nil _, st, hp, h => by
  cases fx with
  | true =>
   simp only [Flds.rd, if_true] at h ⊢
   have := rdTags_good h
   refine ⟨?_, ?_⟩
   ·simp only [Flds.good, if_true]; exact this.1
   ·simp only [Flds.wr, if_true]; exact this.2
  | false => simp [Flds.rd, Flds.good, Flds.wr]
 | .cons v t r, st, hp, h => by
  simp only [Flds.lp, Bool.and_eq_true, Bool.or_eq_true, Bool.not_eq_true'] at hp
  cases hv : v.has ver with
  | true =>
   have hpt : t.lp fx ver = true := by
    rcases hp.1 with h | h
    ·rw [hv] at h; cases h
    ·exact h
   have e : (Flds.cons v t r).rd fx ver st = ((t.rd fx ver st).1 :: (r.rd fx ver (t.rd fx ver st).2).1, (r.rd fx ver (t.rd fx ver st).2).2) := by simp only [Flds.rd, hv, if_true]
   rw [e] at h ⊢
   have h1 := Flds.rd_good fx ver r _ hp.2 h
   have h2 := Ty.rd_good fx ver t st hpt (Flds.rd_mono fx ver r _ h)
   refine ⟨?_, ?_⟩
   ·simp only [Flds.good, hv, if_true]
    exact ⟨h2.1, h1.1⟩
   ·simp only [Flds.wr, hv, if_true, List.length_append]
    have := h1.2
    have := h2.2
    omega
  | false =>
   have e : (Flds.cons v t r).rd fx ver st = (t.dflt :: (r.rd fx ver st).1, (r.rd fx ver st).2) := by simp only [Flds.rd, hv, Bool.false_eq_true, if_false]
   rw [e] at h ⊢
   have h1 := Flds.rd_good fx ver r _ hp.2 h
   refine ⟨?_, ?_⟩
   ·simp only [Flds.good, hv, Bool.false_eq_true, if_false]
    exact ⟨trivial, h1.1⟩
   ·simp only [Flds.wr, hv, Bool.false_eq_true, if_false, List.nil_append]
    exact h1.2
end
end Go.Km
namespace Go.Km
open Go Go.RowKit
attribute [local irreducible] vc rO_ runG runS runD
theorem back_again {m : Msg} (hk : m.kept = false) {ver : Nat} (hl : m.fs.lp (m.isFlex ver) ver = true) {l a : List UInt8} (h : m.back ver l = some a) : m.back ver a = some a ∧ a.length ≤ l.length := by
 have e : ∀ x, m.rst x = (x, false) := fun x => by simp [Msg.rst, hk]
 have hw : m.wfs = m.fs := by simp [Msg.wfs, hk]
 have ho : ∀ ds tags, m.out ver ds tags = m.fs.wr (m.isFlex ver) ver ds tags := fun ds tags => by simp [Msg.out, Msg.wdat, hw, hk]
 unfold Msg.back at h ⊢
 simp only [e, ho, Msg.rdv] at h ⊢
 cases hb : (m.fs.rd (m.isFlex ver) ver (l, false)).2.2.2 with
 | true => rw [hb] at h; simp at h
 | false =>
  rw [hb] at h
  simp only [Bool.false_eq_true, if_false, Option.some.injEq] at h
  have hg := Flds.rd_good (m.isFlex ver) ver m.fs (l, false) hl hb
  have hr := Flds.rd_wr (m.isFlex ver) ver m.fs _ _ [] hl hg.1
  rw [h, List.append_nil] at hr
  rw [hr]
  refine ⟨?_, ?_⟩
  ·simp only [Bool.false_eq_true, if_false, h]
  ·have := hg.2
   rw [h] at this
   simp only at this
   omega
theorem back_wr {m : Msg} (hk : m.kept = false) {ver : Nat} (hl : m.fs.lp (m.isFlex ver) ver = true) {ds : List D} {tags : List (Nat × List UInt8)} (h : m.fs.good (m.isFlex ver) ver ds tags) : m.back ver (m.fs.wr (m.isFlex ver) ver ds tags) = some (m.fs.wr (m.isFlex ver) ver ds tags) := by
 have e : ∀ x, m.rst x = (x, false) := fun x => by simp [Msg.rst, hk]
 have hw : m.wfs = m.fs := by simp [Msg.wfs, hk]
 have ho : ∀ ds tags, m.out ver ds tags = m.fs.wr (m.isFlex ver) ver ds tags := fun ds tags => by simp [Msg.out, Msg.wdat, hw, hk]
 have hr := Flds.rd_wr (m.isFlex ver) ver m.fs ds tags [] hl h
 rw [List.append_nil] at hr
 unfold Msg.back
 simp only [e, ho, Msg.rdv, hr, Bool.false_eq_true, if_false]
theorem back_cut {m : Msg} (hk : m.kept = false) {ver : Nat} (hl : m.fs.lp (m.isFlex ver) ver = true) {ds : List D} {tags : List (Nat × List UInt8)} (h : m.fs.good (m.isFlex ver) ver ds tags) {n : Nat} (hn : n < (m.fs.wr (m.isFlex ver) ver ds tags).length) :
  m.back ver ((m.fs.wr (m.isFlex ver) ver ds tags).take n) = none := by
 have e : ∀ x, m.rst x = (x, false) := fun x => by simp [Msg.rst, hk]
 have hr := Flds.rd_wr (m.isFlex ver) ver m.fs ds tags [] hl h
 rw [List.append_nil] at hr
 generalize m.fs.wr (m.isFlex ver) ver ds tags = b at *
 unfold Msg.back
 simp only [e, Msg.rdv]
 cases hb : (m.fs.rd (m.isFlex ver) ver (b.take n, false)).2.2.2 with
 | true => simp
 | false =>
  have hx := Flds.rd_ext (m.isFlex ver) ver m.fs (b.take n) (b.drop n) hb
  rw [List.take_append_drop, hr] at hx
  have h2 := congrArg (fun x => x.2.2.1.length) hx
  simp only [List.length_nil, List.length_append, List.length_drop] at h2
  omega
def BytesIn (P : Program) (E : Env) (W : World) (sv : Value) (l : List UInt8) : Prop :=
 (∃ ad cap, sv = .slice ad l.length cap) ∧ ∀ w', Below W.heap.size W w' → Src P 1 E.tB sv l.length (l.map bv) w'
theorem RowB.bytesIn {P : Program} {E : Env} (HB : rowB P E.tB E.tU8 1 = true) {W : World} {sv : Value} {l : List UInt8} (h : RowB W sv l) : BytesIn P E W sv l :=
 ⟨h.form, fun w' hb => (h.below hb).src (rB HB)⟩
theorem BytesIn.below {P : Program} {E : Env} {W W' : World} {sv : Value} {l : List UInt8} (h : BytesIn P E W sv l) (hb : Below W.heap.size W W') : BytesIn P E W' sv l :=
 ⟨h.1, fun w' hb' => h.2 w' (hb.trans (hb'.mono hb.size))⟩
def AgainC (P : Program) (E : Env) (m : Msg) (f : FuncId) (mx : Nat) : Prop :=
 ∀ (ver : Nat) (l : List UInt8) (sv ev : Value) (W : World), ver ≤ mx → BytesIn P E W sv l → l.length ≤ big → W.cell? ⟨E.vErr, 0, none⟩ = some ev → (∃ u z, ev = .iface u z) →
  CallsV P f #[.int .i64 ver, sv] W fun r w' => BackV E (m.back ver l) W w' r
def lpB (m : Msg) (mx : Nat) : Bool := (List.range (mx + 1)).all fun v => m.fs.lp (m.isFlex v) v
theorem lpB_at {m : Msg} {mx ver : Nat} (h : lpB m mx = true) (hv : ver ≤ mx) : m.fs.lp (m.isFlex ver) ver = true := List.all_eq_true.1 h ver (List.mem_range.2 (by omega))
theorem againC {P : Program} {E : Env} {T : List (Nat × List UInt8) → Prop} (HW : EnvW P E T) (HI : EnvI P E) (HB : rowB P E.tB E.tU8 1 = true) (i16 : intT P E.tI16 = some .i16) (ii : intT P E.tI = some .i64) (o16 : oneT P E.tI16 = true) (oE : ifaceT P E.tErr = true) {m : Msg} {N : MR} {np nt nps nts npa nta mx : Nat}
  (ht : Text P N.again np nt #[.tmp 4, .tmp 5] (c_again E m N)) (hn : 19 ≤ nt) (hN : NewC P N.newPtr m) (hs : Text P N.setV nps nts #[] (c_setV E m)) (hns : 8 ≤ nts) (ho : fieldOff P m.TU 0 = some 0) (hR : ReadC P E T m N.rd)
  (ha : Text P N.app npa nta #[.tmp 4] (m.wcode E)) (hna : m.wtop ≤ nta) (hokw : m.okW P E = true) (hk : m.kept = false) (hmx : mx < 32768) (hlp : lpB m mx = true) : AgainC P E m N.again mx :=
 fun ver l sv ev W hv hin hl he hev => c_again_ok HW HI HB i16 ii o16 oE ht hn hN hs hns ho hR ha hna hokw hk (by omega) hin.2 hl he hev (fun x hx => Nat.le_trans (back_again hk (lpB_at hlp hv) hx).2 hl)
def c_implMaxA (E : Env) (m : Msg) (np mv : FuncId) : Code :=
 sq [rg [oAssign 0 (.const (.int .i64 0)) E.tI], rg [oCall (some 1) np #[] #[] m.TP, oCall (some 2) mv #[.tmp 1] #[m.TP] E.tI16, oConv 3 E.tI16 E.tI (.tmp 2), oAssign 0 (.tmp 3) E.tI], .ret]
section
variable {P : Program} {E : Env}
theorem c_implMaxA_ok {m : Msg} {F npf mvf : FuncId} {np nt mx : Nat} (i16 : intT P E.tI16 = some .i16) (ii : intT P E.tI = some .i64) (ht : Text P F np nt #[.tmp 0] (c_implMaxA E m npf mvf)) (hn : 4 ≤ nt) (hN : NewC P npf m) (hM : ∀ x w, CallsV P mvf #[x] w fun v w' => v = .int .i16 mx ∧ w' = w) (hmx : mx < 32768) (w : World) :
  CallsV P F #[] w fun v w' => v = .int .i64 mx ∧ Below w.heap.size w w' := by
 refine CallsV.enter ht (by simp) ?_
 intro a hsz hdf harg
 unfold c_implMaxA
 refine vX (rA (dn (vX ?_)))
 refine r_call' (args := #[]) (by simp) (hN w) ?_
 rintro v w1 ⟨rfl, hb1, _⟩
 refine r_call' (args := #[.pointer (some ⟨w.heap.size, 0, none⟩)]) ?_ (hM _ w1) ?_
 ·simp only [lM]
  simp (disch := (try simp only [sP]); omega) only [eV]
 rintro v w2 ⟨rfl, rfl⟩
 refine r_conv (k := .i16) (k' := .i64) (m := (mx : Int)) i16 ii (by simp (disch := (try simp only [sP]); omega) only [eV]) ?_
 rw [wrap_i64 (by omega) (by omega)]
 refine rA (dn (vS (vT ?_)))
 exact ⟨by simp only [dF]; exact hdf, .int .i64 mx, rO (by simp (disch := (try simp only [sP]); omega) only [eV]), rfl, hb1⟩
end
end Go.Km
namespace Go.Km
open Go Go.RowKit Go.ChangeShapes Go.WideShapes Go.ChangeAt
section
variable {H : Type} {enc : TypeId × Value → H} {P : Program} {E : Env}
theorem u8_nat' {a : Int} (h : (Lit.int .u8 a).wf = true) : ∃ n : Nat, a = (n : Int) ∧ n < 256 := by
 have h2 : IntKind.u8.min ≤ a ∧ a ≤ IntKind.u8.max := by
  simpa [Lit.wf] using h
 have e1 : IntKind.u8.min = 0 := by decide
 have e2 : IntKind.u8.max = 255 := by decide
 rw [e1, e2] at h2
 exact ⟨a.toNat, by omega, by omega⟩
theorem trodAll_below (hl : laidOutB P = true) {W W' : World} (hb : Below W.heap.size W W') : ∀ {ts : List TypeId} {vs : List Value} {ds : List (DataW H)} {ps : List MemPlace},
  (∀ t ∈ ts, P.readableRec t = true ∧ t < P.types.size) → DataW.TrodAll enc P W 0 (fun _ => true) true ts vs ds ps → (∀ x ∈ ps, x.block < W.heap.size) → DataW.TrodAll enc P W' 0 (fun b => decide (b < W.heap.size)) true ts vs ds ps
 | [], vs, ds, ps, _, h, _ => by
  obtain ⟨rfl, rfl, rfl⟩ := trodAll_nil h
  exact trodAll_mk0
 | t :: ts, vs, ds, ps, hr, h, hlt => by
  obtain ⟨v, vs', d, ds', p, q, rfl, rfl, rfl, h1, h2⟩ := trodAll_cons h
  have ht := hr t (by simp)
  exact trodAll_cons_mk (Below.trod hl ht.1 ht.2 h1 hb (fun x hx => hlt x (by simp [hx]))) (trodAll_below hl hb (fun t ht => hr t (by simp [ht])) h2 (fun x hx => hlt x (by simp [hx])))
theorem boolPost {f : Func} {s : ChangeSpec} {apart : Bool} {W W' : World} {args : Array Value} {ds gs : List (DataW H)} {before : List MemPlace} {tb : TypeId} (hW : DataW.Whole enc P f.params.toList s.vars apart W args.toList ds gs before) (hvars : s.vars = [])
  (hl : laidOutB P = true) (hr : ∀ t ∈ f.params.toList, P.readableRec t = true ∧ t < P.types.size) (hb : Below W.heap.size W W') (hrt : f.resultTypes = #[tb]) (hub : P.underlying tb = some .bool) (hfn : s.fn H ds = { results := [.lit (.bool true)], args := ds }) :
  s.post enc P f apart true false false W args (.bool true) W' := by
 have hW' := hW
 have hlt := hW.lt
 obtain ⟨p, q, hA, hV, rfl, _, _⟩ := hW
 rw [hvars] at hV
 obtain ⟨rfl, rfl⟩ := trodVars_none hV
 refine ⟨ds, [], _, [], p, [], hW', ?_, ?_, ?_, hb.frame _, fun h => by cases h⟩
 ·rw [List.append_nil, hfn, hrt]
  exact trodAll_mk1 (shut_bool hub _)
 ·rw [List.append_nil, hfn]
  exact trodAll_below hl hb hr hA (fun x hx => hlt x (by simp [hx]))
 ·rw [List.append_nil, hfn, hvars]
  rfl
theorem laid_ev {W : World} {name nm : String} {d : DataW Unit} {g : Nat} {ti : TypeId} (hg : P.globalNamed name = some g) (hti : (P.globals[g]?).map (·.type) = some ti) (hi : ifaceT P ti = true) (hnh : (DataW.iface nm d : DataW Unit).handleName?.isNone = true)
  (h : laidMetH P [(name, .iface nm d)] W) : ∃ ev, W.cell? ⟨g, 0, none⟩ = some ev ∧ ∃ u z, ev = .iface u z := by
 rw [MakeChecks.laidMetH_plain _ _ _ (by simpa using hnh)] at h
 obtain ⟨ps, ⟨g', t, cs, fuel, p, q, h1, h2, h3, h4, _⟩, _⟩ := h
 rw [hg] at h1
 cases h1
 rw [hti] at h2
 cases h2
 obtain ⟨ms, hu⟩ : ∃ ms, P.underlying ti = some (.interface ms) := by
  unfold ifaceT at hi
  split at hi
  ·rename_i ms h; exact ⟨ms, h⟩
  ·cases hi
 obtain ⟨_, u, v, hcs, _, _⟩ := iface_of_trod hu h4
 refine ⟨.iface u v, ?_, u, v, rfl⟩
 have hcs' : cs = #[.iface u v] := Array.ext' hcs
 subst hcs'
 unfold World.var? at h3
 rw [hg] at h3
 simp only [Option.bind_some] at h3
 split at h3
 ·rename_i c T fr hh
  simp only [Option.some.injEq] at h3
  subst h3
  simp [World.cell?, hh]
 ·cases h3
end
end Go.Km
namespace Go.Km
open Go Go.RowKit Go.ChangeMaps
attribute [local irreducible] vc rO_ runG runS runD
theorem setTag_new (k : Nat) (v : List UInt8) : ∀ l : List (Nat × List UInt8), (∀ x ∈ l, x.1 ≠ k) → (setTag k v l).Perm ((k, v) :: l)
 | [], _ => List.Perm.refl _
 | x :: l, h => by
  simp only [setTag]
  split
  ·exact List.Perm.refl _
  ·rw [if_neg (fun e => h x (by simp) e.symm)]
   exact ((setTag_new k v l (fun y hy => h y (by simp [hy]))).cons x).trans (List.Perm.swap _ _ _)
theorem setTag_old (k : Nat) (v u : List UInt8) : ∀ l : List (Nat × List UInt8), l.Pairwise (fun x y => x.1 < y.1) → (k, u) ∈ l → ∃ rest, l.Perm ((k, u) :: rest) ∧ (setTag k v l).Perm ((k, v) :: rest)
 | [], _, h => by simp at h
 | x :: l, hs, h => by
  have h2 := List.pairwise_cons.1 hs
  rcases List.mem_cons.1 h with rfl | h
  ·refine ⟨l, List.Perm.refl _, ?_⟩
   simp only [setTag]
   rw [if_neg (Nat.lt_irrefl k), if_true]
  ·have hlt : x.1 < k := h2.1 _ h
   obtain ⟨rest, h3, h4⟩ := setTag_old k v u l h2.2 h
   refine ⟨x :: rest, (h3.cons x).trans (List.Perm.swap _ _ _), ?_⟩
   simp only [setTag]
   rw [if_neg (by omega), if_neg (by omega)]
   exact (h4.cons x).trans (List.Perm.swap _ _ _)
theorem setTag_mem' (k : Nat) (v : List UInt8) : ∀ l x, x ∈ setTag k v l → x = (k, v) ∨ x ∈ l
 | [], x, h => by simpa [setTag] using h
 | y :: l, x, h => by
  simp only [setTag] at h
  split at h
  ·simpa using h
  ·split at h
   ·rcases List.mem_cons.1 h with h | h
    ·exact .inl h
    ·exact .inr (by simp [h])
   ·rcases List.mem_cons.1 h with h | h
    ·exact .inr (by simp [h])
    ·rcases setTag_mem' k v l x h with h | h
     ·exact .inl h
     ·exact .inr (by simp [h])
theorem setTag_ok {k : Nat} {v : List UInt8} (hk : k < 4294967296) : ∀ l : List (Nat × List UInt8), TagsOk l → TagsOk (setTag k v l) := by
 have key : ∀ l : List (Nat × List UInt8), l.Pairwise (fun x y => x.1 < y.1) → (setTag k v l).Pairwise (fun x y => x.1 < y.1) := by
  intro l
  induction l with
  | nil => intro _; simp [setTag]
  | cons y l ih =>
   intro h
   have h2 := List.pairwise_cons.1 h
   simp only [setTag]
   split
   ·rename_i hk
    refine List.pairwise_cons.2 ⟨fun x hx => ?_, h⟩
    rcases List.mem_cons.1 hx with rfl | hx
    ·exact hk
    ·have := h2.1 x hx
     show k < x.1
     omega
   ·split
    ·rename_i h1 h3
     exact List.pairwise_cons.2 ⟨fun x hx => by have := h2.1 x hx; show k < x.1; omega, h2.2⟩
    ·rename_i h1 h3
     refine List.pairwise_cons.2 ⟨fun x hx => ?_, ih h2.2⟩
     rcases setTag_mem' k v l x hx with rfl | hx
     ·show y.1 < k; omega
     ·exact h2.1 x hx
 rintro l ⟨h1, h2⟩
 refine ⟨key l h1, fun x hx => ?_⟩
 rcases setTag_mem' k v l x hx with rfl | hx
 ·exact hk
 ·exact h2 x hx
theorem perm_erase {α : Type} : ∀ (l : List α) (i : Nat) (h : i < l.length) (a : α), (l[i] :: l.eraseIdx i).Perm l ∧ (l.set i a).Perm (a :: l.eraseIdx i)
 | [], i, h, a => by simp at h
 | x :: l, 0, h, a => by simp
 | x :: l, i + 1, h, a => by
  have ih := perm_erase l i (by simpa using h) a
  simp only [List.getElem_cons_succ, List.eraseIdx_cons_succ, List.set_cons_succ]
  exact ⟨(List.Perm.swap _ _ _).trans (ih.1.cons x), (ih.2.cons x).trans (List.Perm.swap _ _ _)⟩
def updL (k : Nat) (v : List UInt8) (l : List (Nat × List UInt8)) : List (Nat × List UInt8) := match l.findIdx? (·.1 == k) with | none => l ++ [(k, v)] | some i => l.set i (k, v)
theorem updL_perm {k : Nat} {v : List UInt8} {l tags : List (Nat × List UInt8)} (h : l.Perm tags) (hs : tags.Pairwise (fun x y => x.1 < y.1)) : (updL k v l).Perm (setTag k v tags) := by
 unfold updL
 cases hf : l.findIdx? (·.1 == k) with
 | none =>
  have hn := List.findIdx?_eq_none_iff.1 hf
  refine (List.perm_append_singleton _ _).trans (((h.cons (k, v))).trans (setTag_new k v tags (fun x hx e => ?_)).symm)
  have := hn x (h.mem_iff.2 hx)
  simp [e] at this
 | some i =>
  obtain ⟨hi, hk, _⟩ := List.findIdx?_eq_some_iff_getElem.1 hf
  have hk : (l[i]).1 = k := by simpa using hk
  obtain ⟨u, hu⟩ : ∃ u, l[i] = (k, u) := ⟨(l[i]).2, by rw [← hk]⟩
  have hm : (k, u) ∈ tags := h.mem_iff.1 (by rw [← hu]; exact List.getElem_mem hi)
  obtain ⟨rest, h3, h4⟩ := setTag_old k v u tags hs hm
  have h5 : ((k, u) :: l.eraseIdx i).Perm l := by rw [← hu]; exact (perm_erase l i hi (k, v)).1
  have h6 : (l.eraseIdx i).Perm rest := (h5.trans (h.trans h3)).cons_inv
  exact (perm_erase l i hi (k, v)).2.trans ((h6.cons (k, v)).trans h4.symm)
def MapIs (w : World) (sb q : Nat) (l : List (Nat × List UInt8)) : Prop :=
 ∃ es clock, w.heap[q]? = some (.map es clock) ∧ (∀ e ∈ es.toList, e.born < clock) ∧ (es.toList.map (·.born)).Nodup ∧ l.length = es.size ∧
  ∀ (i : Nat) (x : Nat × List UInt8), l[i]? = some x → ∃ e : MapEntry, es[i]? = some e ∧ e.key = .int .u32 x.1 ∧ SrcV w sb e.val x.2
def TagM (w : World) (sb B : Nat) (v : Value) (tags : List (Nat × List UInt8)) : Prop :=
 TagsOk tags ∧ ((v = .map none ∧ tags = []) ∨ ∃ q l, v = .map (some q) ∧ B ≤ q ∧ q < w.heap.size ∧ MapIs w sb q l ∧ l.Perm tags)
theorem TagM.rep {w : World} {sb B : Nat} {v : Value} {tags : List (Nat × List UInt8)} (h : TagM w sb B v tags) (hs : sb < w.heap.size) : TagsRep w ⟨sb, fun _ => True⟩ B v tags := by
 obtain ⟨h1, h2⟩ := h
 refine ⟨h1, trivial, ?_⟩
 rcases h2 with h2 | ⟨q, l, hv, hq, hqs, ⟨es, clock, hm, hb, hn, hl, he⟩, hp⟩
 ·exact .inl h2
 ·refine .inr ⟨q, es, clock, hv, hq, hqs, hm, hb, hn, l, hp, hl, fun i x hx => ?_⟩
  obtain ⟨e, e1, e2, e3⟩ := he i x hx
  refine ⟨e, e1, e2, ?_⟩
  rcases e3 with ⟨e3, e4⟩ | ⟨o, cap, e3, _, e4⟩
  ·exact .inl ⟨e3, e4⟩
  ·exact .inr ⟨sb, o, cap, e3, .inl rfl, hs, e4⟩
theorem TagM.heap {w w' : World} {sb B : Nat} {v : Value} {tags : List (Nat × List UInt8)} (h : TagM w sb B v tags) (hs : w'.heap[sb]? = w.heap[sb]?) (hz : w.heap.size ≤ w'.heap.size) (hk : ∀ q, v = .map (some q) → w'.heap[q]? = w.heap[q]?) : TagM w' sb B v tags := by
 obtain ⟨h1, h2⟩ := h
 refine ⟨h1, ?_⟩
 rcases h2 with h2 | ⟨q, l, hv, hq, hqs, ⟨es, clock, hm, hb, hn, hl, he⟩, hp⟩
 ·exact .inl h2
 ·refine .inr ⟨q, l, hv, hq, by omega, ⟨es, clock, by rw [hk q hv]; exact hm, hb, hn, hl, fun i x hx => ?_⟩, hp⟩
  obtain ⟨e, e1, e2, e3⟩ := he i x hx
  exact ⟨e, e1, e2, e3.heap hs⟩
section
variable {P : Program}
theorem findNow_keys : ∀ (es : List MapEntry) (l : List (Nat × List UInt8)) (j k : Nat), l.length = es.length → (∀ (i : Nat) x, l[i]? = some x → ∃ e : MapEntry, es[i]? = some e ∧ e.key = .int .u32 (x.1 : Int)) →
  Instr.findNow (.int .u32) (.int .u32 (k : Int)) es j = some ((l.findIdx? (·.1 == k)).bind fun i => (es[i]?).map fun e => (i + j, e.val))
 | [], [], j, k, _, _ => rfl
 | [], _ :: _, j, k, h, _ => by simp at h
 | _ :: _, [], j, k, h, _ => by simp at h
 | e :: es, x :: l, j, k, hl, h => by
  obtain ⟨e', he, hk⟩ := h 0 x rfl
  simp only [List.getElem?_cons_zero, Option.some.injEq] at he
  subst he
  unfold Instr.findNow
  rw [hk]
  simp only [Instr.sameNow, if_true]
  rw [List.findIdx?_cons]
  by_cases hx : x.1 = k
  ·have h1 : ((k : Int) == (x.1 : Int)) = true := by simp [hx]
   have h2 : (x.1 == k) = true := by simp [hx]
   rw [h1, h2]
   simp
  ·have h1 : ((k : Int) == (x.1 : Int)) = false := by simp; omega
   have h2 : (x.1 == k) = false := by simp [hx]
   rw [h1, h2]
   simp only [Bool.false_eq_true, if_false]
   rw [findNow_keys es l (j + 1) k (by simpa using hl) (fun i y hy => h (i + 1) y (by simpa using hy))]
   cases l.findIdx? (·.1 == k) with
   | none => rfl
   | some i =>
    simp only [Option.map_some, Option.bind_some, List.getElem?_cons_succ]
    cases es[i]? with
    | none => rfl
    | some e => simp only [Option.map_some, Option.some.injEq, Prod.mk.injEq, and_true]; omega
theorem run_checkKey {kt : TypeId} {k : Nat} {w : World} {b : Bool} (hk : P.underlying kt = some (.int .u32)) : (Instr.checkKey b 10000 kt (.int .u32 (k : Int))).run P w = .ok () w := by
 have h : ∀ n : Nat, (Instr.checkKey b (n + 1) kt (.int .u32 (k : Int))).run P w = .ok () w := fun n => by simp [Instr.checkKey, run_underlying hk]
 exact h 9999
theorem run_findKey {kt : TypeId} {k : Nat} {w : World} {es : List MapEntry} {l : List (Nat × List UInt8)} (hk : P.underlying kt = some (.int .u32)) (hl : l.length = es.length) (h : ∀ (i : Nat) x, l[i]? = some x → ∃ e : MapEntry, es[i]? = some e ∧ e.key = .int .u32 (x.1 : Int)) :
  (Instr.findKey kt (.int .u32 (k : Int)) es).run P w = .ok ((l.findIdx? (·.1 == k)).bind fun i => (es[i]?).map fun e => (i, e.val)) w := by
 simp only [Instr.findKey, Sem.run_bind, run_underlying hk, Result.andThen_ok, findNow_keys es l 0 k hl h, Sem.run_pure, Nat.add_zero]
theorem run_setObj_map {w : World} {q : Nat} {es : Array MapEntry} {clock : Nat} (hq : w.heap[q]? = some (.map es clock)) (o : Obj) : (setObj q o).run P w = .ok () (setBlock w q o) := by
 simp [setObj, Sem.run, hq, setBlock]
theorem run_mapSet {t kt et : TypeId} {w : World} {sb q k : Nat} {l : List (Nat × List UInt8)} {val : Value} {v : List UInt8} (ht : P.underlying t = some (.map kt et)) (hk : P.underlying kt = some (.int .u32)) (hm : MapIs w sb q l) (hs : sb ≠ q) (hv : SrcV w sb val v) :
  ∃ o, (Instr.mapUpdate t (.map (some q)) (.int .u32 (k : Int)) val).run P w = .ok () (setBlock w q o) ∧ MapIs (setBlock w q o) sb q (updL k v l) := by
 obtain ⟨es, clock, hq, hb, hn, hl, he⟩ := hm
 have hqs : q < w.heap.size := (Array.getElem?_eq_some_iff.1 hq).1
 have hsb : ∀ o, (setBlock w q o).heap[sb]? = w.heap[sb]? := fun o => by
  simp only [setBlock]
  rw [Array.getElem?_setIfInBounds_ne (Ne.symm hs)]
 have hqq : ∀ o, (setBlock w q o).heap[q]? = some o := fun o => by
  simp only [setBlock]
  rw [Array.getElem?_setIfInBounds_self_of_lt hqs]
 have hg : (getObj q).run P w = .ok (.map es clock) w := by simp [getObj, Sem.run, hq]
 have hfk := run_findKey (P := P) (k := k) (w := w) (es := es.toList) (l := l) hk (by simpa using hl) (fun i x hx => by obtain ⟨e, e1, e2, _⟩ := he i x hx; exact ⟨e, by simpa using e1, e2⟩)
 cases hf : l.findIdx? (·.1 == k) with
 | none =>
  rw [hf] at hfk
  refine ⟨.map (es.push { key := .int .u32 (k : Int), val := val, born := clock }) (clock + 1), ?_, ?_⟩
  ·simp only [Instr.mapUpdate, Sem.run_bind, run_underlying ht, Result.andThen_ok, hg, run_checkKey hk, hfk, Option.bind_none, run_setObj_map hq]
  ·refine ⟨_, _, hqq _, ?_, ?_, ?_, ?_⟩
   ·intro e h
    simp only [Array.toList_push, List.mem_append, List.mem_cons, List.not_mem_nil, or_false] at h
    rcases h with h | rfl
    ·have := hb e h; omega
    ·show clock < clock + 1; omega
   ·simp only [Array.toList_push, List.map_append, List.map_cons, List.map_nil]
    refine List.nodup_append.2 ⟨hn, by simp, ?_⟩
    intro a ha b hb2 hab
    simp only [List.mem_cons, List.not_mem_nil, or_false] at hb2
    obtain ⟨e, h1, rfl⟩ := List.mem_map.1 ha
    have := hb e h1
    omega
   ·simp [updL, hf, hl]
   ·intro i x hx
    simp only [updL, hf] at hx
    rcases Nat.lt_or_ge i l.length with h | h
    ·rw [List.getElem?_append_left h] at hx
     obtain ⟨e, e1, e2, e3⟩ := he i x hx
     exact ⟨e, by rw [Array.getElem?_push_lt (by omega), ← e1, Array.getElem?_eq_getElem (by omega)], e2, e3.heap (hsb _)⟩
    ·rw [List.getElem?_append_right h] at hx
     have h0 : i - l.length = 0 := by
      rcases Nat.eq_zero_or_pos (i - l.length) with h | h
      ·exact h
      ·rw [List.getElem?_eq_none (by simp; omega)] at hx; cases hx
     rw [h0] at hx
     simp only [List.getElem?_cons_zero, Option.some.injEq] at hx
     subst hx
     have : i = es.size := by omega
     subst this
     exact ⟨{ key := .int .u32 (k : Int), val := val, born := clock }, by simp, rfl, hv.heap (hsb _)⟩
 | some i =>
  obtain ⟨hi, hik, _⟩ := List.findIdx?_eq_some_iff_getElem.1 hf
  have hik : (l[i]).1 = k := by simpa using hik
  obtain ⟨e0, f1, f2, f3⟩ := he i l[i] (List.getElem?_eq_getElem hi)
  have hie : i < es.size := by omega
  rw [hf] at hfk
  have hkey : e0.key = .int .u32 (k : Int) := by rw [f2, hik]
  have hst : (Instr.keyThatStays (.int .u32 (k : Int)) (.int .u32 (k : Int))).run P w = .ok (.int .u32 (k : Int)) w := by
   have : Instr.sameBits 10000 (.int .u32 (k : Int)) (.int .u32 (k : Int)) = true := by simp [Instr.sameBits]
   simp only [Instr.keyThatStays, this, if_true, Sem.run_pure]
  refine ⟨.map (es.modify i fun e => { e with key := .int .u32 (k : Int), val := val }) clock, ?_, ?_⟩
  ·simp only [Instr.mapUpdate, Sem.run_bind, run_underlying ht, Result.andThen_ok, hg, run_checkKey hk, hfk, Option.bind_some, Array.getElem?_toList, f1, Option.map_some, Option.getD_some, hkey, hst, run_setObj_map hq]
  ·have hborn : (es.modify i fun e => { e with key := .int .u32 (k : Int), val := val }).toList.map (·.born) = es.toList.map (·.born) := by
    apply List.ext_getElem?
    intro j
    simp only [List.getElem?_map, Array.getElem?_toList, Array.getElem?_modify]
    split
    ·cases es[j]? <;> rfl
    ·rfl
   refine ⟨_, _, hqq _, ?_, by rw [hborn]; exact hn, ?_, ?_⟩
   ·intro e h
    have : e.born ∈ es.toList.map (·.born) := by rw [← hborn]; exact List.mem_map.2 ⟨e, h, rfl⟩
    obtain ⟨e', h1, h2⟩ := List.mem_map.1 this
    rw [← h2]
    exact hb e' h1
   ·simp [updL, hf, hl]
   ·intro j x hx
    simp only [updL, hf] at hx
    by_cases hj : i = j
    ·subst hj
     rw [List.getElem?_set_self (by omega)] at hx
     simp only [Option.some.injEq] at hx
     subst hx
     refine ⟨{ e0 with key := .int .u32 (k : Int), val := val }, by rw [Array.getElem?_modify, if_pos rfl, f1]; rfl, rfl, hv.heap (hsb _)⟩
    ·rw [List.getElem?_set_ne hj] at hx
     obtain ⟨e, e1, e2, e3⟩ := he j x hx
     exact ⟨e, by rw [Array.getElem?_modify, if_neg hj]; exact e1, e2, e3.heap (hsb _)⟩
end
end Go.Km
namespace Go.Km
open Go Go.RowKit Go.ChangeMaps
attribute [local irreducible] vc rO_ runG runS runD
theorem setBlock_below {w : World} {B q : Nat} (o : Obj) (h : B ≤ q) : Below B w (setBlock w q o) := by
 refine ⟨rfl, rfl, rfl, ?_, fun k hk => ?_⟩
 ·simp [setBlock]
 ·simp only [setBlock]
  rw [Array.getElem?_setIfInBounds_ne (by omega)]
theorem setBlock_at {w : World} {q k : Nat} (o : Obj) (h : k ≠ q) : (setBlock w q o).heap[k]? = w.heap[k]? := by
 simp only [setBlock]
 rw [Array.getElem?_setIfInBounds_ne (Ne.symm h)]
theorem setBlock_size (w : World) (q : Nat) (o : Obj) : (setBlock w q o).heap.size = w.heap.size := by simp [setBlock]
theorem cell_at {w w' : World} {b o : Nat} (h : w'.heap[b]? = w.heap[b]?) : w'.cell? ⟨b, o, none⟩ = w.cell? ⟨b, o, none⟩ := by
 simp only [World.cell?]
 rw [h]
theorem free_at {w w' : World} {b o : Nat} (h : w'.heap[b]? = w.heap[b]?) (hf : Free w b o) : Free w' b o := by
 refine ⟨by rw [cell_at h]; exact hf.1, ?_⟩
 have := hf.2
 simp only [World.frozen?] at this ⊢
 rw [h]
 exact this
theorem ne_map {w : World} {b o q : Nat} {v : Value} {es : Array MapEntry} {clock : Nat} (hc : w.cell? ⟨b, o, none⟩ = some v) (hq : w.heap[q]? = some (.map es clock)) : b ≠ q := by
 rintro rfl
 simp [World.cell?, hq] at hc
structure TagT (P : Program) (E : Env) : Prop where
 map : P.underlying E.tTagMap = some (.map E.tW E.tB)
 u32 : P.underlying E.tW = some (.int .u32)
 oMap : oneT P E.tTagMap = true
 f0 : fieldOff P E.tTags 0 = some 0
 aTags : aggT P E.tTags = some 1
 zTags : zeroT P E.tTags = some (.agg #[.map none])
section
variable {P : Program} {a : Act} {w : World} {r : List Oper} {Q : Exit → Act → World → Prop}
theorem r_eqMapNil {d t x yt ty p af g m kt et} (ht : P.underlying t = some (.map kt et)) (hx : a.eval x = .map m) (h : rO_ P Q r (a.put (some d) (.bool m.isNone)) w) : rO_ P Q (⟨some d, .binOp .eql t x (.const (.map none)) yt, ty, p, af, g⟩ :: r) a w := by
 refine st ?_
 have hb : (binOp .eql t (.map m) (.map none)).run P w = .ok (.bool m.isNone) w := by
  have h0 : ∀ k : Nat, (Op.equalIn (k + 1) t (.map m) (.map none)).run P w = .ok m.isNone w := fun k => by
   cases m <;> simp [Op.equalIn, run_underlying ht]
  simp only [binOp]
  simp [Op.equal, Op.maxDepth, h0 9999]
 simp only [Oper.wp, execOp, hx, eval_const, eqGuard_at_map, hb, Sem.run_bind, Sem.run_pure, Result.andThen_ok, Oper.upon_value]
 exact h
theorem r_makeMap {d t ty p af g} (h : rO_ P Q r (a.put (some d) (.map (some w.heap.size))) (w.alloc (.map #[] 0))) : rO_ P Q (⟨some d, .makeMap t none, ty, p, af, g⟩ :: r) a w := by
 refine st ?_
 have hr : (Instr.makeMap t none).run P w = .ok (.map (some w.heap.size)) (w.alloc (.map #[] 0)) := rfl
 simp only [Oper.wp, execOp, Option.map_none, Sem.run_bind, hr, Result.andThen_ok, Sem.run_pure, Oper.upon_value]
 exact h
theorem r_mapUpdate {t m k x ty p af g mv kv xv w'} (hm : a.eval m = mv) (hk : a.eval k = kv) (hx : a.eval x = xv) (hr : (Instr.mapUpdate t mv kv xv).run P w = .ok () w') (h : rO_ P Q r a w') : rO_ P Q (⟨none, .mapUpdate t m k x, ty, p, af, g⟩ :: r) a w := by
 refine st ?_
 simp only [Oper.wp, execOp, hm, hk, hx, Sem.run_bind, hr, Result.andThen_ok, Sem.run_pure, Oper.upon_skip]
 exact h
end
section
variable {P : Program} {E : Env}
theorem k_gSet (H : TagT P E) (ht : Text P E.gSet 3 21 #[] (c_gSet E)) {w : World} {b sb B k : Nat} {v val : Value} {tags : List (Nat × List UInt8)} {l : List UInt8} (hc : w.cell? ⟨b, 0, none⟩ = some v) (hf : Free w b 0) (hm : TagM w sb B v tags) (hv : SrcV w sb val l) (hk : k < 4294967296) (hB : B ≤ b) (hBz : B ≤ w.heap.size) (hsb : sb < B) :
  CallsV P E.gSet #[.pointer (some ⟨b, 0, none⟩), .int .u32 (k : Int), val] w fun _ w' => Below B w w' ∧ ∃ v', w'.cell? ⟨b, 0, none⟩ = some v' ∧ v'.oneCell' = true ∧ Free w' b 0 ∧ TagM w' sb B v' (setTag k l tags) := by
 refine CallsV.enter ht (by simp) ?_
 intro a hsz hdf harg
 have e0 := harg 0 (.pointer (some ⟨b, 0, none⟩)) (by simp)
 have e1 := harg 1 (.int .u32 (k : Int)) (by simp)
 have e2 := harg 2 val (by simp)
 have hblt : b < w.heap.size := lt_of_cell hc
 have tail : ∀ (A : Act) (w1 : World) (q : Nat) (ls : List (Nat × List UInt8)), A.tmps.size = 21 → A.defers = [] → (∀ i : Nat, i < 3 → A.eval (.tmp i) = a.eval (.tmp i)) → w1.cell? ⟨b, 0, none⟩ = some (.map (some q)) → Free w1 b 0 → MapIs w1 sb q ls → ls.Perm tags → B ≤ q → Below B w w1 →
   vc P (rg [(oQ 15 (.move (.tmp 0)) E.tPTags),
   (oQ 16 (.nilCheck (.tmp 15)) 0),
   (oQ 17 (.fieldAddr E.tTags (.tmp 16) 0) 0),
   (oQ 18 (.load E.tTagMap (.tmp 17)) E.tTagMap),
   (oQ 19 (.move (.tmp 1)) E.tW),
   (oQ 20 (.move (.tmp 2)) E.tB),
   ⟨none, .mapUpdate E.tTagMap (.tmp 18) (.tmp 19) (.tmp 20), 0, "", #[], none⟩])
   (Out P #[] fun _ w' => Below B w w' ∧ ∃ v', w'.cell? ⟨b, 0, none⟩ = some v' ∧ v'.oneCell' = true ∧ Free w' b 0 ∧ TagM w' sb B v' (setTag k l tags)) A w1 := by
  intro A w1 q ls hs hd hA hcq hfq hmi hperm hBq hb1
  have g0 := (hA 0 (by omega)).trans e0
  have g1 := (hA 1 (by omega)).trans e1
  have g2 := (hA 2 (by omega)).trans e2
  have hv1 : SrcV w1 sb val l := hv.heap (hb1.block sb hsb)
  have hne : b ≠ q := by
   obtain ⟨es, clock, hq, _⟩ := hmi
   exact ne_map hcq hq
  have hqs : q < w1.heap.size := by
   obtain ⟨es, clock, hq, _⟩ := hmi
   exact (Array.getElem?_eq_some_iff.1 hq).1
  obtain ⟨o, hr, hmi'⟩ := run_mapSet (P := P) (k := k) H.map H.u32 hmi (by omega) hv1
  refine vR (by simp) ?_
  refine rM ?_
  refine r_nil (ad := ⟨b, 0, none⟩) (by simp (disch := (try simp only [sP]); omega) only [eV, g0]) ?_
  refine rF (b := b) (o := 0) (by simp (disch := (try simp only [sP]); omega) only [eV]) H.f0 ?_
  refine rL (b := b) (o := 0 + 0) (v := .map (some q)) (by simp (disch := (try simp only [sP]); omega) only [eV]) H.oMap (by simpa using hcq) ?_
  refine rM (rM ?_)
  refine r_mapUpdate (mv := .map (some q)) (kv := .int .u32 (k : Int)) (xv := val) (w' := setBlock w1 q o) (by simp (disch := (try simp only [sP]); omega) only [eV]) (by simp (disch := (try simp only [sP]); omega) only [eV, g1]) (by simp (disch := (try simp only [sP]); omega) only [eV, g2]) hr ?_
  refine dn ?_
  refine ⟨by simp only [dF]; exact hd, .tuple #[], by simp [results], hb1.trans (setBlock_below o hBq), .map (some q), by rw [cell_at (setBlock_at o hne)]; exact hcq, rfl, free_at (setBlock_at o hne) hfq, setTag_ok hk _ hm.1, .inr ⟨q, updL k l ls, rfl, hBq, by rw [setBlock_size]; exact hqs, hmi', updL_perm hperm hm.1.1⟩⟩
 unfold c_gSet
 refine vS (vX (rM ?_))
 refine r_nil (ad := ⟨b, 0, none⟩) (by simp (disch := (try simp only [sP]); omega) only [eV, e0]) ?_
 refine rF (b := b) (o := 0) (by simp (disch := (try simp only [sP]); omega) only [eV]) H.f0 ?_
 refine rL (b := b) (o := 0 + 0) (v := v) (by simp (disch := (try simp only [sP]); omega) only [eV]) H.oMap (by simpa using hc) ?_
 rcases hm.2 with ⟨rfl, rfl⟩ | ⟨q, ls, rfl, hBq, hqs, hmi, hperm⟩
 ·refine r_eqMapNil (m := none) H.map (by simp (disch := (try simp only [sP]); omega) only [eV]) ?_
  refine dn ?_
  refine vS (vC (t := true) (by simp (disch := (try simp only [sP]); omega) only [eV]; rfl) ?_ (fun h => by cases h))
  intro _
  refine vR (by simp) ?_
  refine rM ?_
  refine r_makeMap ?_
  refine r_nil (ad := ⟨b, 0, none⟩) (by simp (disch := (try simp only [sP]); omega) only [eV, e0]) ?_
  refine rF (b := b) (o := 0) (by simp (disch := (try simp only [sP]); omega) only [eV]) H.f0 ?_
  have hb1 : Below w.heap.size w (w.alloc (.map #[] 0)) := (Below.refl w.heap.size w).alloc (o := .map _ _) (Nat.le_refl _)
  have hf1 : Free (w.alloc (.map #[] 0)) b 0 := free_at (hb1.block b hblt) hf
  refine r_store (b := b) (o := 0 + 0) (v := .map (some w.heap.size)) (by simp (disch := (try simp only [sP]); omega) only [eV]) (by simp (disch := (try simp only [sP]); omega) only [eV]) rfl H.oMap (by simpa using hf1) ?_
  refine dn (vN ?_)
  have hnew : (w.alloc (.map #[] 0)).heap[w.heap.size]? = some (.map #[] 0) := heap_alloc_new w _
  have hnew2 : ((w.alloc (.map #[] 0)).setCell ⟨b, 0 + 0, none⟩ (.map (some w.heap.size))).heap[w.heap.size]? = some (.map #[] 0) := by
   rw [← hnew]
   exact Below.heap_setCell _ _ _ _ (by show w.heap.size ≠ b; omega)
  have hb2 : Below B w ((w.alloc (.map #[] 0)).setCell ⟨b, 0 + 0, none⟩ (.map (some w.heap.size))) := (hb1.mono hBz).setCell (p := ⟨b, 0 + 0, none⟩) hB _
  refine tail _ _ w.heap.size [] (by simp only [zP]; exact hsz) (by simp only [dF]; exact hdf) (fun i hi => by simp (disch := (try simp only [sP]); omega) only [eV]) (cell_setCell_same _ (by simpa using hf1.1)) ?_ ?_ (List.Perm.refl _) hBz hb2
  ·exact (show Free (w.alloc (.map #[] 0)) b 0 from hf1).eff ((Eff.refl (fun k _ => k = b) _).setCell _ _ _ (fun _ => rfl))
  ·exact ⟨#[], 0, hnew2, by simp, by simp, rfl, fun i x hx => by simp at hx⟩
 ·refine r_eqMapNil (m := some q) H.map (by simp (disch := (try simp only [sP]); omega) only [eV]) ?_
  refine dn ?_
  refine vS (vC (t := false) (by simp (disch := (try simp only [sP]); omega) only [eV]; rfl) (fun h => by cases h) ?_)
  intro _
  refine vK (vN ?_)
  exact tail _ _ q ls (by simp only [zP]; exact hsz) (by simp only [dF]; exact hdf) (fun i hi => by simp (disch := (try simp only [sP]); omega) only [eV]) hc hf hmi hperm hBq (Below.refl _ _)
end
end Go.Km
namespace Go.Km
open Go Go.RowKit Go.ChangeMaps
attribute [local irreducible] vc rO_ runG runS runD
theorem effBelow {M : Nat → Nat → Prop} {W w w' : World} (h : Eff M W w) (hb : Below W.heap.size w w') : Eff M W w' :=
 ⟨hb.os.trans h.os, hb.tape.trans h.tape, hb.output.trans h.output, Nat.le_trans h.size hb.size, fun k hk => (h.block k hk).trans (BlkKeep.of_eq (hb.block k hk))⟩
theorem rdTagsN_snoc : ∀ (n : Nat) (acc : List (Nat × List UInt8)) (st : RSt), rdTagsN (n + 1) acc st = (setTag (rdTag (rdTagsN n acc st).2).1.1 (rdTag (rdTagsN n acc st).2).1.2 (rdTagsN n acc st).1, (rdTag (rdTagsN n acc st).2).2)
 | 0, acc, st => rfl
 | n + 1, acc, st => by
  rw [rdTagsN, rdTagsN_snoc n _ _]
  rfl
theorem wrapu32 {n : Int} (h0 : 0 ≤ n) (h1 : n < 4294967296) : IntKind.u32.wrap n = n := by
 have h2 : (2 : Int) ^ 32 = 4294967296 := by decide
 simp only [IntKind.wrap, IntKind.bits, IntKind.signed, Bool.false_and, Bool.false_eq_true, if_false, h2]
 omega
section
variable {P : Program} {E : Env}
theorem TagM.eff {rb sb B : Nat} {w w' : World} {v : Value} {tags : List (Nat × List UInt8)} (h : TagM w sb B v tags) (he : Eff (RM rb) w w') (hrb : rb < B) (hne : rb ≠ sb) (hsb : sb < w.heap.size) : TagM w' sb B v tags := by
 refine h.heap (he.blockEq hsb (by rintro i ⟨e, _⟩; exact hne e.symm)) he.size ?_
 rintro q rfl
 obtain ⟨_, h2⟩ := h
 rcases h2 with ⟨h2, _⟩ | ⟨q', l, hv, hq, hqs, _⟩
 ·cases h2
 ·cases hv
  exact he.blockEq hqs (by rintro i ⟨e, _⟩; omega)
set_option maxHeartbeats 1000000 in
theorem tagsR (H : TagT P E) (iu : intT P E.tW = some .u32) (ii : intT P E.tI = some .i64) (cU : E.rTags ≠ 0 → CUv P E) (cS : E.rTags ≠ 0 → CSpan P E) (hset : E.rTags ≠ 0 → Text P E.gSet 3 21 #[] (c_gSet E)) (ht : E.rTags ≠ 0 → Text P E.rTags 1 24 #[.cell 2 E.tTags] (c_rTags E)) : TagsR P E (fun _ => True) := by
 intro hne rb sb st W hr
 have cU := cU hne
 have cS := cS hne
 have hset := hset hne
 have ht := ht hne
 have hrlt := hr.rb_lt
 have hslt := hr.lt
 refine CallsV.enter ht (by simp) ?_
 intro a hsz hdf harg
 have e0 := harg 0 (.pointer (some ⟨rb, 0, none⟩)) (by simp)
 unfold c_rTags
 refine vX ?_
 refine r_alloc H.zTags ?_
 refine dn (vX ?_)
 refine r_alloc H.zTags ?_
 refine dn ?_
 have hb0 : Below W.heap.size W ((W.alloc (.cells (Value.agg #[.map none]).cells E.tTags)).alloc (.cells (Value.agg #[.map none]).cells E.tTags)) :=
  ((Below.refl W.heap.size W).alloc (o := .cells _ _) (Nat.le_refl _)).alloc (o := .cells _ _) (by simp)
 have hf2 : Free ((W.alloc (.cells (Value.agg #[.map none]).cells E.tTags)).alloc (.cells (Value.agg #[.map none]).cells E.tTags)) W.heap.size 0 :=
  (free_new W _ E.tTags (by simp [Value.cells])).eff ((Eff.refl (fun _ _ => False) _).alloc _)
 have hf3 : Free ((W.alloc (.cells (Value.agg #[.map none]).cells E.tTags)).alloc (.cells (Value.agg #[.map none]).cells E.tTags)) (W.heap.size + 1) 0 := by
  have := free_new (W.alloc (.cells (Value.agg #[.map none]).cells E.tTags)) (Value.agg #[.map none]).cells E.tTags (i := 0) (by simp [Value.cells])
  simpa using this
 have hc3 : ((W.alloc (.cells (Value.agg #[.map none]).cells E.tTags)).alloc (.cells (Value.agg #[.map none]).cells E.tTags)).cell? ⟨W.heap.size + 1, 0, none⟩ = some (.map none) := by
  have := cells_new (W.alloc (.cells (Value.agg #[.map none]).cells E.tTags)) (Value.agg #[.map none]).cells E.tTags (i := 0) (v := .map none) (by simp [Value.cells])
  simpa using this
 have hz0 : ((W.alloc (.cells (Value.agg #[.map none]).cells E.tTags)).alloc (.cells (Value.agg #[.map none]).cells E.tTags)).heap.size = W.heap.size + 2 := by simp
 have hsz1 : (W.alloc (.cells (Value.agg #[.map none]).cells E.tTags)).heap.size = W.heap.size + 1 := by simp
 generalize ha1 : Act.put (Act.put a _ _) _ _ = a1
 have hfr1 : Fr (fun k => k < 2) a a1 := by
  subst ha1
  exact ((Fr.refl _ a).put _ (by omega)).put _ (by omega)
 have h12 : a1.eval (.tmp 2) = .pointer (some ⟨W.heap.size, 0, none⟩) := by subst ha1; simp (disch := (try simp only [sP]); omega) only [eV]
 have h13 : a1.eval (.tmp 3) = .pointer (some ⟨W.heap.size + 1, 0, none⟩) := by subst ha1; rw [← hsz1]; simp (disch := (try simp only [sP]); omega) only [eV]
 have hs1 := hfr1.size
 clear ha1
 generalize hW0 : (W.alloc (.cells (Value.agg #[.map none]).cells E.tTags)).alloc (.cells (Value.agg #[.map none]).cells E.tTags) = w0 at *
 generalize hB : W.heap.size = B0 at *
 have hr0 : RdS w0 rb sb st := hr.below hb0 (by omega) (by omega)
 refine vS (vX (rM ?_))
 refine r_call' (args := #[.pointer (some ⟨rb, 0, none⟩)]) ?_ (cU rb sb st w0 hr0) ?_
 ·simp only [lM]
  simp (disch := (try simp only [sP]); omega) only [eV, hfr1.slot 0 (by omega), e0]
 rintro v w1 ⟨rfl, hr1, hE1, _⟩
 refine rA (dn ?_)
 generalize ha2 : Act.put _ (some 4) _ = a2
 have hfr2 : Fr (fun k => k < 4) a1 a2 := by
  subst ha2
  exact (((Fr.refl _ a1).put _ (by omega)).put _ (by omega)).put _ (by omega)
 have h24 : a2.eval (.tmp 4) = .int .u32 ((rdUv st).1 : Int) := by subst ha2; simp (disch := (try simp only [sP]); omega) only [eV]
 have hs2 := hfr2.size
 clear ha2
 have hn := rdUv_lt st
 have hbW : Eff (RM rb) W w0 := Eff.of_below (by rw [hB]; exact hb0)
 have hEW1 : Eff (RM rb) W w1 := hbW.trans hE1
 have hz1 := hE1.size
 generalize hnn : (rdUv st).1 = n at *
 -- the loop
 refine vS (vc_block (vc_loop (fun A w => ∃ i, i ≤ n ∧ A.tmps.size = 24 ∧ A.defers = [] ∧ A.eval (.tmp 0) = .pointer (some ⟨rb, 0, none⟩) ∧ A.eval (.tmp 2) = .pointer (some ⟨B0, 0, none⟩) ∧ A.eval (.tmp 3) = .pointer (some ⟨B0 + 1, 0, none⟩) ∧ A.eval (.tmp 4) = .int .u32 ((n - i : Nat) : Int) ∧
   RdS w rb sb (rdTagsN i [] (rdUv st).2).2 ∧ Eff (RM rb) W w ∧ B0 + 2 ≤ w.heap.size ∧ Free w B0 0 ∧ Free w (B0 + 1) 0 ∧ ∃ v tags, w.cell? ⟨B0 + 1, 0, none⟩ = some v ∧ v.oneCell' = true ∧ TagM w sb (B0 + 1) v tags ∧ ((rdTagsN i [] (rdUv st).2).2.2 = false → tags = (rdTagsN i [] (rdUv st).2).1))
  (fun A _ => (intOf (A.eval (.tmp 4))).toNat) ?_ ?_))
 ·refine ⟨0, Nat.zero_le _, by rw [hs2, hs1, hsz], by rw [hfr2.defers, hfr1.defers, hdf], by rw [hfr2.slot 0 (by omega), hfr1.slot 0 (by omega)]; exact e0, by rw [hfr2.slot 2 (by omega)]; exact h12, by rw [hfr2.slot 3 (by omega)]; exact h13, h24, hr1, hEW1, by omega, hf2.eff hE1, hf3.eff hE1, .map none, [], ?_, rfl, ⟨⟨List.Pairwise.nil, by simp⟩, .inl ⟨rfl, rfl⟩⟩, fun _ => rfl⟩
  exact hE1.cellSome hc3 (by rintro ⟨e, _⟩; omega)
 rintro A w ⟨i, hi, hsA, hdA, g0, g2, g3, g4, hrw, hEw, hzw, hfw2, hfw3, v, tags, hcv, hv1, htm, hteq⟩
 refine vS (vX (rM ?_))
 refine r_gtr (k := .u32) (m := ((n - i : Nat) : Int)) (n := 0) (by simp (disch := (try simp only [sP]); omega) only [eV, g4]) rfl ?_
 refine dn ?_
 refine vS (vC (t := decide (((n - i : Nat) : Int) > 0)) (by simp (disch := (try simp only [sP]); omega) only [eV]) ?_ ?_)
 ·intro h
  have hlt : i < n := by
   have : ((n - i : Nat) : Int) > 0 := by simpa using h
   omega
  refine vK (vN ?_)
  refine vS (vc_block (vX ?_))
  refine rM ?_
  refine r_call' (args := #[.pointer (some ⟨rb, 0, none⟩)]) ?_ (cU rb sb _ w hrw) ?_
  ·simp only [lM]
   simp (disch := (try simp only [sP]); omega) only [eV, g0]
  rintro v2 w2 ⟨rfl, hr2, hE2, _⟩
  refine rM ?_
  refine r_call' (args := #[.pointer (some ⟨rb, 0, none⟩)]) ?_ (cU rb sb _ w2 hr2) ?_
  ·simp only [lM]
   simp (disch := (try simp only [sP]); omega) only [eV, g0]
  rintro v3 w3 ⟨rfl, hr3, hE3, hNN3⟩
  refine rA (rA (dn (vX (rM (rM (rM ?_))))))
  have hk1 := rdUv_lt (rdTagsN i [] (rdUv st).2).2
  have hk2 := rdUv_lt (rdUv (rdTagsN i [] (rdUv st).2).2).2
  refine r_conv (k := .u32) (k' := .i64) (m := ((rdUv (rdUv (rdTagsN i [] (rdUv st).2).2).2).1 : Int)) iu ii (by simp (disch := (try simp only [sP]); omega) only [eV]) ?_
  rw [wrap_i64 (by omega) (by omega)]
  refine r_call' (args := #[.pointer (some ⟨rb, 0, none⟩), .int .i64 ((rdUv (rdUv (rdTagsN i [] (rdUv st).2).2).2).1 : Int)]) ?_ (cS rb sb _ _ w3 hr3) ?_
  ·simp only [lM]
   simp (disch := (try simp only [sP]); omega) only [eV, g0]
  rintro sv w4 ⟨hsv, hr4, hE4, _⟩
  have hE24 : Eff (RM rb) w w4 := (hE2.trans hE3).trans hE4
  have hz4 := hE24.size
  have htm4 : TagM w4 sb (B0 + 1) v tags := htm.eff hE24 (by omega) hr.ne (by omega)
  refine r_call' (args := #[.pointer (some ⟨B0 + 1, 0, none⟩), .int .u32 ((rdUv (rdTagsN i [] (rdUv st).2).2).1 : Int), sv]) ?_
   (k_gSet H hset (B := B0 + 1) (hE24.cellSome hcv (by rintro ⟨e, _⟩; omega)) (hfw3.eff hE24) htm4 hsv hk1 (Nat.le_refl _) (by omega) (by omega)) ?_
  ·simp only [lM]
   simp (disch := (try simp only [sP]); omega) only [eV, g3]
  rintro v5 w5 ⟨hb5, v', hc5, hv5, hf5, htm5⟩
  refine dn ?_
  have hz5 := hb5.size
  refine vN (vX (rM ?_))
  refine r_sub (k := .u32) (m := ((n - i : Nat) : Int)) (n := 1) (by simp (disch := (try simp only [sP]); omega) only [eV, g4]) rfl ?_
  rw [wrapu32 (by omega) (by omega)]
  refine rA (dn (vN ?_))
  generalize hA5 : Act.put _ (some 4) _ = A5
  have hfr5 : Fr (fun k => k < 4) A A5 := by
   subst hA5
   exact ((((((((((((((Fr.refl _ A).put _ (by omega)).put _ (by omega)).put _ (by omega)).put _ (by omega)).put _ (by omega)).put _ (by omega)).put _ (by omega)).put _ (by omega)).put _ (by omega)).put _ (by omega)).put _ (by omega)).put _ (by omega) |>.put _ (by omega)).put _ (by omega) |>.put _ (by omega)).put _ (by omega) |>.put _ (by omega)
  have h54 : A5.eval (.tmp 4) = .int .u32 (((n - i : Nat) : Int) - 1) := by subst hA5; simp (disch := (try simp only [sP]); omega) only [eV]
  have e1 : ((n - i : Nat) : Int) - 1 = ((n - (i + 1) : Nat) : Int) := by omega
  rw [e1] at h54
  have hEW5 : Eff (RM rb) W w5 := effBelow (hEw.trans hE24) (by rw [hB]; exact hb5.mono (by omega))
  refine ⟨⟨i + 1, hlt, by rw [hfr5.size]; exact hsA, by rw [hfr5.defers]; exact hdA, by rw [hfr5.slot 0 (by omega)]; exact g0, by rw [hfr5.slot 2 (by omega)]; exact g2, by rw [hfr5.slot 3 (by omega)]; exact g3, h54, ?_, hEW5, by omega, ?_, hf5, v', _, hc5, hv5, htm5, ?_⟩, ?_⟩
  ·rw [rdTagsN_snoc]
   exact (show RdS w4 rb sb (rdTag (rdTagsN i [] (rdUv st).2).2).2 from hr4).below hb5 (by omega) (by omega)
  ·have := hfw2.eff hE24
   exact free_at (hb5.block B0 (by omega)) this
  ·intro hbad
   rw [rdTagsN_snoc] at hbad ⊢
   rw [hteq (rdTag_mono hbad)]
   rfl
  ·show (intOf _).toNat < (intOf _).toNat
   rw [h54, g4]
   simp only [intOf, Int.toNat_natCast]
   omega
 ·intro h
  have hin : i = n := by
   have : ¬ (((n - i : Nat) : Int) > 0) := by simpa using h
   omega
  subst hin
  refine vc_exit ?_
  simp only [Exit.then, Exit.inBlock, if_true]
  refine vN (vX ?_)
  have hcc : Cells w (B0 + 1) 0 [v] := by
   intro j u hu
   cases j with
   | zero => simp only [List.getElem?_cons_zero, Option.some.injEq] at hu; subst hu; exact hcv
   | succ j => simp at hu
  refine r_loadAgg (b := B0 + 1) (o := 0) (cs := [v]) (by simp (disch := (try simp only [sP]); omega) only [eV, g3]) H.aTags hcc ?_
  have hfree : ∀ j, j < [v].length → Free w B0 (0 + j) := fun j hj => by
   have : j = 0 := by simpa using hj
   subst this
   exact hfw2
  refine r_storeAgg (b := B0) (o := 0) (cs := [v]) (by simp (disch := (try simp only [sP]); omega) only [eV, g2]) (by simp (disch := (try simp only [sP]); omega) only [eV]) (by simpa using hv1) H.aTags hfree ?_
  refine dn (vS (vT ?_))
  have hE9 := setCells_eff B0 [v] w 0
  have hcells : Cells (setCells w B0 0 [v]) B0 0 [v] := fun j u hu => setCells_cell _ _ _ _ (fun j hj => (hfree j hj).1) j u hu
  refine ⟨by simp only [dF]; exact hdA, .agg [v].toArray, results_cell (b := B0) (o := 0) (cs := [v]) (by simp (disch := (try simp only [sP]); omega) only [eV, g2]) H.aTags hcells, ⟨v, tags, rfl, hv1, ?_, fun hb => ?_⟩, ?_, ?_⟩
  ·have htm' : TagM (setCells w B0 0 [v]) sb (B0 + 1) v tags := by
    refine htm.heap (hE9.blockEq (by omega) (by rintro j ⟨e, _⟩; omega)) hE9.size ?_
    rintro q rfl
    rcases htm.2 with ⟨h2, _⟩ | ⟨q', l, hv, hq, hqs, _⟩
    ·cases h2
    ·cases hv
     exact hE9.blockEq hqs (by rintro j ⟨e, _⟩; omega)
   have := htm'.rep (by have := hE9.size; omega)
   obtain ⟨k1, k2, k3⟩ := this
   refine ⟨k1, k2, ?_⟩
   rcases k3 with k3 | ⟨q, es, clock, k4, k5, k6⟩
   ·exact .inl k3
   ·obtain ⟨k7, k8, k9, k10, l, k11, k12, k13⟩ := k6
    refine .inr ⟨q, es, clock, k4, by omega, k7, k8, k9, k10, l, k11, k12, fun j x hx => ?_⟩
    obtain ⟨e, m1, m2, m3⟩ := k13 j x hx
    exact ⟨e, m1, m2, m3.imp id (fun ⟨c, o, cap, z1, z2, z3⟩ => ⟨c, o, cap, z1, z2.imp id (fun h => by omega), z3⟩)⟩
  ·have e : (rdTags st) = rdTagsN i [] (rdUv st).2 := by unfold rdTags; rw [hnn]
   rw [e] at hb ⊢
   exact hteq hb
  ·have e : (rdTags st) = rdTagsN i [] (rdUv st).2 := by unfold rdTags; rw [hnn]
   rw [e]
   exact hrw.keep hE9 (by rintro j ⟨e, _⟩; omega) (by rintro j ⟨e, _⟩; omega)
  ·refine hEw.trans' hE9 ?_
   rintro k j hk ⟨e, _⟩
   omega
end
end Go.Km
namespace Go.Km
open Go Go.RowKit
attribute [local irreducible] vc rO_ runG runS runD
def encU (k : Nat) : Value := .int .u32 (k : Int)
def ltU (a b : Nat) : Bool := decide (a < b)
theorem swoU : Go.Sort.SWO ltU := ⟨fun x => by simp [ltU], fun x y z h1 h2 => by simp only [ltU, decide_eq_true_eq] at *; omega, fun x y z h1 h2 => by simp only [ltU, decide_eq_false_iff_not] at *; omega⟩
structure SortE (P : Program) (E : Env) : Prop where
 mixed : P.follows .mixedOrders = true
 row : rowB P E.tU32s E.tW 1 = true
 oU32s : oneT P E.tU32s = true
 zU32s : zeroT P E.tU32s = some (.slice none 0 0)
 oU32 : oneT P E.tW = true
 iu : intT P E.tW = some .u32
 L : ∃ ρ : Go.Shelf.Ren, Go.Proofs.LaysGg.n6 P ρ ∧ ρ.f 6 = E.sortSlice
 enters : Enters P E.sortSlice
 info : ∃ i ie, P.info? E.tU32s = some i ∧ i.desc = .slice E.tW ∧ P.packed E.tU32s = false ∧ P.info? E.tW = some ie ∧ ie.size = 1 ∧ ie.hasPointers = false ∧ ie.bytes = 4
 kind : ∀ w, (Extern.Rtype.kind E.tW).run P w = .ok 10 w
 sw2 : ∃ f, P.funcs.findIdx? (·.name == "internal/reflectlite" ++ ".Swapper$" ++ toString 2) = some f
 sw6 : ∃ f gS, P.funcs.findIdx? (·.name == "internal/reflectlite" ++ ".Swapper$" ++ toString 6) = some f ∧ ∀ args W, (callFunc f args).run P W = ((Extern.ReflectliteSwapper.swap gS args).run P W).andThen fun v w' => .ok (.value v) w'
 less : Text P E.gAll1 2 15 #[.tmp 5] (c_gAll1 E)
section
variable {P : Program} {E : Env}
theorem cells_drewN {W w' : World} {q : Nat} (h : w' = W.drewN q) (a : Addr) : w'.cell? a = W.cell? a := by subst h; rfl
theorem k_gAll1 (H : SortE P E) {W : World} {ob blk size c : Nat} {G : Nat → Nat} (hs : W.cell? ⟨ob, 0, none⟩ = some (.slice (some ⟨blk, 0, none⟩) size c)) (hc : ∀ t, t < size → W.cell? ⟨blk, 0 + t, none⟩ = some (encU (G t))) {i j : Nat} (hi : i < size) (hj : j < size) :
  CallsV P E.gAll1 #[.int .i64 i, .int .i64 j, .pointer (some ⟨ob, 0, none⟩)] W fun v w' => v = .bool (ltU (G i) (G j)) ∧ ∃ q, w' = W.drewN q := by
 refine CallsV.enter H.less (by simp) ?_
 intro a hsz hdf harg
 have e0 := harg 0 (.int .i64 i) (by simp)
 have e1 := harg 1 (.int .i64 j) (by simp)
 have e2 := harg 2 (.pointer (some ⟨ob, 0, none⟩)) (by simp)
 unfold c_gAll1
 refine vX (rA (dn ?_))
 have hst : (∃ q, ({ W with drawn := W.drawn + 1 } : World) = W.drewN q) := ⟨1, rfl⟩
 generalize hA : Act.put a _ _ = A
 have hsA : A.tmps.size = 15 := by rw [← hA, zP]; exact hsz
 have hdA : A.defers = [] := by rw [← hA, dF]; exact hdf
 have k0 : A.eval (.tmp 0) = .int .i64 i := by rw [← hA]; simp (disch := (try simp only [sP]); omega) only [eV, e0]
 have k1 : A.eval (.tmp 1) = .int .i64 j := by rw [← hA]; simp (disch := (try simp only [sP]); omega) only [eV, e1]
 have k2 : A.eval (.tmp 2) = .pointer (some ⟨ob, 0, none⟩) := by rw [← hA]; simp (disch := (try simp only [sP]); omega) only [eV, e2]
 clear hA
 refine vS (vc_rgd [(0, true), (1, true), (2, true), (3, true), (4, true), (5, true), (6, true), (7, true), (8, true), (9, true)] (fun W' => ∃ q, W' = W.drewN q) H.mixed (by kernel_rfl) rfl (by kernel_rfl) (fun _ _ _ _ h => False.elim h) ?_)
 have e1o : Cells W 0 0 [] := fun i v h => by simp at h
 refine dP rfl rfl rfl (wN rfl) (by simp only [zP, hsA]; omega) hst (fun w' ⟨q, hq⟩ => rL (b := ob) (o := 0) (v := .slice (some ⟨blk, 0, none⟩) size c) (by simp (disch := (try simp only [sP]); omega) only [eV, k2]) H.oU32s (by rw [cells_drewN hq]; exact hs) (dn ⟨rfl, rfl, rfl⟩)) ?_
 refine dP rfl rfl rfl (wN rfl) (by simp only [zP, hsA]; omega) hst (fun w' _ => rM (dn ⟨rfl, rfl, rfl⟩)) ?_
 refine dP rfl rfl rfl (wN rfl) (by simp only [zP, hsA]; omega) hst (fun w' _ => r_index (b := blk) (o := 0) (len := size) (cap := c) (k := .i64) (j := i) (rB H.row) (by simp (disch := (try simp only [sP]); omega) only [eV]) (by simp (disch := (try simp only [sP]); omega) only [eV, k0]) hi (dn ⟨rfl, rfl, rfl⟩)) ?_
 refine dP rfl rfl rfl (wN rfl) (by simp only [zP, hsA]; omega) hst (fun w' ⟨q, hq⟩ => rL (b := blk) (o := 0 + i * 1) (v := encU (G i)) (by simp (disch := (try simp only [sP]); omega) only [eV]) H.oU32 (by rw [cells_drewN hq, Nat.mul_one]; exact hc i hi) (dn ⟨rfl, rfl, rfl⟩)) ?_
 refine dP rfl rfl rfl (wN rfl) (by simp only [zP, hsA]; omega) hst (fun w' ⟨q, hq⟩ => rL (b := ob) (o := 0) (v := .slice (some ⟨blk, 0, none⟩) size c) (by simp (disch := (try simp only [sP]); omega) only [eV, k2]) H.oU32s (by rw [cells_drewN hq]; exact hs) (dn ⟨rfl, rfl, rfl⟩)) ?_
 refine dP rfl rfl rfl (wN rfl) (by simp only [zP, hsA]; omega) hst (fun w' _ => rM (dn ⟨rfl, rfl, rfl⟩)) ?_
 refine dP rfl rfl rfl (wN rfl) (by simp only [zP, hsA]; omega) hst (fun w' _ => r_index (b := blk) (o := 0) (len := size) (cap := c) (k := .i64) (j := j) (rB H.row) (by simp (disch := (try simp only [sP]); omega) only [eV]) (by simp (disch := (try simp only [sP]); omega) only [eV, k1]) hj (dn ⟨rfl, rfl, rfl⟩)) ?_
 refine dP rfl rfl rfl (wN rfl) (by simp only [zP, hsA]; omega) hst (fun w' ⟨q, hq⟩ => rL (b := blk) (o := 0 + j * 1) (v := encU (G j)) (by simp (disch := (try simp only [sP]); omega) only [eV]) H.oU32 (by rw [cells_drewN hq, Nat.mul_one]; exact hc j hj) (dn ⟨rfl, rfl, rfl⟩)) ?_
 refine dP rfl rfl rfl (wN rfl) (by simp only [zP, hsA]; omega) hst (fun w' _ => r_lss (k := .u32) (m := (G i : Int)) (n := (G j : Int)) (by (try simp (disch := (try simp only [sP]); omega) only [eV]) <;> (first | rfl | assumption)) (by (try simp (disch := (try simp only [sP]); omega) only [eV]) <;> (first | rfl | assumption)) (dn ⟨rfl, rfl, rfl⟩)) ?_
 refine dP rfl rfl rfl (wN rfl) (by simp only [zP, hsA]; omega) hst (fun w' _ => rA (dn ⟨rfl, rfl, rfl⟩)) ?_
 refine d_nil ?_
 refine vS (vT ?_)
 refine ⟨by simp only [dF]; exact hdA, .bool (ltU (G i) (G j)), rO ?_, rfl, 1, rfl⟩
 simp (disch := (try simp only [sP]); omega) only [eV]
 simp [ltU]
theorem eff_sorted {w : World} {blk : Nat} {d : Array Nat} {n : Nat} {os : Array Obj} : Eff (fun k _ => k = blk) w (Go.Sort.grow (Go.Sort.putRow encU (Go.Sort.ahead w n) blk 0 d) os) := by
 refine ⟨rfl, rfl, rfl, ?_, fun k hk => ?_⟩
 ·simp [Go.Sort.grow, Go.Sort.putRow, Go.Sort.mapBlock, Go.Sort.ahead]
 ·have h1 : (Go.Sort.grow (Go.Sort.putRow encU (Go.Sort.ahead w n) blk 0 d) os).heap[k]? = (Go.Sort.putRow encU (Go.Sort.ahead w n) blk 0 d).heap[k]? := Go.Sort.heap_grow_old _ _ (by simpa [Go.Sort.putRow, Go.Sort.mapBlock, Go.Sort.ahead] using hk)
  rw [h1]
  show BlkKeep (fun _ => k = blk) w.heap[k]? (w.heap.modify blk (Go.Sort.onCells (Go.Sort.putCells encU 0 d)))[k]?
  rw [Array.getElem?_modify]
  by_cases hb : blk = k
  ·subst hb
   simp only [if_true]
   cases hh : w.heap[blk]? with
   | none => exact BlkKeep.refl _ _
   | some x =>
    cases x with
    | cells c T f => exact ⟨_, rfl, by simp [Go.Sort.putCells], fun i hi => absurd trivial hi⟩
    | _ => exact BlkKeep.refl _ _
  ·simp only [if_neg hb]
   exact BlkKeep.refl _ _
theorem getD_toArray (ks : List Nat) (j : Nat) (h : j < ks.length) : ks.toArray[j]! = ks[j] := by simp [h]
theorem k_sort (H : SortE P E) {w : World} {U n ob : Nat} {v : Value} {ks : List Nat} (hown : w.ownsRow U E.tW 1 v n (ks.map encU)) (hn : ks.length = n) (h1 : 1 ≤ n) (hbig : n ≤ big) (hob : w.cell? ⟨ob, 0, none⟩ = some v) (hne : ∀ a c, v = .slice (some ⟨a, 0, none⟩) n c → ob ≠ a) :
  CallsV P E.sortSlice #[.iface E.tU32s v, .func (.func E.gAll1) #[] #[.pointer (some ⟨ob, 0, none⟩)]] w fun _ w' => ∃ (blk cap : Nat) (ks' : List Nat), v = .slice (some ⟨blk, 0, none⟩) n cap ∧ U ≤ blk ∧ blk < w.heap.size ∧ ks'.Perm ks ∧ ks'.Pairwise (· ≤ ·) ∧ Cells w' blk 0 (ks'.map encU) ∧ Eff (fun k _ => k = blk) w w' := by
 refine ⟨H.enters, ?_⟩
 obtain ⟨ρ, L, hρ⟩ := H.L
 obtain ⟨i, ie, hi, hd, hpk, hie, hs1, hptr, hby⟩ := H.info
 have hagg : ∀ w, (isAgg E.tW).run P w = .ok false w := fun w => run_isAgg_oneT H.oU32
 rcases hown.2 with ⟨_, h0⟩ | ⟨g, cap, cur, rfl, hbg, hg, hnc, hcm, hcs, htake⟩
 ·omega
 have hglt : g < w.heap.size := (Array.getElem?_eq_some_iff.1 hg).1
 have hobg : ob ≠ g := hne g cap rfl
 have hoblt : ob < w.heap.size := lt_of_cell hob
 have hbig' : big ≤ 2147483000 := Nat.le_refl _
 have hcells : Cells w g 0 (ks.map encU) := by
  intro j u hu
  have := hown.cells (g := g) rfl j u hu
  rwa [Addr.add_lit] at this
 by_cases h2 : 2 ≤ n
 ·have hK : Go.Lib.swapperK n ie 10 = 6 := by
   have c0 : (n == 0) = false := by simp; omega
   have c1 : (n == 1) = false := by simp; omega
   simp [Go.Lib.swapperK, hptr, hby, c0, c1]
  obtain ⟨f, gS, hf, hx⟩ := H.sw6
  have hsz : ks.toArray.size = n := by simpa using hn
  have hH : Go.Sort.Holds encU w g 0 ks.toArray := by
   intro j hj
   have hj' : j < ks.length := by simpa using hj
   refine ⟨?_, by simp [World.frozen?, hg]⟩
   rw [getD_toArray ks j hj']
   exact hcells j (encU ks[j]) (by simp [hj'])
  have hless : Go.Proofs.LessReads P E.gAll1 #[.pointer (some ⟨ob, 0, none⟩)] encU ltU g 0 n w := by
   intro m os dk hdk x y hx hy
   have hgl : g < (Go.Sort.ahead w m).heap.size := hglt
   have e : Go.Proofs.sortWorld encU w g 0 m dk os = Go.Sort.grow (Go.Sort.putRow encU (Go.Sort.ahead w m) g 0 dk) os := rfl
   have hsp : (Go.Sort.putRow encU (Go.Sort.ahead w m) g 0 dk).heap.size = w.heap.size := by simp [Go.Sort.putRow, Go.Sort.mapBlock, Go.Sort.ahead]
   have hHa : Go.Sort.Holds encU (Go.Sort.ahead w m) g 0 ks.toArray := Go.Sort.holds_ahead _ _ _ _ _ _ hH
   have := (k_gAll1 H (W := Go.Proofs.sortWorld encU w g 0 m dk os) (ob := ob) (blk := g) (size := n) (c := cap) (G := fun t => dk[t]!) ?_ ?_ hx hy).2
   ·refine this.mono ?_
    rintro e w' ⟨v, rfl, rfl, q, hq⟩
    exact ⟨rfl, q, hq⟩
   ·rw [e, Go.Sort.cell?_grow _ _ _ (by show ob < _; rw [hsp]; exact hoblt), Go.Sort.cell?_putRow_other _ _ g 0 dk _ (Or.inl (by show ob ≠ g; exact hobg))]
    exact hob
   ·intro t ht
    rw [e, Go.Sort.cell?_grow _ _ _ (by show g < _; rw [hsp]; exact hglt)]
    exact Go.Sort.cell?_putRow encU _ g 0 ks.toArray dk hHa (by rw [hdk, hsz]) t (by omega)
  have hS := Go.Proofs.Any.sort_Slice_sorted L E.tU32s E.tW i ie hi hd hpk hie 10 H.kind hs1 hagg encU (fun _ => rfl) ltU swoU E.gAll1 #[.pointer (some ⟨ob, 0, none⟩)] (fun args w => H.less.enters args w) g 0 cap ks.toArray (by omega) (by omega) f
   (by rw [hsz, hK]; exact hf) gS hx w (by rw [hsz]; exact hless) hH hglt
  rw [hρ, hsz] at hS
  refine hS.mono ?_
  rintro e w' ⟨rfl, d', q, os, hp, hso, rfl⟩
  obtain ⟨hpz, _, hpp⟩ := hp
  have hdz : d'.size = n := by rw [hpz, hsz]
  refine ⟨_, rfl, g, cap, d'.toList, rfl, hbg, hglt, ?_, ?_, ?_, eff_sorted⟩
  ·have e1 : d'.extract 0 n = d' := by rw [← hdz]; simp
   have e2 : ks.toArray.extract 0 n = ks.toArray := by rw [← hsz]; simp
   rw [e1, e2] at hpp
   simpa using hpp
  ·refine List.pairwise_iff_getElem.2 fun x y hx hy hxy => ?_
   have hx' : x < d'.size := by simpa using hx
   have hy' : y < d'.size := by simpa using hy
   have := hso x y (Nat.zero_le _) hxy (by omega)
   simp only [ltU, decide_eq_false_iff_not] at this
   rw [getElem!_pos d' x hx', getElem!_pos d' y hy'] at this
   simp only [Array.getElem_toList]
   omega
  ·intro j u hu
   have hj : j < d'.size := by
    rcases Nat.lt_or_ge j d'.size with h | h
    ·exact h
    ·rw [List.getElem?_eq_none (by simpa using h)] at hu; cases hu
   have hsp : (Go.Sort.putRow encU (Go.Sort.ahead w q) g 0 d').heap.size = w.heap.size := by simp [Go.Sort.putRow, Go.Sort.mapBlock, Go.Sort.ahead]
   have hHa : Go.Sort.Holds encU (Go.Sort.ahead w q) g 0 ks.toArray := Go.Sort.holds_ahead _ _ _ _ _ _ hH
   rw [Go.Sort.cell?_grow _ _ _ (by show g < _; rw [hsp]; exact hglt), Go.Sort.cell?_putRow encU _ g 0 ks.toArray d' hHa (by rw [hdz, hsz]) j hj, getElem!_pos d' j hj]
   simp only [List.getElem?_map, Array.getElem?_toList, Array.getElem?_eq_getElem hj, Option.map_some, Option.some.injEq] at hu
   rw [hu]
 ·have hn1 : n = 1 := by omega
  subst hn1
  obtain ⟨f, hf⟩ := H.sw2
  have hK : Go.Lib.swapperK 1 ie 10 = 2 := by simp [Go.Lib.swapperK]
  have hS := Go.Proofs.Any.sort_Slice_tiny L E.tU32s E.tW i ie hi hd hpk hie 10 H.kind (some ⟨g, 0, none⟩) 1 cap (Nat.le_refl _) f (by rw [hK]; exact hf) (.func E.gAll1) #[] #[.pointer (some ⟨ob, 0, none⟩)] w
  rw [hρ] at hS
  refine hS.mono ?_
  rintro e w' ⟨rfl, os, rfl⟩
  refine ⟨_, rfl, g, cap, ks, rfl, hbg, hglt, List.Perm.refl _, ?_, ?_, ?_⟩
  ·match ks, hn with
   | [x], _ => exact List.pairwise_singleton _ _
  ·intro j u hu
   rw [Go.Sort.cell?_grow _ _ _ hglt]
   exact hcells j u hu
  ·refine ⟨rfl, rfl, rfl, by simp [Go.Sort.grow], fun k hk => BlkKeep.of_eq (Go.Sort.heap_grow_old _ _ hk)⟩
end
end Go.Km
namespace Go.Km
open Go Go.RowKit
attribute [local irreducible] vc rO_ runG runS runD
theorem own_heapG {w w' : World} {B : Nat} {e : TypeId} {s : Nat} {v : Value} {n : Nat} {xs : List Value} (h : w.ownsRow B e s v n xs) (hk : ∀ g, v.ownBlock = some g → w'.heap[g]? = w.heap[g]?) : w'.ownsRow B e s v n xs := by
 refine ⟨h.1, ?_⟩
 rcases h.2 with h | ⟨g, cap, cur, rfl, h2, h3, h4⟩
 ·exact .inl h
 ·exact .inr ⟨g, cap, cur, rfl, h2, by rw [hk g rfl]; exact h3, h4⟩
theorem own_lt {w : World} {B : Nat} {e : TypeId} {s : Nat} {v : Value} {n : Nat} {xs : List Value} (h : w.ownsRow B e s v n xs) : ∀ g, v.ownBlock = some g → B ≤ g ∧ g < w.heap.size := by
 intro g hg
 rcases h.2 with ⟨rfl, _⟩ | ⟨g', cap, cur, rfl, h2, h3, h4⟩
 ·cases hg
 ·simp only [Value.ownBlock, Option.some.injEq] at hg
  subst hg
  exact ⟨h2, (Array.getElem?_eq_some_iff.1 h3).1⟩
theorem own_one {w : World} {B : Nat} {e : TypeId} {s : Nat} {v : Value} {n : Nat} {xs : List Value} (h : w.ownsRow B e s v n xs) : v.oneCell' = true ∧ v.cells = #[v] := by
 rcases h.2 with ⟨rfl, _⟩ | ⟨g', cap, cur, rfl, h2, h3, h4⟩ <;> exact ⟨rfl, rfl⟩
structure DSt (E : Env) (U db : Nat) (w : World) (dv : Value) (xs : List UInt8) : Prop where
 cell : w.cell? ⟨db, 0, none⟩ = some dv
 free : Free w db 0
 own : w.ownsRow U E.tU8 1 dv xs.length (xs.map bv)
 ne : dv.ownBlock ≠ some db
 U : U ≤ db
structure DKeep (U db : Nat) (w : World) (dv : Value) (w' : World) (dv' : Value) : Prop where
 below : Below U w w'
 same : ∀ k, k < w.heap.size → k ≠ db → dv.ownBlock ≠ some k → w'.heap[k]? = w.heap[k]?
 row : ∀ g, dv'.ownBlock = some g → dv.ownBlock = some g ∨ w.heap.size ≤ g
theorem DKeep.refl (U db : Nat) (w : World) (dv : Value) : DKeep U db w dv w dv := ⟨Below.refl _ _, fun _ _ _ _ => rfl, fun _ h => .inl h⟩
theorem DKeep.trans {U db : Nat} {w w1 w2 : World} {dv d1 d2 : Value} (h : DKeep U db w dv w1 d1) (k : DKeep U db w1 d1 w2 d2) : DKeep U db w dv w2 d2 := by
 have hz := h.below.size
 refine ⟨h.below.trans k.below, fun j hj hd hr => ?_, fun g hg => ?_⟩
 ·rw [k.same j (by omega) hd (fun e => ?_), h.same j hj hd hr]
  rcases h.row j e with h1 | h1
  ·exact hr h1
  ·omega
 ·rcases k.row g hg with h1 | h1
  ·exact h.row g h1
  ·exact .inr (by omega)
theorem DSt.step {E : Env} {U db : Nat} {w w1 : World} {dv d1 : Value} {xs ys : List UInt8} (h : DSt E U db w dv xs) (ho : w1.ownsRow U E.tU8 1 d1 ys.length (ys.map bv)) (hb : Below U w w1) (hk : Keep w dv d1 w1) : Free w1 db 0 ∧ DSt E U db (w1.setCell ⟨db, 0, none⟩ d1) d1 ys ∧ DKeep U db w dv (w1.setCell ⟨db, 0, none⟩ d1) d1 := by
 have hdb : db < w.heap.size := lt_of_cell h.cell
 have hz := hb.size
 have hf1 : Free w1 db 0 := free_at (hk.1 db hdb h.ne) h.free
 have hne : d1.ownBlock ≠ some db := fun e => by
  rcases hk.2 db e with h1 | h1
  ·exact h.ne h1
  ·omega
 refine ⟨hf1, ⟨cell_setCell_same _ hf1.1, hf1.eff ((Eff.refl (fun k _ => k = db) _).setCell _ _ _ (fun _ => rfl)), own_heapG ho (fun g hg => Below.heap_setCell _ _ _ _ (fun e => hne (by rw [hg, e]))), hne, h.U⟩, hb.setCell (p := ⟨db, 0, none⟩) h.U _, fun k hk1 hk2 hk3 => ?_, hk.2⟩
 rw [Below.heap_setCell _ _ _ _ hk2]
 exact hk.1 k hk1 hk3
section
variable {P : Program} {E : Env}
theorem k_gEach1 (ht : Text P E.gEach1 2 16 #[] (c_gEach1 E)) (huv : ∀ (n : Nat) U w, n < 4294967296 → Wr1K P E E.wUvarint U [.int .u32 n] (Go.Km.uvar n) w) (HB : rowB P E.tB E.tU8 1 = true) (oB : oneT P E.tB = true) (iu : intT P E.tW = some .u32) (ii : intT P E.tI = some .i64)
  {w : World} {U db k : Nat} {dv val : Value} {xs l : List UInt8} (hd : DSt E U db w dv xs) (hk : k < 4294967296) (hv : ∃ ad cap, val = .slice ad l.length cap) (hsrc : ∀ w', Below U w w' → Src P 1 E.tB val l.length (l.map bv) w') (hb : xs.length + (wrTag (k, l)).length ≤ big) :
  CallsV P E.gEach1 #[.int .u32 (k : Int), val, .pointer (some ⟨db, 0, none⟩)] w fun _ w' => ∃ dv', DSt E U db w' dv' (xs ++ wrTag (k, l)) ∧ DKeep U db w dv w' dv' := by
 have hbig : big ≤ 2147483000 := Nat.le_refl _
 have hwr : (wrTag (k, l)).length = (Go.Km.uvar k).length + (Go.Km.uvar l.length).length + l.length := by simp [wrTag]; omega
 obtain ⟨ad, cap, hval⟩ := hv
 refine CallsV.enter ht (by simp) ?_
 intro a hsz hdf harg
 have e0 := harg 0 (.int .u32 (k : Int)) (by simp)
 have e1 := harg 1 val (by simp)
 have e2 := harg 2 (.pointer (some ⟨db, 0, none⟩)) (by simp)
 have hUw : U ≤ w.heap.size := by have := lt_of_cell hd.cell; have := hd.U; omega
 unfold c_gEach1
 refine vX ?_
 refine rL (b := db) (o := 0) (v := dv) (by simp (disch := (try simp only [sP]); omega) only [eV, e2]) oB hd.cell ?_
 refine rM ?_
 refine r_call' (args := #[dv, .int .u32 (k : Int)]) ?_ (huv k U w hk dv xs hd.own hUw (by omega)) ?_
 ·simp only [lM]
  simp (disch := (try simp only [sP]); omega) only [eV, e0]
 rintro d1 w1 ⟨ho1, hb1, hk1⟩
 obtain ⟨hf1, hd1, hkp1⟩ := hd.step ho1 hb1 hk1
 refine r_store (b := db) (o := 0) (v := d1) (by simp (disch := (try simp only [sP]); omega) only [eV, e2]) (by simp (disch := (try simp only [sP]); omega) only [eV]) (own_one ho1).1 oB hf1 ?_
 refine dn ?_
 generalize w1.setCell ⟨db, 0, none⟩ d1 = w2 at *
 have hUw2 : U ≤ w2.heap.size := by have := hkp1.below.size; omega
 refine vX ?_
 refine rL (b := db) (o := 0) (v := d1) (by simp (disch := (try simp only [sP]); omega) only [eV, e2]) oB hd1.cell ?_
 refine rM ?_
 refine r_len (ad := ad) (n := l.length) (c := cap) (rB HB) (by simp (disch := (try simp only [sP]); omega) only [eV, e1, hval]) ?_
 refine r_conv (k := .i64) (k' := .u32) (m := (l.length : Int)) ii iu (by simp (disch := (try simp only [sP]); omega) only [eV]) ?_
 rw [wrapu32 (by omega) (by omega)]
 refine r_call' (args := #[d1, .int .u32 (l.length : Int)]) ?_ (huv l.length U w2 (by omega) d1 _ hd1.own hUw2 (by simp only [List.length_append]; omega)) ?_
 ·simp only [lM]
  simp (disch := (try simp only [sP]); omega) only [eV]
 rintro d2 w3 ⟨ho2, hb2, hk2⟩
 obtain ⟨hf2, hd2, hkp2⟩ := hd1.step ho2 hb2 hk2
 refine r_store (b := db) (o := 0) (v := d2) (by simp (disch := (try simp only [sP]); omega) only [eV, e2]) (by simp (disch := (try simp only [sP]); omega) only [eV]) (own_one ho2).1 oB hf2 ?_
 refine dn ?_
 generalize w3.setCell ⟨db, 0, none⟩ d2 = w4 at *
 have hkp12 := hkp1.trans hkp2
 have hUw4 : U ≤ w4.heap.size := by have := hkp12.below.size; omega
 refine vX ?_
 refine rL (b := db) (o := 0) (v := d2) (by simp (disch := (try simp only [sP]); omega) only [eV, e2]) oB hd2.cell ?_
 refine rM ?_
 refine r_appendK (U := U) (v := d2) (n := (xs ++ Go.Km.uvar k ++ Go.Km.uvar l.length).length) (xs := (xs ++ Go.Km.uvar k ++ Go.Km.uvar l.length).map bv) (u := val) (m := l.length) (news := l.map bv) HB (by simp (disch := (try simp only [sP]); omega) only [eV]) (by simp (disch := (try simp only [sP]); omega) only [eV, e1]) hd2.own hUw4 (hsrc _ hkp12.below) (by simp only [List.length_append]; omega) ?_
 intro d3 w5 ho3 hb3 hk3
 have ho3' : w5.ownsRow U E.tU8 1 d3 (xs ++ wrTag (k, l)).length ((xs ++ wrTag (k, l)).map bv) := by
  have e : xs ++ wrTag (k, l) = (xs ++ Go.Km.uvar k ++ Go.Km.uvar l.length) ++ l := by simp [wrTag, List.append_assoc]
  rw [e, List.length_append, List.map_append]
  exact ho3
 obtain ⟨hf3, hd3, hkp3⟩ := hd2.step ho3' hb3 hk3
 refine r_store (b := db) (o := 0) (v := d3) (by simp (disch := (try simp only [sP]); omega) only [eV, e2]) (by simp (disch := (try simp only [sP]); omega) only [eV]) (own_one ho3').1 oB hf3 ?_
 refine dn (vN ?_)
 exact ⟨by simp only [dF]; exact hdf, .tuple #[], by simp [results], d3, hd3, hkp12.trans hkp3⟩
end
end Go.Km
namespace Go.Km
open Go Go.RowKit Go.ChangeMaps
attribute [local irreducible] vc rO_ runG runS runD
section
variable {P : Program} {a : Act} {w : World} {r : List Oper} {Q : Exit → Act → World → Prop}
theorem r_callF {d f x xs ts ty p af g pre post args} {S : Value → World → Prop} (hx : a.eval x = .func (.func f) pre post) (ha : pre ++ xs.map a.eval ++ post = args) (h : CallsV P f args w S) (hn : ∀ v w', S v w' → rO_ P Q r (a.put d v) w') :
  rO_ P Q (⟨d, .call { callee := .value x, args := xs, argTypes := ts }, ty, p, af, g⟩ :: r) a w := by
 refine st ?_
 obtain ⟨he, hc⟩ := h
 have h3 : (callFunc f (pre ++ xs.map a.eval ++ post)).run P w = .ok (.enter f args) w := by rw [ha]; exact he args w
 simp only [Oper.wp, execOp, resolve, hx, Deferred.ofValue, Sem.run_bind, Sem.run_pure, Result.andThen_ok, invoke]
 simp only [Oper.upon, h3]
 refine hc.mono ?_
 rintro e w' ⟨v, rfl, hs⟩
 exact hn v w' hs
theorem r_range {d t x ty p af g q es clock kt et} (ht : P.underlying t = some (.map kt et)) (hx : a.eval x = .map (some q)) (hq : w.heap[q]? = some (.map es clock)) (h : rO_ P Q r (a.put (some d) (.pointer (some ⟨w.heap.size, 0, none⟩))) (w.alloc (.mapIter (some q) clock #[] clock))) :
  rO_ P Q (⟨some d, .range t x, ty, p, af, g⟩ :: r) a w := by
 refine st ?_
 simp only [Oper.wp, execOp, hx, Sem.run_bind, run_range_map w t kt et q es clock ht hq, Sem.run_pure, Result.andThen_ok, Oper.upon_value]
 exact h
theorem r_next {d x ty p af g rr q es clock seen} (hx : a.eval x = .pointer (some ⟨rr, 0, none⟩)) (hr : w.heap[rr]? = some (.mapIter (some q) clock seen clock)) (hq : w.heap[q]? = some (.map es clock)) (hold : ∀ e ∈ es.toList, e.born < clock)
  (h0 : (leftOf es seen).size = 0 → rO_ P Q r (a.put (some d) (.tuple #[.bool false])) w)
  (h1 : ∀ e ∈ (leftOf es seen).toList, ∀ w1 : World, (w1 = w ∨ w1 = w.drew) → rO_ P Q r (a.put (some d) (.tuple #[.bool true, e.key, e.val])) (setBlock w1 rr (.mapIter (some q) clock (seen.push e.born) clock))) :
  rO_ P Q (⟨some d, .next x false, ty, p, af, g⟩ :: r) a w := by
 refine st ?_
 rcases run_next_at (P := P) w ty rr q clock clock seen es clock hr hq hold (Nat.le_refl _) with ⟨hz, hrun⟩ | ⟨e, he, w1, hw1, hrun⟩
 ·simp only [Oper.wp, execOp, hx, Sem.run_bind, hrun, Sem.run_pure, Result.andThen_ok, Oper.upon_value]
  exact h0 hz
 ·simp only [Oper.wp, execOp, hx, Sem.run_bind, hrun, Sem.run_pure, Result.andThen_ok, Oper.upon_value]
  exact h1 e he w1 hw1
theorem r_entry {d x ty p af g rr q since} {seen : Array Nat} {es : Array MapEntry} {clock : Nat} {e : MapEntry} (hx : a.eval x = .pointer (some ⟨rr, 0, none⟩)) (hr : w.heap[rr]? = some (.mapIter (some q) since (seen.push e.born) clock)) (hq : w.heap[q]? = some (.map es clock)) (he : e ∈ es.toList) (hn : (es.toList.map (·.born)).Nodup)
  (h : rO_ P Q r (a.put (some d) (.tuple #[e.key, e.val])) w) : rO_ P Q (⟨some d, .entry x, ty, p, af, g⟩ :: r) a w := by
 refine st ?_
 simp only [Oper.wp, execOp, hx, Sem.run_bind, run_entry_at (P := P) w rr q since seen es clock e hr hq he hn, Sem.run_pure, Result.andThen_ok, Oper.upon_value]
 exact h
theorem r_lookup {d t x i ty p af g kt et q es clock k j e} {l : List (Nat × List UInt8)} (ht : P.underlying t = some (.map kt et)) (hk : P.underlying kt = some (.int .u32)) (hx : a.eval x = .map (some q)) (hi : a.eval i = .int .u32 ((k : Nat) : Int)) (hq : w.heap[q]? = some (.map es clock)) (hl : l.length = es.size)
  (hkeys : ∀ (i : Nat) x, l[i]? = some x → ∃ e : MapEntry, es[i]? = some e ∧ e.key = .int .u32 (x.1 : Int)) (hf : l.findIdx? (·.1 == k) = some j) (he : es[j]? = some e)
  (h : rO_ P Q r (a.put (some d) e.val) w) : rO_ P Q (⟨some d, .lookup t x i false, ty, p, af, g⟩ :: r) a w := by
 refine st ?_
 have hg : (getObj q).run P w = .ok (.map es clock) w := by simp [getObj, Sem.run, hq]
 have hfk := run_findKey (P := P) (k := k) (w := w) (es := es.toList) (l := l) hk (by simpa using hl) (fun i x hx => by obtain ⟨e, e1, e2⟩ := hkeys i x hx; exact ⟨e, by simpa using e1, e2⟩)
 rw [hf] at hfk
 simp only [Option.bind_some, Array.getElem?_toList, he, Option.map_some] at hfk
 have hr : (Instr.lookup t (.map (some q)) (.int .u32 ((k : Nat) : Int)) false).run P w = .ok e.val w := by
  simp [Instr.lookup, run_underlying ht, hg, run_checkKey hk, hfk]
 simp only [Oper.wp, execOp, hx, hi, Sem.run_bind, hr, Sem.run_pure, Result.andThen_ok, Oper.upon_value]
 exact h
theorem r_makeIface {d t x ty p af g e} (ht : P.underlying t = some (.slice e)) (h : rO_ P Q r (a.put (some d) (.iface t (a.eval x))) w) : rO_ P Q (⟨some d, .makeInterface t x, ty, p, af, g⟩ :: r) a w := by
 refine st ?_
 have hr : (Instr.makeInterface t (a.eval x)).run P w = .ok (.iface t (a.eval x)) w := by simp [Instr.makeInterface, run_underlying ht]
 simp only [Oper.wp, execOp, Sem.run_bind, hr, Sem.run_pure, Result.andThen_ok, Oper.upon_value]
 exact h
theorem r_makeSlice {d t l c ty p af g e s} {n : Nat} (hB : rowB P t e s = true) (hl : a.eval l = .int .i64 0) (hc : a.eval c = .int .i64 (n : Int)) (hn : n ≤ big)
  (h : ∀ w', w'.ownsRow w.heap.size e s (.slice (some ⟨w.heap.size, 0, none⟩) 0 n) 0 [] → Below w.heap.size w w' → w'.heap.size = w.heap.size + 1 → rO_ P Q r (a.put (some d) (.slice (some ⟨w.heap.size, 0, none⟩) 0 n)) w') :
  rO_ P Q (⟨some d, .makeSlice t l c, ty, p, af, g⟩ :: r) a w := by
 refine st ?_
 obtain ⟨hu, i, z, hi, hsz, hs0, hz, hzs, hby⟩ := rowB_inv hB
 have hbig : big ≤ 2147483000 := Nat.le_refl _
 have hbytes : i.bytes * n ≤ 281474976710656 := by
  have := Nat.mul_le_mul hby hn
  unfold big at this
  omega
 have h63 : (n : Int) ≤ 9223372036854775807 := by omega
 have hb' : (i.bytes : Int) * (n : Int) ≤ 281474976710656 := by
  have h : ((i.bytes * n : Nat) : Int) ≤ 281474976710656 := by omega
  rwa [Int.natCast_mul] at h
 have hr := run_make (P := P) w t e i z hu hi hz .i64 .i64 0 n (Int.le_refl _) (by omega) hb' h63
 simp only [Int.toNat_zero, Int.toNat_natCast] at hr
 simp only [Oper.wp, execOp, hl, hc, Sem.run_bind, hr, Sem.run_pure, Result.andThen_ok, Oper.upon_value]
 refine h _ ?_ ((Below.refl w.heap.size w).alloc (o := .cells _ _) (Nat.le_refl _)) (by simp)
 rw [hsz]
 exact World.ownsRow_made w _ n (Nat.le_refl _) (by unfold maxLen; omega) (size_madeCells _ _)
end
theorem perm_left : ∀ (L : List MapEntry) (e : MapEntry), (L.map (·.born)).Nodup → e ∈ L → L.Perm (e :: L.filter (fun x => x.born != e.born))
 | [], e, _, h => by simp at h
 | x :: L, e, hn, h => by
  simp only [List.map_cons] at hn
  have hn2 := List.nodup_cons.1 hn
  rcases List.mem_cons.1 h with rfl | h
  ·have : L.filter (fun x => x.born != e.born) = L := by
    refine List.filter_eq_self.2 fun y hy => ?_
    have : y.born ≠ e.born := fun hh => hn2.1 (by rw [← hh]; exact List.mem_map.2 ⟨y, hy, rfl⟩)
    simpa using this
   rw [List.filter_cons_of_neg (by simp), this]
  ·have hne : x.born ≠ e.born := fun hh => hn2.1 (by rw [hh]; exact List.mem_map.2 ⟨e, h, rfl⟩)
   rw [List.filter_cons_of_pos (by simpa using hne)]
   exact ((perm_left L e hn2.2 h).cons x).trans (List.Perm.swap _ _ _)
theorem left_push (es : Array MapEntry) (seen : Array Nat) (e : MapEntry) : (leftOf es (seen.push e.born)).toList = (leftOf es seen).toList.filter (fun x => x.born != e.born) := by
 unfold leftOf
 simp only [Array.toList_filter, List.filter_filter]
 congr 1
 funext x
 rw [Array.contains_push]
 cases h1 : seen.contains x.born <;> cases h2 : (x.born == e.born) <;> simp [bne, h1, h2]
theorem left_step {es : Array MapEntry} {seen : Array Nat} {e : MapEntry} (hn : (es.toList.map (·.born)).Nodup) (he : e ∈ (leftOf es seen).toList) : (leftOf es seen).toList.Perm (e :: (leftOf es (seen.push e.born)).toList) := by
 rw [left_push]
 refine perm_left _ e ?_ he
 unfold leftOf
 rw [Array.toList_filter]
 exact hn.sublist (List.filter_sublist.map _)
def keyOf (e : MapEntry) : Nat := match e.key with | .int _ n => n.toNat | _ => 0
theorem keyOf_eq {e : MapEntry} {n : Nat} (h : e.key = .int .u32 (n : Int)) : keyOf e = n := by simp [keyOf, h]
theorem keys_eq {es : Array MapEntry} {l : List (Nat × List UInt8)} (hl : l.length = es.size) (h : ∀ (i : Nat) x, l[i]? = some x → ∃ e : MapEntry, es[i]? = some e ∧ e.key = .int .u32 (x.1 : Int)) : es.toList.map keyOf = l.map (·.1) := by
 apply List.ext_getElem?
 intro i
 simp only [List.getElem?_map, Array.getElem?_toList]
 rcases Nat.lt_or_ge i l.length with hi | hi
 ·obtain ⟨e, h1, h2⟩ := h i l[i] (List.getElem?_eq_getElem hi)
  rw [h1, List.getElem?_eq_getElem hi]
  simp [keyOf_eq h2]
 ·rw [List.getElem?_eq_none hi, Array.getElem?_eq_none (by omega)]
  rfl
theorem key_enc {es : Array MapEntry} {l : List (Nat × List UInt8)} (hl : l.length = es.size) (h : ∀ (i : Nat) x, l[i]? = some x → ∃ e : MapEntry, es[i]? = some e ∧ e.key = .int .u32 (x.1 : Int)) {e : MapEntry} (he : e ∈ es.toList) : e.key = encU (keyOf e) := by
 obtain ⟨i, hi, rfl⟩ := List.mem_iff_getElem.1 he
 have hi' : i < es.size := by simpa using hi
 obtain ⟨e', h1, h2⟩ := h i (l[i]'(by omega)) (List.getElem?_eq_getElem (by omega))
 have h3 : es.toList[i] = e' := by
  rw [Array.getElem?_eq_getElem hi'] at h1
  simpa using h1
 rw [h3, keyOf_eq h2, h2]
 rfl
end Go.Km
