/- The reader's walk: a list as a whole. The reader's walk: the fields of a struct. readFrom, ReadFrom. ReadFrom; a message is read and written again. The plain law, first part: numbers are read as they were written; what is read stays so if more follows. The plain law, second part: what is written is read. The plain law, third part: what is read can be written, in no more octets. The laws 'what is read of any octets ..': over any program. Rows of laws: what the arguments give; how they are left; what a listed error gives. Over any program. -/
import Derived.Test.YtnbhpeaapbpaeaaDoorKb03
import Derived.WalkKit
import Derived.ProofKit
import Derived.OpenShut
import Derived.ChangeSlices
import Derived.LaidLaws
import Derived.Carry
import Derived.MakeChecks
set_option linter.unusedSimpArgs false
set_option linter.unusedVariables false
namespace Go.Km
open Go Go.RowKit
attribute [local irreducible] vc rO_ runG runS runD
section
variable {P : Program} {E : Env} {T : List (Nat × List UInt8) → Prop}
theorem mul_lt {i j n : Nat} (h : i < j) : i * n + n ≤ j * n := by
 have := Nat.mul_le_mul_right n h
 rwa [Nat.succ_mul] at this
theorem rv_list (H : EnvR P E T) {TS : TypeId} {null : Option Nat} {e : Ty} (hlf : e.tp = none → e.RVal P E T) (hfs : ∀ TP TU FD fs, e = .struct TP TU FD fs → fs.RVal P E T) : (Ty.list TS null e).RVal P E T := by
 intro x ver fx L TP TU s f n t b rb sb ev a w st Q hok htx hs hn ht hst hl kn kr
 have hnL := hs.nL; have hLt := hs.Lt; have h7 := hs.seven
 obtain ⟨pb, po, off, hp, hsn, hfo, hcf⟩ := hl rfl
 simp only [Ty.okR, Bool.and_eq_true, Bool.not_eq_true'] at hok
 obtain ⟨⟨⟨hlen, hTS⟩, hnl⟩, hoke⟩ := hok
 simp only [Ty.txR] at htx
 obtain ⟨⟨te, hB, hz⟩, htxe⟩ := htx
 obtain ⟨zv, hzt, hzc⟩ : ∃ z, zeroT P te = some z ∧ z.cells.toList = e.zc := by
  cases h : zeroT P te with
  | none => rw [h] at hz; cases hz
  | some z => rw [h] at hz; exact ⟨z, rfl, by simpa using hz⟩
 have hn' : n + 4 + (match e.tp with | some _ => 2 | none => 1) + e.rn ≤ L := by
  simp only [Ty.rn] at hn
  cases htp : e.tp <;> simp only [htp] at hn ⊢ <;> omega
 have hn3 : n + 5 ≤ L := by
  cases htp : e.tp <;> simp only [htp] at hn' <;> omega
 have ht1 : t + 5 + (match x.fl with | none => 1 | some _ => 3) + (if null.isSome then 7 else 0) + 3 + 2 + 5 + 5 + e.h + e.rt x + 1 ≤ a.tmps.size := by
  simp only [Ty.rt] at ht
  cases hx : x.fl <;> simp only [hx] at ht ⊢ <;> omega
 have hkt := hs.kt
 have hbadr : (rdCn fx st).2.2 = true → ((Ty.list TS null e).rd fx ver st).2.2 = true := fun h => by simp only [Ty.rd, h, if_true]
 rw [rc_list]
 have htt : t ≤ t + 5 + (match x.fl with | none => 1 | some _ => 3) + (if null.isSome then 7 else 0) + 3 + 2 + 5 := by omega
 have ht0 : t + 5 + (match x.fl with | none => 1 | some _ => 3) + (if null.isSome then 7 else 0) + 3 + 2 + 5 ≤ a.tmps.size := by omega
 refine m_listHead H hlen hTS hB hzt hs (by omega) (by cases hx : x.fl <;> simp only [hx] at ht0 ⊢ <;> omega) hst hp hsn hfo hcf ?_ (fun a' w' h1 h2 h3 h4 h5 => kr a' w' h1 h2 h3 h4 (hbadr h5))
 intro a1 w1 v hf1 hst1 hnb hy hz1 hE1 hL
 have hs1 := hf1.size
 generalize t + 5 + (match x.fl with | none => 1 | some _ => 3) + (if null.isSome then 7 else 0) + 3 + 2 + 5 = t2 at *
 have hs2 : RSl x L n t2 fx := hs.up (Nat.le_refl _) (by omega) htt
 have hlb : (rdCn fx st).1 ≤ big := by
  have g1 := rdCn_le hnb
  have g2 := hst1.rd.len
  omega
 -- the end
 have fin : ∀ a2 w2 d, Fr (KR L n t) a a2 → RSta E x ver fx rb sb ev a2 w2 ((Ty.list TS null e).rd fx ver st).2 → a2.eval (.tmp (n + 1)) = v → (Ty.list TS null e).Rep w2 ⟨sb, T⟩ w.heap.size [v] d → Eff (RM rb) w w2 → (((Ty.list TS null e).rd fx ver st).2.2 = false → d = ((Ty.list TS null e).rd fx ver st).1) →
   vc P (sq [rg [oMove (t2 + 5 + e.h + e.rt x) (.tmp (n + 1)) TS, oAssign n (.tmp (t2 + 5 + e.h + e.rt x)) TS]]) Q a2 w2 := by
  intro a2 w2 d hf hst2 hv hrep hE hd
  have hsz := hf.size
  refine vS (vR (by simp) ?_)
  refine rM ?_
  refine rA ?_
  refine dn (vN ?_)
  have hf3 : ∀ u1 u2, Fr (KR L n t) a2 ((a2.put (some (t2 + 5 + e.h + e.rt x)) u1).put (some n) u2) := fun u1 u2 => ((Fr.refl _ a2).put _ (hkt _ (by omega))).put _ (hs.kn n (Nat.le_refl _) (by omega))
  refine kn _ w2 [v] d (hf.trans (hf3 _ _)) (hst2.fr hs (hf3 _ _)) ?_ hrep hE hd
  simp only [Ty.Val, Ty.arr, Ty.rslot, Bool.false_eq_true, if_false, Nat.add_zero]
  rw [← hv]
  simp (disch := (try simp only [sP]); omega) only [eV]
 rcases hL with ⟨hl0, base, rfl, hbase⟩ | ⟨hl0, q, cap, rfl, hq1, hq2, hcz, hfz⟩
 ·
  have hrd : (Ty.list TS null e).rd fx ver st = (if emptyB null ver (rdCn fx st).1 then .list (some []) else .list none, (rdCn fx st).2) := by
   simp only [Ty.rd, hnb, Bool.false_eq_true, if_false]
   rw [if_pos hl0]
  refine vS (m_rloop (len := 0) (S := fun _ => (rdCn fx st).2) (J := fun _ w' => w' = w1) (R := fun _ => False) hs2 (by omega) (by omega) hz1 (by omega) hlb hst1 rfl (fun i _ _ hi => absurd hi (Nat.not_lt_zero i)) ?_ (fun _ _ _ _ _ h => h.elim))
  rintro a2 w2 hf2 hst2 rfl
  refine fin a2 w2 ((Ty.list TS null e).rd fx ver st).1 (hf1.trans (hf2.mono (KR.mono (by omega) htt))) (by rw [hrd]; exact hst2) (by rw [hf2.slot _ (.inl (by omega))]; exact hy) ?_ hE1 (fun _ => rfl)
  rw [hrd]
  split at hbase
  ·rename_i hh
   obtain ⟨q, rfl, g1, g2⟩ := hbase
   simp only [hh, if_true]
   exact ⟨q, 0, rfl, g1, g2, Nat.zero_le _, fun i d h => by simp at h⟩
  ·rename_i hh
   subst hbase
   rw [if_neg hh]
   rfl
 ·
  have hrd : (Ty.list TS null e).rd fx ver st = (.list (some (rdMany (fun s => e.rd fx ver s) (rdCn fx st).1.toNat (rdCn fx st).2).1), (rdMany (fun s => e.rd fx ver s) (rdCn fx st).1.toNat (rdCn fx st).2).2) := by
   simp only [Ty.rd, hnb, Bool.false_eq_true, if_false]
   rw [if_neg (by omega)]
  have hmono : ∀ s : RSt, (e.rd fx ver s).2.2 = false → s.2 = false := fun s => Ty.rd_mono fx ver e s
  generalize hlenN : (rdCn fx st).1.toNat = len at *
  have hqrb : q ≠ rb := by have := hst.rd.rb_lt; omega
  have hqsb : q ≠ sb := by have := hst.rd.lt; omega
  have hqev : q ≠ E.vErr := by have := lt_of_cell hst.err; omega
  have hrbq : rb < q + 1 := by have := hst.rd.rb_lt; omega
  rw [hzc] at hcz
  refine vS (m_rloop (len := len) (S := fun i => (rdMany (fun s => e.rd fx ver s) i (rdCn fx st).2).2)
   (J := fun i w' => Eff (fun k j => RM rb k j ∨ k = q) w1 w' ∧ (∃ ds : List D, ds.length = i ∧ (∀ (j : Nat) (d : D), ds[j]? = some d → ∃ c : List Value, c.length = e.size ∧ Cells w' q (j * e.size) c ∧ e.Rep w' ⟨sb, T⟩ (q + 1) c d) ∧
    ((rdMany (fun s => e.rd fx ver s) i (rdCn fx st).2).2.2 = false → ds = (rdMany (fun s => e.rd fx ver s) i (rdCn fx st).2).1)) ∧ (∀ j, i ≤ j → j < len → Cells w' q (j * e.size) e.zc))
   (R := fun w' => Eff (RM rb) w w' ∧ ((Ty.list TS null e).rd fx ver st).2.2 = true) hs2 (by omega) (by omega) hz1 hlenN.symm hlb hst1 ?_ ?_ ?_ ?_)
  ·exact ⟨Eff.refl _ _, ⟨[], rfl, fun j d h => by simp at h, fun _ => rfl⟩, fun j _ hj => hcz j hj⟩
  ·rintro i a2 w2 hi hf2 hst2 h3 ⟨hE2, ⟨ds, hdl, hds, hdeq⟩, hrest⟩ Q1 kn1 kr1
   have hw2 := hE2.size
   have hs22 := hf2.size
   have hEw : ∀ w3, Eff (FM rb q (i * e.size) e.size) w2 w3 → Eff (fun k j => RM rb k j ∨ k = q) w1 w3 := fun w3 h => hE2.trans (h.mono (fun k j _ h => h.imp id (fun h => h.1)))
   refine m_elem hlf hfs (q := q) (len := len) (cap := cap) (i := i) hoke hnl htxe hB hs2 hn' (by omega) hst2 (by rw [hf2.slot _ (.inl (by omega))]; exact hy) h3 hi (hrest i (Nat.le_refl _) hi)
    (fun j hj => (hfz (i * e.size + j) (by have := mul_lt (n := e.size) hi; omega)).eff hE2) hqrb hqsb hqev hrbq (by omega) ?_ ?_
   ·intro a3 w3 c d g1 g2 g3 g4 g5 g6 g7
    refine kn1 a3 w3 g1 ?_ ⟨hEw w3 g6, ⟨ds ++ [d], by simp [hdl], ?_, ?_⟩, ?_⟩
    ·simp only [rdMany_snoc]
     exact g2
    ·intro j d' hj
     rcases Nat.lt_or_ge j ds.length with h | h
     ·rw [List.getElem?_append_left h] at hj
      obtain ⟨c', m1, m2, m3⟩ := hds j d' hj
      have hlt := mul_lt (n := e.size) (show j < i by omega)
      refine ⟨c', m1, m2.eff g6 ?_, Ty.Rep.eff g6 ?_ e (q + 1) (q + 1) c' d' ?_ (Nat.le_refl _) m3⟩
      ·rintro u hu (⟨h, _⟩ | ⟨_, h, _⟩)
       ·exact hqrb h
       ·omega
      ·rintro u (⟨h, _⟩ | ⟨h, _⟩)
       ·exact hst.rd.ne h.symm
       ·exact hqsb h.symm
      ·rintro k u hk _ (⟨h, _⟩ | ⟨h, _⟩) <;> omega
     ·rw [List.getElem?_append_right h] at hj
      have hj0 : j - ds.length = 0 := by
       rcases Nat.eq_zero_or_pos (j - ds.length) with h | h
       ·exact h
       ·rw [List.getElem?_eq_none (by simp; omega)] at hj; cases hj
      rw [hj0] at hj
      simp only [List.getElem?_cons_zero, Option.some.injEq] at hj
      subst hj
      have : j = i := by omega
      subst this
      exact ⟨c, g3, g4, g5⟩
    ·intro h
     simp only [rdMany_snoc] at h ⊢
     rw [hdeq (hmono _ h), g7 h]
    ·intro j hj1 hj2
     have hlt := mul_lt (n := e.size) (show i < j by omega)
     refine (hrest j (by omega) hj2).eff g6 ?_
     rintro u hu (⟨h, _⟩ | ⟨_, _, h⟩)
     ·exact hqrb h
     ·omega
   ·intro a3 w3 g1 g2 g3 g4 g5
    refine kr1 a3 w3 g1 g2 g3 ⟨hE1.trans' (hEw w3 g4) ?_, ?_⟩
    ·rintro k j hk (h | h)
     ·exact h
     ·omega
    ·rw [hrd]
     have := rdMany_bad (f := fun s => e.rd fx ver s) hmono (i + 1) (rdCn fx st).2 (len - (i + 1)) (by rw [rdMany_snoc]; exact g5)
     rwa [show i + 1 + (len - (i + 1)) = len by omega] at this
  ·rintro a2 w2 hf2 hst2 ⟨hE2, ⟨ds, hdl, hds, hdeq⟩, _⟩
   have hw2 := hE2.size
   have hE : Eff (RM rb) w w2 := by
    refine hE1.trans' hE2 ?_
    rintro k j hk (h | h)
    ·exact h
    ·omega
   refine fin a2 w2 (.list (some ds)) (hf1.trans (hf2.mono (KR.mono (by omega) htt))) (by rw [hrd]; exact hst2) (by rw [hf2.slot _ (.inl (by omega))]; exact hy) ?_ hE ?_
   ·exact ⟨q, cap, by rw [hdl], hq1, by omega, by omega, hds⟩
   ·intro h
    rw [hrd] at h ⊢
    rw [hdeq h]
  ·rintro a2 w2 g1 g2 g3 ⟨g4, g5⟩
   exact kr a2 w2 (by rw [g1, hf1.defers]) (by rw [g2, hs1]) g3 g4 g5
end
end Go.Km
namespace Go.Km
open Go Go.RowKit
attribute [local irreducible] vc rO_ runG runS runD
section
variable {P : Program} {E : Env} {T : List (Nat × List UInt8) → Prop}
theorem fv_nil (H : EnvR P E T) (hT : T []) (b0 : Bool) : (Flds.nil b0).RVal P E T := by
 intro x ver fx L TP TU s idx off n t b rb sb pb po B ev a w st Q hok htx hs hn ht hst hp hsn hc hf h1 h2 h3 hB hrB hBw kn kr
 have hnL := hs.nL; have hLt := hs.Lt; have h7 := hs.seven
 have hkt := hs.kt
 -- no tags are read
 have same : fx = false → ∀ a1, Fr (KR L n t) a a1 → Q .normal a1 w := by
  intro h a1 hfr
  subst h
  refine kn a1 w (Flds.dz (.nil b0)) [] [] hfr (hst.fr hs hfr) (Flds.dz_len _) hc (Flds.dz_rep hT (.nil b0) B rfl) (Eff.refl _ _) (fun _ => ⟨?_, ?_⟩)
  ·simp [Flds.rd]
  ·simp [Flds.rd]
 simp only [Flds.rc, rTagsC]
 cases hx : x.fl with
 | none => exact vN (same (hs.no hx) a (Fr.refl _ _))
 | some fl =>
  simp only [Flds.okR, hx, Option.isNone_some, Bool.false_or, Bool.and_eq_true, beq_iff_eq, bne_iff_ne] at hok
  obtain ⟨⟨⟨htg, hfo⟩, hrt⟩, hagg⟩ := hok
  subst htg
  simp only [Flds.rt, hx] at ht
  have hfl := hs.fl fl hx
  refine vS (vS (vR (by simp) ?_))
  refine rM ?_
  refine dn ?_
  have hf0 : Fr (KR L n t) a (a.put (some t) (a.eval (.tmp fl))) := (Fr.refl _ a).put _ (hkt _ (Nat.le_refl _))
  refine vS (vC (t := fx) (by rw [eval_put_same _ _ _ (by omega)]; exact hst.fl fl hx) ?_ ?_)
  ·intro h
   subst h
   refine vR (by simp) ?_
   refine rM ?_
   refine r_call' (args := #[.pointer (some ⟨rb, 0, none⟩)]) ?_ (H.tags hrt rb sb st w hst.rd) ?_
   ·simp only [lM]
    simp (disch := (try simp only [sP]); omega) only [eV, hst.p7]
   rintro v w1 ⟨⟨u, tags, rfl, hu, htr, htd⟩, hr, hE⟩
   refine r_nil (ad := ⟨pb, po, none⟩) (by simp (disch := (try simp only [sP]); omega) only [eV, hp]) ?_
   refine rF (b := pb) (o := po) (by simp (disch := (try simp only [sP]); omega) only [eV]) hfo ?_
   have hfree : ∀ i, i < [u].length → Free w1 pb (po + off + i) := fun i hi => (hf i (by simpa [Flds.size] using hi)).eff hE
   refine r_storeAgg (b := pb) (o := po + off) (cs := [u]) (by simp (disch := (try simp only [sP]); omega) only [eV]) (by simp (disch := (try simp only [sP]); omega) only [eV]) (by simpa using hu) hagg hfree ?_
   refine dn (vN (vN ?_))
   have hE2 := setCells_eff pb [u] w1 (po + off)
   have hE2' : Eff (FM rb pb (po + off) (Flds.nil true).size) w1 (setCells w1 pb (po + off) [u]) := hE2.mono (fun k i _ h => .inr h)
   have hE1' : Eff (FM rb pb (po + off) (Flds.nil true).size) w w1 := hE.mono (fun k i _ h => .inl h)
   generalize ha2 : Act.put (Act.put (Act.put (Act.put (Act.put a _ _) _ _) _ _) _ _) _ _ = a2
   have hf2 : Fr (KR L n t) a a2 := by
    subst ha2
    exact (((((Fr.refl _ a).put _ (hkt _ (by omega))).put _ (hkt _ (by omega))).put _ (hkt _ (by omega))).put _ (hkt _ (by omega))).put _ (hkt _ (by omega))
   refine kn a2 _ [u] [] tags hf2 ?_ (by simp [Flds.size]) ?_ ?_ (hE1'.trans hE2') ?_
   ·simp only [Flds.rd, if_true]
    exact (hst.step hs hf2 hr hE).keep hs (Fr.refl _ _) hE2 (by rintro j ⟨h, _⟩; exact h1 h.symm) (by rintro j ⟨h, _⟩; exact h2 h.symm) (by rintro j ⟨h, _⟩; exact h3 h.symm)
   ·intro j v hv
    exact setCells_cell _ _ _ _ (fun j hj => (hfree j hj).1) j v hv
   ·simp only [Flds.Rep, if_true]
    refine ⟨u, rfl, htr.eff hE2 ?_ ?_ hBw⟩
    ·rintro j ⟨h, _⟩; exact h2 h.symm
    ·rintro k j hk _ ⟨h, _⟩; omega
   ·intro h
    simp only [Flds.rd, if_true] at h
    exact ⟨by simp [Flds.rd], by rw [htd h]; simp [Flds.rd]⟩
  ·intro h
   exact vK (vN (vN (same h _ hf0)))
theorem fv_cons (H : EnvR P E T) (hT : T []) {v : Ver} {ty : Ty} {r : Flds} (hlf : ty.tp = none → ty.RVal P E T) (hfs : ∀ TP TU FD fs, ty = .struct TP TU FD fs → fs.RVal P E T) (hr : r.RVal P E T) : (Flds.cons v ty r).RVal P E T := by
 intro x ver fx L TP TU s idx off n t b rb sb pb po B ev a w st Q hok htx hs hn ht hst hp hsn hc hf h1 h2 h3 hB hrB hBw kn kr
 have hnL := hs.nL; have hLt := hs.Lt; have h7 := hs.seven
 have hkt := hs.kt
 simp only [Flds.okR, Bool.and_eq_true, beq_iff_eq] at hok
 obtain ⟨⟨⟨hfo, hokt⟩, hokz⟩, hokr⟩ := hok
 simp only [Flds.txR] at htx
 obtain ⟨htxt, htxr⟩ := htx
 simp only [Flds.rt] at ht
 simp only [Flds.size] at hf kn kr
 simp only [Flds.dz] at hc
 have hcd : Cells w pb (po + off) ty.dz := by
  have := hc.tk (n := ty.size)
  rwa [← Ty.dz_len ty, List.take_left] at this
 have hcr : Cells w pb (po + (off + ty.size)) r.dz := by
  have := hc.dp (n := ty.size)
  rwa [← Ty.dz_len ty, List.drop_left, Ty.dz_len ty, Nat.add_assoc] at this
 have hn1 : n + 1 + (match ty.tp with | some _ => 1 | none => 0) + ty.rn + r.rn ≤ L := by
  simp only [Flds.rn] at hn
  cases htp : ty.tp <;> simp only [htp] at hn ⊢ <;> omega
 simp only [Flds.rc]
 -- what comes behind
 have next : ∀ (a1 : Act) (w1 : World) (c : List Value) (d d1 : D) (st1 : RSt), Fr (KR L n t) a a1 → RSta E x ver fx rb sb ev a1 w1 st1 → c.length = ty.size → Cells w1 pb (po + off) c → ty.Rep w1 ⟨sb, T⟩ B c d → Eff (FM rb pb (po + off) ty.size) w w1 → (st1.2 = false → d = d1) →
   ((Flds.cons v ty r).rd fx ver st = (d1 :: (r.rd fx ver st1).1, (r.rd fx ver st1).2)) →
   vc P (sq (r.rc E x TP TU s (idx + 1) (n + 1 + (match ty.tp with | some _ => 1 | none => 0) + ty.rn) (t + v.nt + ty.h + ty.rt x) (b + ty.wb))) Q a1 w1 := by
  intro a1 w1 c d d1 st1 hfr hst1 hcl hcc hrep hE hd hrd
  have hsz := hfr.size
  have hw1 := hE.size
  have hMs : ∀ i, ¬ FM rb pb (po + (off + ty.size)) r.size sb i := by
   rintro i (⟨h, _⟩ | ⟨h, _⟩)
   ·exact hst.rd.ne h.symm
   ·exact h2 h.symm
  have hMB : ∀ k i, B ≤ k → ¬ FM rb pb (po + (off + ty.size)) r.size k i := by
   rintro k i hk (⟨h, _⟩ | ⟨h, _⟩) <;> omega
  have hEE : ∀ w2, Eff (FM rb pb (po + (off + ty.size)) r.size) w1 w2 → Eff (FM rb pb (po + off) (ty.size + r.size)) w w2 := by
   intro w2 h
   refine (hE.mono ?_).trans (h.mono ?_)
   ·rintro k i _ (h | ⟨g1, g2, g3⟩)
    ·exact .inl h
    ·exact .inr ⟨g1, g2, by omega⟩
   ·rintro k i _ (h | ⟨g1, g2, g3⟩)
    ·exact .inl h
    ·exact .inr ⟨g1, by omega, by omega⟩
  refine hr x ver fx L TP TU s (idx + 1) (off + ty.size) _ _ _ rb sb pb po B ev a1 w1 st1 Q hokr htxr (hs.up (by omega) (by omega) (by omega)) hn1 (by rw [hsz]; omega) hst1 (by rw [hfr.slot _ (.inl hsn)]; exact hp) (by omega)
   (hcr.eff hE ?_) (fun i hi => ?_) h1 h2 h3 hB hrB (by omega) ?_ ?_
  ·rintro i hi (⟨h, _⟩ | ⟨_, _, h⟩)
   ·exact h1 h
   ·omega
  ·have := (hf (ty.size + i) (by omega)).eff hE
   rwa [show po + off + (ty.size + i) = po + (off + ty.size) + i by omega] at this
  ·intro a2 w2 cs ds tags g1 g2 g3 g4 g5 g6 g7
   refine kn a2 w2 (c ++ cs) (d :: ds) tags (hfr.trans (g1.mono (KR.mono (by omega) (by omega)))) (by rw [hrd]; exact g2) (by rw [List.length_append, hcl, g3]) ?_ ?_ (hEE w2 g6) ?_
   ·refine (hcc.eff g6 ?_).append ?_
    ·rintro i hi (⟨h, _⟩ | ⟨_, h, _⟩)
     ·exact h1 h
     ·omega
    ·rw [hcl, show po + off + ty.size = po + (off + ty.size) by omega]
     exact g4
   ·simp only [Flds.Rep]
    rw [← hcl, List.take_left, List.drop_left]
    exact ⟨Ty.Rep.eff g6 hMs ty B B c d (fun k i hk _ => hMB k i hk) (Nat.le_refl _) hrep, g5⟩
   ·intro h
    rw [hrd] at h ⊢
    obtain ⟨rfl, rfl⟩ := g7 h
    rw [hd (Flds.rd_mono fx ver r _ h)]
    exact ⟨rfl, rfl⟩
  ·intro a2 w2 g1 g2 g3 g4 g5
   exact kr a2 w2 (by rw [g1, hfr.defers]) (by rw [g2, hsz]) g3 (hEE w2 g4) (by rw [hrd]; exact g5)
 refine vS (m_ver (K := KR L n t) hst.ver (by have := hs.vs; omega) hkt (by omega) ?_ ?_)
 ·intro hv a1 hf1 he1
  have hrd : (Flds.cons v ty r).rd fx ver st = ((ty.rd fx ver st).1 :: (r.rd fx ver (ty.rd fx ver st).2).1, (r.rd fx ver (ty.rd fx ver st).2).2) := by simp only [Flds.rd, hv, if_true]
  have hbad : (ty.rd fx ver st).2.2 = true → ((Flds.cons v ty r).rd fx ver st).2.2.2 = true := by
   intro h
   rw [hrd]
   cases hh : (r.rd fx ver (ty.rd fx ver st).2).2.2.2 with
   | true => rfl
   | false => rw [Flds.rd_mono fx ver r _ hh] at h; cases h
  have hst1 := hst.fr hs hf1
  have hsz1 := hf1.size
  have hp1 : a1.eval (.tmp s) = .pointer (some ⟨pb, po, none⟩) := by rw [hf1.slot _ (.inl hsn)]; exact hp
  cases htp : ty.tp with
  | some TP' =>
   cases ty with
   | struct TP2 TU2 FD fs =>
    simp only [Ty.tp, Option.some.injEq] at htp
    subst htp
    simp only [Ty.tp, Ty.h, Ty.rn, Ty.rt, Ty.size, Ty.dz] at hn1 ht hf hcd next kn kr ⊢
    refine vS (vR (by simp) ?_)
    refine rM ?_
    refine r_nil (ad := ⟨pb, po, none⟩) (by simp (disch := (try simp only [sP]); omega) only [eV, hp1]) ?_
    refine rF (b := pb) (o := po) (by simp (disch := (try simp only [sP]); omega) only [eV]) hfo ?_
    refine rA ?_
    refine dn ?_
    generalize ha2 : Act.put (Act.put (Act.put (Act.put a1 _ _) _ _) _ _) _ _ = a2
    have hf2 : Fr (KR L n t) a1 a2 := by
     subst ha2
     exact ((((Fr.refl _ a1).put _ (hkt _ (by omega))).put _ (hkt _ (by omega))).put _ (hkt _ (by omega))).put _ (hs.kn n (Nat.le_refl _) (by omega))
    have hp2 : a2.eval (.tmp n) = .pointer (some ⟨pb, po + off, none⟩) := by subst ha2; simp (disch := (try simp only [sP]); omega) only [eV]
    have hsz2 := hf2.size
    refine m_struct (hfs _ _ _ _ rfl) (ver := ver) (B := B) hokt htxt (hs.up (n' := n) (t' := t + v.nt + 3) (Nat.le_refl _) (by omega) (by omega)) (by omega) (by rw [hsz2, hsz1]; omega) (hst1.fr hs hf2) hp2 (Flds.dz_len fs) (Flds.over_dz fs) hcd (fun i hi => hf i (by omega)) h1 h2 h3 hB hrB hBw ?_ ?_
    ·intro a3 w3 cs ds tags g1 g2 g3 g4 g5 g6 g7
     exact next a3 w3 cs (.obj ds tags) _ _ ((hf1.trans hf2).trans (g1.mono (KR.mono (Nat.le_refl _) (by omega)))) g2 g3 g4 g5 g6 (fun h => by obtain ⟨rfl, rfl⟩ := g7 h; rfl) hrd
    ·intro a3 w3 g1 g2 g3 g4 g5
     refine kr a3 w3 (by rw [g1, hf2.defers, hf1.defers]) (by rw [g2, hsz2, hsz1]) g3 (g4.mono ?_) (hbad g5)
     rintro k i _ (h | ⟨m1, m2, m3⟩)
     ·exact .inl h
     ·exact .inr ⟨m1, m2, by omega⟩
   | _ => cases htp
  | none =>
   simp only [htp] at hn1 next ⊢
   have hh4 : ty.h = 4 := by simp only [Ty.h, htp]
   have hrn : ty.rslot ≤ ty.rn := by cases ty <;> simp [Ty.rslot, Ty.rn]
   refine vc_sq_append ?_
   refine hlf htp x ver fx L TP TU s idx n (t + v.nt) b rb sb ev a1 w st _ hokt htxt (hs.up (Nat.le_refl _) (by omega) (by omega)) (by omega) (by omega) hst1 ?_ ?_ ?_
   ·intro hli
    refine ⟨pb, po, off, hp1, hsn, hfo, ?_⟩
    cases ty <;> simp only [Ty.isList] at hli <;> try cases hli
    exact hcd 0 (.slice none 0 0) (by simp [Ty.dz])
   ·intro a2 w2 cs d hf2' hst2 hval hrep hE hd
    obtain ⟨hcl, hc1⟩ := Ty.Rep.leaf ty htp hrep
    have hS := Ty.okR_okS ty hokt htp
    have hf2 : Fr (KR L n t) a1 a2 := hf2'.mono (KR.mono (Nat.le_refl _) (by omega))
    have hsz2 := hf2.size
    have hp2 : a2.eval (.tmp s) = .pointer (some ⟨pb, po, none⟩) := by rw [hf2.slot _ (.inl hsn)]; exact hp1
    refine vS (vR (by cases ty.arr <;> simp) ?_)
    refine rM ?_
    refine r_leafLoad (cs := cs) hS hcl ?_ ?_
    ·unfold Ty.Val at hval ⊢
     cases ha : ty.arr with
     | true =>
      simp only [ha, if_true] at hval ⊢
      obtain ⟨q1, g1, g2⟩ := hval
      exact ⟨q1, (by simp (disch := (try simp only [sP]); omega) only [eV, g1]), g2⟩
     | false =>
      simp only [ha, Bool.false_eq_true, if_false] at hval ⊢
      rw [hval]
      simp (disch := (try simp only [sP]); omega) only [eV]
    refine r_nil (ad := ⟨pb, po, none⟩) (by simp (disch := (try simp only [sP]); omega) only [eV, hp2]) ?_
    refine rF (b := pb) (o := po) (by simp (disch := (try simp only [sP]); omega) only [eV]) hfo ?_
    have hfree : ∀ j, j < ty.size → Free w2 pb (po + off + j) := fun j hj => (hf j (by omega)).eff hE
    refine r_leafStore (b := pb) (o := po + off) (cs := cs) hS hcl hc1 (by simp (disch := (try simp only [sP]); omega) only [eV]) (by simp (disch := (try simp only [sP]); omega) only [eV]) hfree ?_
    refine dn (vN ?_)
    have hE2 := setCells_eff pb cs w2 (po + off)
    rw [hcl] at hE2
    have hE2' : Eff (FM rb pb (po + off) ty.size) w2 (setCells w2 pb (po + off) cs) := hE2.mono (fun k i _ h => .inr h)
    have hE1' : Eff (FM rb pb (po + off) ty.size) w w2 := hE.mono (fun k i _ h => .inl h)
    generalize ha3 : Act.put (Act.put (Act.put (Act.put a2 _ _) _ _) _ _) _ _ = a3
    have hf3 : Fr (KR L n t) a2 a3 := by
     subst ha3
     exact ((((Fr.refl _ a2).put _ (hkt _ (by omega))).put _ (hkt _ (by omega))).put _ (hkt _ (by omega))).put _ (hkt _ (by omega))
    refine next a3 _ cs d _ _ ((hf1.trans hf2).trans hf3) (hst2.keep hs hf3 hE2 (by rintro j ⟨h, _⟩; exact h1 h.symm) (by rintro j ⟨h, _⟩; exact h2 h.symm) (by rintro j ⟨h, _⟩; exact h3 h.symm)) hcl ?_ ?_ (hE1'.trans hE2') hd hrd
    ·intro j u hu
     exact setCells_cell _ _ _ _ (fun j hj => (hfree j (by omega)).1) j u hu
    ·have hws := hE.size
     refine Ty.Rep.eff hE2 ?_ ty w.heap.size B cs d ?_ hBw hrep
     ·rintro j ⟨h, _⟩; exact h2 h.symm
     ·rintro k j hk _ ⟨h, _⟩; omega
   ·intro a2 w2 g1 g2 g3 g4 g5
    exact kr a2 w2 (by rw [g1, hf1.defers]) (by rw [g2, hsz1]) g3 (g4.mono (fun k i _ h => .inl h)) (hbad g5)
 ·intro hv a1 hf1 he1
  refine next a1 w ty.dz ty.dflt ty.dflt st hf1 (hst.fr hs hf1) (Ty.dz_len ty) hcd (Ty.dz_rep hT ty B hokz) (Eff.refl _ _) (fun _ => rfl) ?_
  simp only [Flds.rd, hv, Bool.false_eq_true, if_false]
mutual
theorem Ty.rval (H : EnvR P E T) (hT : T []) : ∀ ty : Ty, ty.tp = none → ty.RVal P E T
 | .scal k df, _ => rv_scal H k df
 | .named k N df, _ => rv_named H k N df
 | .uuid, _ => rv_uuid H
 | .text, _ => rv_text H
 | .ntext, _ => rv_ntext H
 | .ntextFrom _, _ => by
  intro x ver fx L TP TU s f n t b rb sb ev a w st Q hok
  simp [Ty.okR] at hok
 | .bytes, _ => rv_bytes H
 | .nbytes, _ => rv_nbytes H
 | .list TS null e, _ => rv_list H (fun h => Ty.rval H hT e h) (fun TP TU FD fs h => Ty.rvals H hT e TP TU FD fs h)
 | .struct _ _ _ _, h => by cases h
theorem Ty.rvals (H : EnvR P E T) (hT : T []) : ∀ (ty : Ty) (TP TU : TypeId) (FD : FuncId) (fs : Flds), ty = .struct TP TU FD fs → fs.RVal P E T
 | .struct TP TU FD fs, TP', TU', FD', fs', h => by
  cases h
  exact Flds.rval H hT fs
 | .scal _ _, _, _, _, _, h | .named _ _ _, _, _, _, _, h | .uuid, _, _, _, _, h | .text, _, _, _, _, h | .ntext, _, _, _, _, h | .ntextFrom _, _, _, _, _, h | .bytes, _, _, _, _, h | .nbytes, _, _, _, _, h | .list _ _ _, _, _, _, _, h => by cases h
theorem Flds.rval (H : EnvR P E T) (hT : T []) : ∀ fs : Flds, fs.RVal P E T
 | .nil b => fv_nil H hT b
 | .cons v ty r => fv_cons H hT (fun h => Ty.rval H hT ty h) (fun TP TU FD fs h => Ty.rvals H hT ty TP TU FD fs h) (Flds.rval H hT r)
end
end
end Go.Km
namespace Go.Km
open Go Go.RowKit
attribute [local irreducible] vc rO_ runG runS runD
structure EnvRX (P : Program) (E : Env) : Prop where
 i16 : oneT P E.tI16 = true
 rd : lays P E.tRd = some ([(0, 1), (1, 1)], #[.slice none 0 0, .bool false])
 rdA : aggT P E.tRd = some 2
def Msg.rdv (m : Msg) (ver : Nat) (st : RSt) : List D × List (Nat × List UInt8) × RSt := m.fs.rd (m.isFlex ver) ver st
def RFC (m : Msg) (T : List (Nat × List UInt8) → Prop) (ev : Value) (ver mb rb sb B : Nat) (st : RSt) (w w' : World) (v : Value) : Prop :=
 v = (if (m.rdv ver st).2.2.2 then ev else .nilIface) ∧ Eff (FM rb mb 1 m.fs.size) w w' ∧
 ((m.rdv ver st).2.2.2 = false → ∃ cs, cs.length = m.fs.size ∧ Cells w' mb 1 cs ∧ m.fs.Rep w' ⟨sb, T⟩ B cs (m.rdv ver st).1 (m.rdv ver st).2.1)
def Msg.rtail (E : Env) (m : Msg) (t1 : Nat) : List Code :=
  [wLoad m.TP m.TU E.tI16 8 0 0 t1, rg [oMove (t1 + 4) (.tmp 8) E.tI16]] ++
    (match m.flex with
     | none => []
     | some f => [rg [oMove (t1 + 5) (.tmp 8) E.tI16, oBin (t1 + 6) .geq E.tI16 (.tmp (t1 + 5)) (i16 f) E.tI16 E.tO, oAssign 9 (.tmp (t1 + 6)) E.tO], rg [oMove (t1 + 7) (.tmp 9) E.tO]]) ++
    ([rg [oMove (t1 + 5 + (match m.flex with | none => 0 | some _ => 3)) (.tmp 0) m.TP, oAssign m.rs (.tmp (t1 + 5 + (match m.flex with | none => 0 | some _ => 3))) m.TP]] ++ m.fs.rc E m.rx m.TP m.TU m.rs 1 (m.rs + 1) (t1 + 5 + (match m.flex with | none => 0 | some _ => 3) + 1) 0 ++ [rCall E E.rComplete E.tErr 6 (t1 + 5 + (match m.flex with | none => 0 | some _ => 3) + 1 + m.fs.rt m.rx), .ret])
theorem rcode_eq (E : Env) (m : Msg) : m.rcode E = sq ([rg [oAssign 6 (.const .nilIface) E.tErr],
  rg [oMove m.rlocals (.tmp 0) m.TP, oCall (some (m.rlocals + 1)) m.FD #[.tmp m.rlocals] #[m.TP] 0],
  rg [oMove (m.rlocals + 2) (.tmp 1) E.tB, oBuild (m.rlocals + 3) E.tRd #[(0, .tmp (m.rlocals + 2))], oAlloc 7 E.tRd, oStore E.tRd (.tmp 7) (.tmp (m.rlocals + 3))]] ++
  ((if m.kept then [rg [oMove (m.rlocals + 4) (.tmp 0) m.TP, oCall (some (m.rlocals + 5)) E.rI16 #[.tmp 7] #[E.tRd] E.tI16, oNil (m.rlocals + 6) (.tmp (m.rlocals + 4)), oField (m.rlocals + 7) m.TU (.tmp (m.rlocals + 6)) 0, oStore E.tI16 (.tmp (m.rlocals + 7)) (.tmp (m.rlocals + 5))]] else []) ++
  m.rtail E (m.rlocals + 4 + (if m.kept then 4 else 0)))) := by
 unfold Msg.rcode Msg.rtail
 simp only [List.append_assoc, List.cons_append, List.nil_append]
 rfl
section
variable {P : Program} {E : Env} {T : List (Nat × List UInt8) → Prop}
theorem rf_flds (H : EnvR P E T) (hT : T []) {m : Msg} {ver mb rb sb B t2 : Nat} {ev : Value} {a : Act} {w : World} {st : RSt}
  (hok : m.fs.okR P E m.rx m.TU 1 1 = true) (htx : m.fs.txR P E) (ht2 : m.rlocals ≤ t2) (hsz : t2 + 1 + m.fs.rt m.rx + 1 ≤ a.tmps.size) (hdf : a.defers = [])
  (h0 : a.eval (.tmp 0) = .pointer (some ⟨mb, 0, none⟩)) (h2 : a.eval (.tmp 2) = .bool false) (h7 : a.eval (.tmp 7) = .pointer (some ⟨rb, 0, none⟩)) (h8 : a.eval (.tmp 8) = .int .i16 (ver : Int)) (h9 : ∀ f, m.rx.fl = some f → a.eval (.tmp f) = .bool (m.isFlex ver))
  (hr : RdS w rb sb st) (he : w.cell? ⟨E.vErr, 0, none⟩ = some ev) (her : E.vErr ≠ rb)
  (hc : Cells w mb 1 m.fs.dz) (hf : ∀ i, i < m.fs.size → Free w mb (1 + i)) (hm1 : mb ≠ rb) (hm2 : mb ≠ sb) (hm3 : mb ≠ E.vErr) (hmB : mb < B) (hrB : rb < B) (hB : B ≤ w.heap.size) :
  vc P (sq ([rg [oMove t2 (.tmp 0) m.TP, oAssign m.rs (.tmp t2) m.TP]] ++ m.fs.rc E m.rx m.TP m.TU m.rs 1 (m.rs + 1) (t2 + 1) 0 ++ [rCall E E.rComplete E.tErr 6 (t2 + 1 + m.fs.rt m.rx), .ret])) (Out P #[.tmp 6] fun v w' => RFC m T ev ver mb rb sb B st w w' v) a w := by
 have hrs : m.rs = (match m.flex with | none => 9 | some _ => 10) := rfl
 have hrl : m.rlocals = m.rs + 1 + m.fs.rn := rfl
 have hrs9 : 9 ≤ m.rs := by rw [hrs]; cases m.flex <;> simp
 have hfl9 : ∀ f, m.rx.fl = some f → f = 9 ∧ m.rs = 10 := by
  intro f hf
  cases hfx : m.flex <;> simp [Msg.rx, Msg.rs, hfx] at hf ⊢
  omega
 have hno : m.rx.fl = none → m.isFlex ver = false := by
  intro hf
  cases hfx : m.flex <;> simp [Msg.rx, Msg.isFlex, hfx] at hf ⊢
 have hs : RSl m.rx m.rlocals (m.rs + 1) (t2 + 1) (m.isFlex ver) :=
  ⟨by omega, by show 8 < m.rs + 1; omega, fun f hf => by have := hfl9 f hf; omega, hno, by omega, by omega⟩
 simp only [List.cons_append, List.nil_append]
 refine vS (vR (by simp) ?_)
 refine rM ?_
 refine rA ?_
 refine dn ?_
 generalize ha1 : Act.put (Act.put a _ _) _ _ = a1
 have hf1 : Fr (fun k => k < m.rs) a a1 := by
  subst ha1
  exact ((Fr.refl _ a).put _ (by omega)).put _ (by omega)
 have hp1 : a1.eval (.tmp m.rs) = .pointer (some ⟨mb, 0, none⟩) := by subst ha1; simp (disch := (try simp only [sP]); omega) only [eV, h0]
 have hs1 := hf1.size
 clear ha1
 have hst : RSta E m.rx ver (m.isFlex ver) rb sb ev a1 w st :=
  ⟨hr, by rw [hf1.slot 7 (by omega)]; exact h7, by rw [hf1.slot 2 (by omega)]; exact h2, by show a1.eval (.tmp 8) = _; rw [hf1.slot 8 (by omega)]; exact h8, fun f hf => by have := hfl9 f hf; rw [hf1.slot f (by omega)]; exact h9 f hf, he, her⟩
 refine vc_sq_append ?_
 refine Flds.rval H hT m.fs m.rx ver (m.isFlex ver) m.rlocals m.TP m.TU m.rs 1 1 (m.rs + 1) (t2 + 1) 0 rb sb mb 0 B ev a1 w st _ hok htx hs (by omega) (by omega) hst hp1 (by omega) (by simpa using hc) (fun i hi => by simpa using hf i hi) hm1 hm2 hm3 hmB hrB hB ?_ ?_
 ·intro a2 w2 cs ds tags g1 g2 g3 g4 g5 g6 g7
  have hs2 := g1.size
  refine vS (vR (by simp) ?_)
  refine r_call' (args := #[.pointer (some ⟨rb, 0, none⟩)]) ?_ (H.complete rb sb _ w2 ev g2.rd g2.err) ?_
  ·simp only [lM]
   simp (disch := (try simp only [sP]); omega) only [eV, g2.p7]
  rintro v w3 ⟨rfl, rfl⟩
  refine rA ?_
  refine dn ?_
  refine vS (vT ?_)
  refine ⟨by simp only [dF]; rw [g1.defers, hf1.defers]; exact hdf, _, rO ?_, rfl, by simpa using g6, ?_⟩
  ·simp (disch := (try simp only [sP]); omega) only [eV]
   rfl
  ·intro h
   obtain ⟨rfl, rfl⟩ := g7 h
   exact ⟨cs, g3, by simpa using g4, g5⟩
 ·intro a2 w2 g1 g2 g3 g4 g5
  refine ⟨by rw [g1, hf1.defers]; exact hdf, ev, rO g3, ?_, by simpa using g4, ?_⟩
  ·rw [if_pos (show (m.rdv ver st).2.2.2 = true from g5)]
  ·intro h
   rw [show (m.rdv ver st).2.2.2 = true from g5] at h
   cases h
theorem rf_tail (H : EnvR P E T) (HX : EnvRX P E) (hT : T []) {m : Msg} {ver mb rb sb B t1 : Nat} {ev : Value} {a : Act} {w : World} {st : RSt}
  (hok : m.fs.okR P E m.rx m.TU 1 1 = true) (htx : m.fs.txR P E) (h00 : fieldOff P m.TU 0 = some 0) (ht1 : m.rlocals ≤ t1) (hsz : t1 + 5 + (match m.flex with | none => 0 | some _ => 3) + 1 + m.fs.rt m.rx + 1 ≤ a.tmps.size) (hdf : a.defers = [])
  (h0 : a.eval (.tmp 0) = .pointer (some ⟨mb, 0, none⟩)) (h2 : a.eval (.tmp 2) = .bool false) (h7 : a.eval (.tmp 7) = .pointer (some ⟨rb, 0, none⟩)) (hv : w.cell? ⟨mb, 0, none⟩ = some (.int .i16 (ver : Int)))
  (hr : RdS w rb sb st) (he : w.cell? ⟨E.vErr, 0, none⟩ = some ev) (her : E.vErr ≠ rb)
  (hc : Cells w mb 1 m.fs.dz) (hf : ∀ i, i < m.fs.size → Free w mb (1 + i)) (hm1 : mb ≠ rb) (hm2 : mb ≠ sb) (hm3 : mb ≠ E.vErr) (hmB : mb < B) (hrB : rb < B) (hB : B ≤ w.heap.size) :
  vc P (sq (m.rtail E t1))
  (Out P #[.tmp 6] fun v w' => RFC m T ev ver mb rb sb B st w w' v) a w := by
 have hrl : m.rlocals = m.rs + 1 + m.fs.rn := rfl
 have hrs9 : 9 ≤ m.rs := by show 9 ≤ (match m.flex with | none => 9 | some _ => 10); cases m.flex <;> simp
 simp only [Msg.rtail, List.append_assoc, List.cons_append, List.nil_append]
 refine vS (m_load (K := fun k => k < 8) h0 h00 HX.i16 (by simpa using hv) (by omega) (fun d hd => by omega) (by omega) (by omega) ?_)
 intro a1 hf1 hv1
 have hs1 := hf1.size
 refine vS (vR (by simp) ?_)
 refine rM ?_
 refine dn ?_
 cases hfx : m.flex with
 | none =>
  simp only [hfx, List.nil_append, Nat.add_zero] at hsz ⊢
  have := rf_flds H hT (m := m) (ver := ver) (mb := mb) (rb := rb) (sb := sb) (B := B) (t2 := t1 + 5) (ev := ev) (a := a1.put (some (t1 + 4)) (a1.eval (.tmp 8))) (w := w) (st := st) hok htx (by omega) (by rw [zP, hs1]; omega) (by rw [dF, hf1.defers]; exact hdf)
   (by simp (disch := (try simp only [sP]); omega) only [eV, hf1.slot 0 (by omega), h0]) (by simp (disch := (try simp only [sP]); omega) only [eV, hf1.slot 2 (by omega), h2]) (by simp (disch := (try simp only [sP]); omega) only [eV, hf1.slot 7 (by omega), h7]) (by simp (disch := (try simp only [sP]); omega) only [eV, hv1]) (fun f hf => by simp [Msg.rx, hfx] at hf) hr he her hc hf hm1 hm2 hm3 hmB hrB hB
  simp only [List.append_assoc, List.cons_append, List.nil_append] at this
  exact this
 | some f =>
  simp only [hfx, List.cons_append, List.nil_append] at hsz ⊢
  refine vS (vR (by simp) ?_)
  refine rM ?_
  refine r_geq (k := .i16) (m := (ver : Int)) (n := (f : Int)) (by simp (disch := (try simp only [sP]); omega) only [eV, hv1]) rfl ?_
  refine rA ?_
  refine dn ?_
  refine vS (vR (by simp) ?_)
  refine rM ?_
  refine dn ?_
  generalize ha2 : Act.put (Act.put (Act.put (Act.put (Act.put a1 _ _) _ _) _ _) _ _) _ _ = a2
  have hf2 : Fr (fun k => k < 9) a1 a2 := by
   subst ha2
   exact (((((Fr.refl _ a1).put _ (by omega)).put _ (by omega)).put _ (by omega)).put _ (by omega)).put _ (by omega)
  have h92 : a2.eval (.tmp 9) = .bool (decide ((ver : Int) ≥ (f : Int))) := by subst ha2; simp (disch := (try simp only [sP]); omega) only [eV]
  have hs2 := hf2.size
  clear ha2
  have := rf_flds H hT (m := m) (ver := ver) (mb := mb) (rb := rb) (sb := sb) (B := B) (t2 := t1 + 5 + 3) (ev := ev) (a := a2) (w := w) (st := st) hok htx (by omega) (by rw [hs2, hs1]; omega) (by rw [hf2.defers, hf1.defers]; exact hdf)
   (by rw [hf2.slot 0 (by omega), hf1.slot 0 (by omega)]; exact h0) (by rw [hf2.slot 2 (by omega), hf1.slot 2 (by omega)]; exact h2) (by rw [hf2.slot 7 (by omega), hf1.slot 7 (by omega)]; exact h7) (by rw [hf2.slot 8 (by omega)]; exact hv1)
   (fun g hg => by
    simp only [Msg.rx, hfx, Option.map_some, Option.some.injEq] at hg
    subst hg
    rw [h92]
    simp only [Msg.isFlex, hfx]
    congr 1
    simp) hr he her hc hf hm1 hm2 hm3 hmB hrB hB
  simp only [List.append_assoc, List.cons_append, List.nil_append] at this
  exact this
def Msg.rtop (m : Msg) : Nat := m.rlocals + 4 + (if m.kept then 4 else 0) + 5 + (match m.flex with | none => 0 | some _ => 3) + 1 + m.fs.rt m.rx + 1
def Msg.rver (m : Msg) (ver : Nat) (l : List UInt8) : Int := if m.kept then sgn 2 (rdN 2 (l, false)).1 else ver
def Msg.rst (m : Msg) (l : List UInt8) : RSt := if m.kept then (rdN 2 (l, false)).2 else (l, false)
def RFD (m : Msg) (T : List (Nat × List UInt8) → Prop) (ev : Value) (ver mb sb : Nat) (l : List UInt8) (w w' : World) (v : Value) : Prop :=
 v = (if (m.rdv ver (m.rst l)).2.2.2 then ev else .nilIface) ∧ Eff (fun k _ => k = mb) w w' ∧
 ((m.rdv ver (m.rst l)).2.2.2 = false → ∃ cs, cs.length = m.fs.size ∧ Cells w' mb 0 (.int .i16 (ver : Int) :: cs) ∧ m.fs.Rep w' ⟨sb, T⟩ 0 cs (m.rdv ver (m.rst l)).1 (m.rdv ver (m.rst l)).2.1)
set_option maxHeartbeats 1000000 in
theorem c_readFrom (H : EnvR P E T) (HX : EnvRX P E) (hT : T []) {m : Msg} {RF : FuncId} {np nt npd ntd : Nat} (ht : Text P RF np nt #[.tmp 6] (m.rcode E)) (hn : m.rtop ≤ nt) (hd : Text P m.FD npd ntd #[] (dcode E m.TP m.TU 1 m.fs)) (hnd : 2 + m.fs.dn + m.fs.dt ≤ ntd) (hokd : m.fs.okD P E m.TU 1 1 = true)
  (hok : m.fs.okR P E m.rx m.TU 1 1 = true) (htx : m.fs.txR P E) (h00 : fieldOff P m.TU 0 = some 0) (hk16 : m.kept = true → E.rI16 ≠ 0)
  {ver ver0 mb sb : Nat} {ev sv : Value} {l : List UInt8} {w : World} (hver : m.rver ver0 l = (ver : Int))
  (hc : Cells w mb 0 (.int .i16 (ver0 : Int) :: m.fs.dz)) (hf : ∀ i, i < m.fs.size + 1 → Free w mb i) (hs : SrcV w sb sv l) (hsb : sb < w.heap.size) (hl : l.length ≤ big) (he : w.cell? ⟨E.vErr, 0, none⟩ = some ev) (hm2 : mb ≠ sb) (hm3 : mb ≠ E.vErr) :
  CallsV P RF #[.pointer (some ⟨mb, 0, none⟩), sv, .bool false] w fun v w' => RFD m T ev ver mb sb l w w' v := by
 have hrl : m.rlocals = m.rs + 1 + m.fs.rn := rfl
 have hrs9 : 9 ≤ m.rs := by show 9 ≤ (match m.flex with | none => 9 | some _ => 10); cases m.flex <;> simp
 have hnt : m.rlocals + 4 + (if m.kept then 4 else 0) + 5 + (match m.flex with | none => 0 | some _ => 3) + 1 + m.fs.rt m.rx + 1 ≤ nt := hn
 have hmb : mb < w.heap.size := (hf 0 (by omega)).lt
 refine CallsV.enter ht (by simp; omega) ?_
 intro a hsz hdf harg
 have e0 := harg 0 (.pointer (some ⟨mb, 0, none⟩)) (by simp)
 have e1 := harg 1 sv (by simp)
 have e2 := harg 2 (.bool false) (by simp)
 obtain ⟨zr, hzr, hzrc⟩ := lays_zero HX.rd
 rw [rcode_eq]
 simp only [List.cons_append, List.nil_append]
 refine vS (vR (by simp) ?_)
 refine rA ?_
 refine dn ?_
 refine vS (vR (by simp) ?_)
 refine rM ?_
 have hcz : Cells w mb (0 + 1) m.fs.dz := hc.dp (n := 1)
 refine r_call' (args := #[.pointer (some ⟨mb, 0, none⟩)]) ?_ (c_dflt (b := mb) (o := 0) (off := 1) (cs := m.fs.dz) hd hnd hokd (Flds.dz_len _) hcz (fun i hi => by have := hf (i + 1) (by omega); rwa [show 0 + 1 + i = i + 1 by omega])) ?_
 ·simp only [lM]
  simp (disch := (try simp only [sP]); omega) only [eV, e0]
 rintro v1 w1 ⟨hE1, hc1⟩
 rw [Flds.over_dz] at hc1
 refine dn ?_
 have hz1 := hE1.size
 refine vS (vR (by simp) ?_)
 refine rM ?_
 have hs1 : SrcV w1 sb sv l := hs.heap (hE1.blockEq hsb (by rintro i ⟨h, _⟩; exact hm2 h.symm))
 have hsv1 := hs.one
 have hsvc : sv.cells = #[sv] := by
  obtain ⟨ad, cap, rfl, _⟩ := hs.form
  rfl
 generalize hA : Act.put _ (some (m.rlocals + 2)) _ = A
 have hfA : Fr (fun k => k = 0 ∨ k = 1 ∨ k = 2) a A := by
  subst hA
  exact ((((Fr.refl _ a).put _ (by omega)).put _ (by omega)).put _ (by omega)).put _ (by omega)
 have hAv : A.eval (.tmp (m.rlocals + 2)) = sv := by subst hA; simp (disch := (try simp only [sP]); omega) only [eV, e1]
 have hsA := hfA.size
 clear hA
 refine r_build (cells := #[sv, .bool false]) HX.rd ?_ ?_
 ·simp [Instr.fill, hAv, hsvc]
 refine r_alloc hzr ?_
 have hfree : ∀ i, i < [sv, Value.bool false].length → Free (w1.alloc (.cells zr.cells E.tRd)) w1.heap.size (0 + i) := by
  intro i hi
  rw [Nat.zero_add]
  exact free_new w1 _ _ (by rw [hzrc]; simpa using hi)
 refine r_storeAgg (b := w1.heap.size) (o := 0) (cs := [sv, .bool false]) (by simp (disch := (try simp only [sP]); omega) only [eV]) (by simp (disch := (try simp only [sP]); omega) only [eV]) (by intro v hv; simp only [List.mem_cons, List.not_mem_nil, or_false] at hv; rcases hv with rfl | rfl; exact hsv1; rfl) HX.rdA hfree ?_
 refine dn ?_
 have hcb : Cells (setCells (w1.alloc (.cells zr.cells E.tRd)) w1.heap.size 0 [sv, .bool false]) w1.heap.size 0 [sv, .bool false] :=
  fun i v hv => setCells_cell _ _ _ _ (fun j hj => (hfree j hj).1) i v hv
 have hE2 := setCells_eff w1.heap.size [sv, .bool false] (w1.alloc (.cells zr.cells E.tRd)) 0
 have hb2 : Below w1.heap.size w1 (setCells (w1.alloc (.cells zr.cells E.tRd)) w1.heap.size 0 [sv, .bool false]) :=
  ((Below.refl w1.heap.size w1).alloc (o := .cells _ _) (Nat.le_refl _)).trans (hE2.below (by simp) (by rintro k i hk ⟨rfl, _, _⟩; omega))
 have hz2 : w1.heap.size < (setCells (w1.alloc (.cells zr.cells E.tRd)) w1.heap.size 0 [sv, .bool false]).heap.size := by
  have := hE2.size
  simp at this
  omega
 have hfr2 : ∀ i, i < 2 → Free (setCells (w1.alloc (.cells zr.cells E.tRd)) w1.heap.size 0 [sv, .bool false]) w1.heap.size i := fun i hi => by
  have := (hfree i (by simpa using hi)).eff hE2
  rwa [Nat.zero_add] at this
 generalize setCells (w1.alloc (.cells zr.cells E.tRd)) w1.heap.size 0 [sv, .bool false] = w2 at *
 generalize hrb : w1.heap.size = rb at *
 generalize ha2 : Act.put _ (some 7) _ = a2
 have hf2 : Fr (fun k => k = 0 ∨ k = 1 ∨ k = 2) a a2 := by
  subst ha2
  exact (hfA.put _ (by omega)).put _ (by omega)
 have h27 : a2.eval (.tmp 7) = .pointer (some ⟨rb, 0, none⟩) := by subst ha2; simp (disch := (try simp only [sP]); omega) only [eV]
 have hs2z := hf2.size
 clear ha2
 have hrd : RdS w2 rb sb (l, false) := ⟨by omega, by omega, ⟨sv, hcb, hs1.heap (hb2.block sb (by omega))⟩, hfr2 0 (by omega), hfr2 1 (by omega), hl⟩
 have hbw : Below w1.heap.size w1 w2 := by rw [hrb]; exact hb2
 have hE02 : Eff (fun k _ => k = mb) w w2 := (hE1.mono (fun k i _ h => h.1)).trans (Eff.of_below hbw)
 have hev2 : w2.cell? ⟨E.vErr, 0, none⟩ = some ev := hE02.cellSome he (by rintro h; exact hm3 h.symm)
 have hevlt : E.vErr < w.heap.size := lt_of_cell he
 have hc2 : Cells w2 mb 1 m.fs.dz := hc1.below hb2 (by omega)
 have hv2 : w2.cell? ⟨mb, 0, none⟩ = some (.int .i16 (ver0 : Int)) := by
  have := hc 0 (.int .i16 (ver0 : Int)) (by simp)
  have := hE1.cellSome this (by rintro ⟨_, h, _⟩; omega)
  rw [hb2.cell (p := ⟨mb, 0, none⟩) (show mb < rb by omega)]
  exact this
 have hfm2 : ∀ i, i < m.fs.size + 1 → Free w2 mb i := fun i hi => (hf i hi).eff hE02
 have fin : ∀ (t1 : Nat) (a3 : Act) (w3 : World), m.rlocals ≤ t1 → t1 + 5 + (match m.flex with | none => 0 | some _ => 3) + 1 + m.fs.rt m.rx + 1 ≤ nt → Fr (fun k => k = 0 ∨ k = 1 ∨ k = 2 ∨ k = 7) a2 a3 → RdS w3 rb sb (m.rst l) → w3.cell? ⟨mb, 0, none⟩ = some (.int .i16 (ver : Int)) →
   Eff (fun k i => RM rb k i ∨ (k = mb ∧ i < 1)) w2 w3 → vc P (sq (m.rtail E t1)) (Out P #[.tmp 6] fun v w' => RFD m T ev ver mb sb l w w' v) a3 w3 := by
  intro t1 a3 w3 h1 h2 h3 h4 h5 h6
  have hz3 := h6.size
  refine vc_mono _ (rf_tail H HX hT (m := m) (ver := ver) (mb := mb) (rb := rb) (sb := sb) (B := rb + 1) (t1 := t1) (ev := ev) (a := a3) (w := w3) (st := m.rst l) hok htx h00 h1 (by rw [h3.size, hs2z, hsz]; exact h2) (by rw [h3.defers, hf2.defers]; exact hdf)
   (by rw [h3.slot 0 (by omega), hf2.slot 0 (by omega)]; exact e0) (by rw [h3.slot 2 (by omega), hf2.slot 2 (by omega)]; exact e2) (by rw [h3.slot 7 (by omega)]; exact h27) h5 h4 (h6.cellSome hev2 (by rintro (⟨h, _⟩ | ⟨h, _⟩); omega; exact hm3 h.symm)) (by omega)
   (hc2.eff h6 (by rintro i hi (⟨h, _⟩ | ⟨_, h⟩) <;> omega)) (fun i hi => (hfm2 (1 + i) (by omega)).eff h6) (by omega) hm2 hm3 (by omega) (by omega) (by omega)) ?_
  have key : ∀ v w', RFC m T ev ver mb rb sb (rb + 1) (m.rst l) w3 w' v → RFD m T ev ver mb sb l w w' v := by
   rintro v w' ⟨g1, g2, g3⟩
   refine ⟨g1, ?_, fun h => ?_⟩
   ·refine (hE02.trans' h6 ?_).trans' g2 ?_
    ·rintro k i hk (⟨h, _⟩ | ⟨h, _⟩)
     ·omega
     ·exact h
    ·rintro k i hk (⟨h, _⟩ | ⟨h, _⟩)
     ·omega
     ·exact h
   ·obtain ⟨cs, k1, k2, k3⟩ := g3 h
    refine ⟨cs, k1, ?_, Flds.Rep.eff (Eff.refl (fun _ _ => False) w') (fun _ h => h) m.fs (rb + 1) 0 cs _ _ (fun _ _ _ _ h => h) (Nat.zero_le _) k3⟩
    have h0 := g2.cellSome h5 (by rintro (⟨h, _⟩ | ⟨_, h, _⟩) <;> omega)
    intro i u hu
    cases i with
    | zero => simp only [List.getElem?_cons_zero, Option.some.injEq] at hu; subst hu; exact h0
    | succ i =>
     simp only [List.getElem?_cons_succ] at hu
     have := k2 i u hu
     rwa [show 1 + i = 0 + (i + 1) by omega] at this
  intro e a w' h
  cases e <;> first | exact ⟨h.1, let ⟨v, hv, hs⟩ := h.2; ⟨v, hv, key v w' hs⟩⟩ | exact h
 cases hk : m.kept with
 | false =>
  simp only [hk, Bool.false_eq_true, if_false, List.nil_append] at hnt ⊢
  have hv : ver0 = ver := by
   have : (ver0 : Int) = (ver : Int) := by simpa [Msg.rver, hk] using hver
   omega
  subst hv
  exact fin _ a2 w2 (by omega) (by omega) (Fr.refl _ _) (by simp only [Msg.rst, hk, Bool.false_eq_true, if_false]; exact hrd) hv2 (Eff.refl _ _)
 | true =>
  simp only [hk, if_true, List.cons_append, List.nil_append] at hnt ⊢
  have hv : sgn 2 (rdN 2 (l, false)).1 = (ver : Int) := by simpa [Msg.rver, hk] using hver
  have hst : m.rst l = (rdN 2 (l, false)).2 := by simp [Msg.rst, hk]
  refine vS (vR (by simp) ?_)
  refine rM ?_
  refine r_call' (args := #[.pointer (some ⟨rb, 0, none⟩)]) ?_ (H.scal .i16 (hk16 hk) rb sb (l, false) w2 hrd) ?_
  ·simp only [lM]
   simp (disch := (try simp only [sP]); omega) only [eV, h27]
  rintro v w3 ⟨⟨hv3, hvo⟩, hr3, hE3⟩
  have hv3' : v = .int .i16 (ver : Int) := by rw [hv3, ← hv]; rfl
  subst hv3'
  refine r_nil (ad := ⟨mb, 0, none⟩) (by simp (disch := (try simp only [sP]); omega) only [eV, hf2.slot 0 (by omega), e0]) ?_
  refine rF (b := mb) (o := 0) (by simp (disch := (try simp only [sP]); omega) only [eV]) h00 ?_
  have hf3 : Free w3 mb (0 + 0) := (hfm2 0 (by omega)).eff hE3
  refine r_store (b := mb) (o := 0 + 0) (v := .int .i16 (ver : Int)) (by simp (disch := (try simp only [sP]); omega) only [eV]) (by simp (disch := (try simp only [sP]); omega) only [eV]) rfl HX.i16 hf3 ?_
  refine dn ?_
  have hE4 : Eff (fun k i => k = mb ∧ i < 1) w3 (w3.setCell ⟨mb, 0 + 0, none⟩ (.int .i16 (ver : Int))) := (Eff.refl _ w3).setCell _ _ _ (fun _ => ⟨rfl, by omega⟩)
  refine fin _ _ _ (by omega) (by omega) ((((Fr.refl _ a2).put _ (by omega)).put _ (by omega) |>.put _ (by omega)).put _ (by omega)) ?_ (cell_setCell_same _ hf3.1) ((hE3.mono (fun k i _ h => .inl h)).trans (hE4.mono (fun k i _ h => .inr h)))
  rw [hst]
  exact (show RdS w3 rb sb (rdN 2 (l, false)).2 from hr3).keep hE4 (by rintro i ⟨h, _⟩; omega) (by rintro i ⟨h, _⟩; exact hm2 h.symm)
end
end Go.Km
namespace Go.Km
open Go Go.RowKit
attribute [local irreducible] vc rO_ runG runS runD
def ReadC (P : Program) (E : Env) (T : List (Nat × List UInt8) → Prop) (m : Msg) (f : FuncId) : Prop :=
 ∀ (ver ver0 mb sb : Nat) (ev sv : Value) (l : List UInt8) (w : World), m.rver ver0 l = (ver : Int) → Cells w mb 0 (.int .i16 (ver0 : Int) :: m.fs.dz) → (∀ i, i < m.fs.size + 1 → Free w mb i) → SrcV w sb sv l → sb < w.heap.size → l.length ≤ big →
  w.cell? ⟨E.vErr, 0, none⟩ = some ev → mb ≠ sb → mb ≠ E.vErr → CallsV P f #[.pointer (some ⟨mb, 0, none⟩), sv] w fun v w' => RFD m T ev ver mb sb l w w' v
def c_rfw (E : Env) (m : Msg) (RF : FuncId) : Code :=
 sq [rg [oAssign 4 (.const .nilIface) E.tErr], rg [oMove 5 (.tmp 0) m.TP, oMove 6 (.tmp 1) E.tB, oCall (some 7) RF #[.tmp 5, .tmp 6, .const (.bool false)] #[m.TP, E.tB, E.tO] E.tErr, oAssign 4 (.tmp 7) E.tErr], .ret]
def Msg.wdat (m : Msg) (ver : Nat) (ds : List D) : List D := if m.kept then .int ver :: ds else ds
def Msg.out (m : Msg) (ver : Nat) (ds : List D) (tags : List (Nat × List UInt8)) : List UInt8 := m.wfs.wr (m.isFlex ver) ver (m.wdat ver ds) tags
def Msg.back (m : Msg) (ver : Nat) (l : List UInt8) : Option (List UInt8) :=
 if (m.rdv ver (m.rst l)).2.2.2 then none else some (m.out ver (m.rdv ver (m.rst l)).1 (m.rdv ver (m.rst l)).2.1)
def BackV (E : Env) (o : Option (List UInt8)) (W w' : World) (r : Value) : Prop :=
 Below W.heap.size W w' ∧ match o with
 | none => r = .tuple #[.slice none 0 0, .bool false]
 | some l => ∃ x, r = .tuple #[x, .bool true] ∧ w'.ownsRow W.heap.size E.tU8 1 x l.length (l.map bv)
def ifaceT (P : Program) (t : TypeId) : Bool :=
 match P.underlying t with
 | some (.interface _) => true
 | _ => false
def isErr : Value → Bool
 | .nilIface => false
 | _ => true
section
variable {P : Program} {E : Env} {T : List (Nat × List UInt8) → Prop}
theorem r_neqNil {a : Act} {w : World} {r : List Oper} {Q : Exit → Act → World → Prop} {d t x yt ty p af g v} (ht : ifaceT P t = true) (hx : a.eval x = v) (hv : v = .nilIface ∨ ∃ u z, v = .iface u z) (h : rO_ P Q r (a.put (some d) (.bool (isErr v))) w) :
  rO_ P Q (⟨some d, .binOp .neq t x (.const .nilIface) yt, ty, p, af, g⟩ :: r) a w := by
 obtain ⟨ms, hu⟩ : ∃ ms, P.underlying t = some (.interface ms) := by
  unfold ifaceT at ht
  split at ht
  ·rename_i ms h; exact ⟨ms, h⟩
  ·cases ht
 refine st ?_
 rcases hv with rfl | ⟨u, z, rfl⟩
 ·have h1 : (eqGuard .neq t x (.const .nilIface) .nilIface .nilIface).run P w = .ok () w := by cases x <;> simp [eqGuard]
  have h2 : (binOp .neq t .nilIface .nilIface).run P w = .ok (.bool false) w := by
   simp only [binOp]
   have h0 : ∀ k : Nat, (Op.equalIn (k + 1) t .nilIface .nilIface).run P w = .ok true w := fun k => by simp [Op.equalIn, run_underlying hu]
   simp [Op.equal, Op.maxDepth, h0 9999]
  simp only [Oper.wp, execOp, hx, eval_const, h1, h2, Sem.run_bind, Sem.run_pure, Result.andThen_ok, Oper.upon_value]
  exact h
 ·have h1 : (eqGuard .neq t x (.const .nilIface) (.iface u z) .nilIface).run P w = .ok () w := by simp [eqGuard]
  have h2 : (binOp .neq t (.iface u z) .nilIface).run P w = .ok (.bool true) w := by
   simp only [binOp]
   have h0 : ∀ k : Nat, (Op.equalIn (k + 1) t (.iface u z) .nilIface).run P w = .ok false w := fun k => by simp [Op.equalIn, run_underlying hu]
   simp [Op.equal, Op.maxDepth, h0 9999]
  simp only [Oper.wp, execOp, hx, eval_const, h1, h2, Sem.run_bind, Sem.run_pure, Result.andThen_ok, Oper.upon_value]
  exact h
theorem c_rfw_ok (H : EnvR P E T) (HX : EnvRX P E) (hT : T []) {m : Msg} {RF f : FuncId} {np nt npr ntr npd ntd : Nat} (ht : Text P f np nt #[.tmp 4] (c_rfw E m RF)) (hn : 8 ≤ nt) (htr : Text P RF npr ntr #[.tmp 6] (m.rcode E)) (hnr : m.rtop ≤ ntr) (hd : Text P m.FD npd ntd #[] (dcode E m.TP m.TU 1 m.fs)) (hnd : 2 + m.fs.dn + m.fs.dt ≤ ntd) (hokd : m.fs.okD P E m.TU 1 1 = true)
  (hok : m.fs.okR P E m.rx m.TU 1 1 = true) (htx : m.fs.txR P E) (h00 : fieldOff P m.TU 0 = some 0) (hk16 : m.kept = true → E.rI16 ≠ 0) : ReadC P E T m f := by
 intro ver ver0 mb sb ev sv l w h1 h2 h3 h4 h5 h6 h7 h8 h9
 refine CallsV.enter ht (by simp; omega) ?_
 intro a hsz hdf harg
 have e0 := harg 0 (.pointer (some ⟨mb, 0, none⟩)) (by simp)
 have e1 := harg 1 sv (by simp)
 unfold c_rfw
 refine vS (vR (by simp) ?_)
 refine rA ?_
 refine dn ?_
 refine vS (vR (by simp) ?_)
 refine rM ?_
 refine rM ?_
 refine r_call' (args := #[.pointer (some ⟨mb, 0, none⟩), sv, .bool false]) ?_ (c_readFrom H HX hT htr hnr hd hnd hokd hok htx h00 hk16 h1 h2 h3 h4 h5 h6 h7 h8 h9) ?_
 ·simp only [lM]
  simp (disch := (try simp only [sP]); omega) only [eV, e0, e1]
 intro v w' hS
 refine rA ?_
 refine dn ?_
 refine vS (vT ?_)
 exact ⟨by simp only [dF]; exact hdf, v, rO (by simp (disch := (try simp only [sP]); omega) only [eV]), hS⟩
theorem own_mono2 {W : World} {B B' : Nat} {e : TypeId} {s : Nat} {v : Value} {n : Nat} {xs : List Value} (h : W.ownsRow B e s v n xs) (hB : B' ≤ B) : W.ownsRow B' e s v n xs := by
 refine ⟨h.1, ?_⟩
 rcases h.2 with h | ⟨g, cap, cur, h1, h2, h3⟩
 ·exact .inl h
 ·exact .inr ⟨g, cap, cur, h1, Nat.le_trans hB h2, h3⟩
theorem own_below2 {w w' : World} {B C : Nat} {e : TypeId} {s : Nat} {v : Value} {n : Nat} {xs : List Value} (h : w.ownsRow B e s v n xs) (hb : Below C w w') (hC : C = w.heap.size := by rfl) : w'.ownsRow B e s v n xs := by
 subst hC
 refine ⟨h.1, ?_⟩
 rcases h.2 with h | ⟨g, cap, cur, h1, h2, h3, h4⟩
 ·exact .inl h
 ·have hg : g < w.heap.size := (Array.getElem?_eq_some_iff.1 h3).1
  exact .inr ⟨g, cap, cur, h1, h2, by rw [hb.block g hg]; exact h3, h4⟩
theorem RowB.below {w w' : World} {B : Nat} {v : Value} {l : List UInt8} (h : RowB w v l) (hb : Below B w w') (hB : B = w.heap.size := by rfl) : RowB w' v l := by
 rcases h with h | ⟨q, o, cap, hv, hc⟩
 ·exact .inl h
 ·refine .inr ⟨q, o, cap, hv, fun i u hu => ?_⟩
  have h1 := hc i u hu
  rw [hb.cell (p := ⟨q, o + i, none⟩) (show q < B by rw [hB]; exact lt_of_cell h1)]
  exact h1
theorem RowB.src {w : World} {t e : TypeId} {v : Value} {l : List UInt8} (h : RowB w v l) (ht : sliceT P t = some (e, 1)) : Src P 1 t v l.length (l.map bv) w := by
 rcases h with ⟨rfl, rfl⟩ | ⟨q, o, cap, rfl, hc⟩
 ·exact src_nil ht
 ·exact src_cells ht hc (by simp) (bv_one l)
theorem own_src {w : World} {U d : Nat} {e : TypeId} {v : Value} {l : List UInt8} (h : w.ownsRow U e 1 v l.length (l.map bv)) (hd : d < w.heap.size) (hdU : d < U) : ∃ sb, SrcV w sb v l ∧ sb < w.heap.size ∧ (sb = d ∨ U ≤ sb) := by
 have hr := RowB.of_own h
 rcases h.2 with ⟨rfl, h0⟩ | ⟨g, cap, cur, rfl, hbg, hg, hnc, hcm, hcs, htake⟩
 ·exact ⟨d, .inl ⟨rfl, List.eq_nil_of_length_eq_zero h0⟩, hd, .inl rfl⟩
 ·have hlt : g < w.heap.size := (Array.getElem?_eq_some_iff.1 hg).1
  refine ⟨g, .inr ⟨0, cap, rfl, hnc, ?_⟩, hlt, .inr hbg⟩
  rcases hr with ⟨h, _⟩ | ⟨q, o, cap', h, hc⟩
  ·cases h
  ·cases h
   exact hc
theorem rf_out (HW : EnvW P E T) (HI : EnvI P E) {m : Msg} {f : FuncId} {np nt : Nat} (ha : Text P f np nt #[.tmp 4] (m.wcode E)) (hna : m.wtop ≤ nt) (hokw : m.okW P E = true) {ver mb sb : Nat} {ev : Value} {l : List UInt8} {w w' : World} {v : Value} (hv : ver < 32768)
  (h : RFD m T ev ver mb sb l w w' v) (hnb : (m.rdv ver (m.rst l)).2.2.2 = false) (hb : (m.out ver (m.rdv ver (m.rst l)).1 (m.rdv ver (m.rst l)).2.1).length ≤ big) :
  CallsV P f #[.pointer (some ⟨mb, 0, none⟩), .slice none 0 0] w' fun x w2 => w2.ownsRow w'.heap.size E.tU8 1 x (m.out ver (m.rdv ver (m.rst l)).1 (m.rdv ver (m.rst l)).2.1).length ((m.out ver (m.rdv ver (m.rst l)).1 (m.rdv ver (m.rst l)).2.1).map bv) ∧ Below w'.heap.size w' w2 := by
 obtain ⟨_, _, h3⟩ := h
 obtain ⟨cs, k1, k2, k3⟩ := h3 hnb
 have hver : w'.cell? ⟨mb, 0, none⟩ = some (.int .i16 (ver : Int)) := by simpa using k2 0 (.int .i16 (ver : Int)) (by simp)
 unfold Msg.out at hb ⊢
 cases hk : m.kept with
 | false =>
  have hwfs : m.wfs = m.fs := by simp [Msg.wfs, hk]
  have hwi : m.wi = 1 := by simp [Msg.wi, hk]
  refine appendTo (sb := ⟨sb, T⟩) (cs := cs) (B := 0) HW HI ha hna hokw hver ?_ ?_ hb
  ·rw [hwi]
   exact k2.dp (n := 1)
  ·rw [hwfs]
   simpa [Msg.wdat, hk] using k3
 | true =>
  have hwfs : m.wfs = .cons .all (.scal .i16 0) m.fs := by simp [Msg.wfs, hk]
  have hwi : m.wi = 0 := by simp [Msg.wi, hk]
  refine appendTo (sb := ⟨sb, T⟩) (cs := .int .i16 (ver : Int) :: cs) (B := 0) HW HI ha hna hokw hver ?_ ?_ hb
  ·rw [hwi]
   exact k2
  ·rw [hwfs]
   simp only [Msg.wdat, hk, if_true, Flds.Rep, Ty.size, List.take_succ_cons, List.take_zero, List.drop_succ_cons, List.drop_zero]
   exact ⟨⟨rfl, by show (-32768 : Int) ≤ _ ∧ _; omega⟩, k3⟩
end
end Go.Km
namespace Go.Km
open Go Go.RowKit
theorem o8_toNat (n : Int) : (UInt8.ofNat (n % 256).toNat).toNat = (n % 256).toNat := by
 have h1 : 0 ≤ n % 256 := Int.emod_nonneg _ (by decide)
 have h2 : n % 256 < 256 := Int.emod_lt_of_pos _ (by decide)
 simp only [UInt8.toNat_ofNat']
 omega
theorem emod_mul' (n m : Int) (hm : 0 < m) : n % (m * 256) = n % m + m * (n / m % 256) := by
 have h1 := Int.mul_ediv_add_emod n m
 have h2 := Int.mul_ediv_add_emod (n / m) 256
 have h3 : 0 ≤ n % m := Int.emod_nonneg _ (by omega)
 have h4 : n % m < m := Int.emod_lt_of_pos _ hm
 have h5 : 0 ≤ n / m % 256 := Int.emod_nonneg _ (by decide)
 have h6 : n / m % 256 < 256 := Int.emod_lt_of_pos _ (by decide)
 generalize n % m = s at *
 generalize n / m % 256 = r at *
 generalize n / m / 256 = q at *
 generalize n / m = p at *
 subst h2
 have e : n = (s + m * r) + (m * 256) * q := by
  rw [← h1, Int.mul_add, Int.mul_assoc]
  omega
 rw [e, Int.add_mul_emod_self_left]
 have h7 : 0 ≤ m * r := Int.mul_nonneg (by omega) h5
 have h8 : m * r ≤ m * 255 := Int.mul_le_mul_of_nonneg_left (by omega) (by omega)
 exact Int.emod_eq_of_lt (by omega) (by omega)
theorem be_foldl : ∀ (k : Nat) (n : Int) (acc : Nat), (be k n).foldl (fun n b => n * 256 + b.toNat) acc = acc * 256 ^ k + (n % (256 ^ k : Nat)).toNat
 | 0, n, acc => by
  simp [be]
 | k + 1, n, acc => by
  simp only [be, List.foldl_cons]
  rw [be_foldl k n, o8_toNat]
  have hp : (0 : Int) < ((256 ^ k : Nat) : Int) := by exact_mod_cast Nat.pow_pos (by decide)
  have e1 : (256 : Int) ^ k = ((256 ^ k : Nat) : Int) := by simp
  have e2 : ((256 ^ (k + 1) : Nat) : Int) = ((256 ^ k : Nat) : Int) * 256 := by rw [Nat.pow_succ]; simp
  rw [e1, e2, Int.fdiv_eq_ediv_of_nonneg _ (Int.le_of_lt hp), emod_mul' _ _ hp]
  have h1 : 0 ≤ n % ((256 ^ k : Nat) : Int) := Int.emod_nonneg _ (by omega)
  have h2 : 0 ≤ n / ((256 ^ k : Nat) : Int) % 256 := Int.emod_nonneg _ (by decide)
  generalize n % ((256 ^ k : Nat) : Int) = x at *
  generalize n / ((256 ^ k : Nat) : Int) % 256 = y at *
  obtain ⟨x, rfl⟩ : ∃ m : Nat, x = m := ⟨x.toNat, by omega⟩
  obtain ⟨y, rfl⟩ : ∃ m : Nat, y = m := ⟨y.toNat, by omega⟩
  have e3 : (x : Int) + ((256 ^ k : Nat) : Int) * (y : Int) = ((x + 256 ^ k * y : Nat) : Int) := by simp
  rw [e3]
  simp only [Int.toNat_natCast]
  rw [Nat.add_mul, Nat.pow_succ, Nat.mul_comm (256 ^ k) y, Nat.mul_comm (256 ^ k) 256, Nat.mul_assoc]
  omega
theorem rdN_be (k : Nat) (n : Int) (r : List UInt8) : rdN k (be k n ++ r, false) = ((n % (256 ^ k : Nat)).toNat, r, false) := by
 have hl : (be k n).length = k := be_len k n
 unfold rdN
 rw [if_neg (by show ¬ (be k n ++ r).length < k; rw [List.length_append, hl]; omega)]
 have h1 : (be k n ++ r).take k = be k n := by
  have := List.take_left (l₁ := be k n) (l₂ := r)
  rwa [hl] at this
 have h2 : (be k n ++ r).drop k = r := by
  have := List.drop_left (l₁ := be k n) (l₂ := r)
  rwa [hl] at this
 show (beN ((be k n ++ r).take k), (be k n ++ r).drop k, false) = _
 rw [h1, h2]
 unfold beN
 rw [be_foldl k n 0]
 simp
theorem sgn_emod {k : Nat} {n : Int} (hk : 0 < k) (h1 : -(2 ^ (8 * k - 1) : Nat) ≤ n) (h2 : n < (2 ^ (8 * k - 1) : Nat)) : sgn k (n % (256 ^ k : Nat)).toNat = n := by
 have e : (256 : Nat) ^ k = 2 ^ (8 * k - 1) + 2 ^ (8 * k - 1) := by
  rw [show 256 = 2 ^ 8 from rfl, ← Nat.pow_mul, ← Nat.mul_two, ← Nat.pow_succ]
  congr 1
  omega
 have e2 : (2 : Int) ^ (8 * k) = ((256 ^ k : Nat) : Int) := by
  rw [show 256 = 2 ^ 8 from rfl, ← Nat.pow_mul]
  simp
 unfold sgn
 rw [e2, e]
 have hp : 0 < 2 ^ (8 * k - 1) := Nat.pow_pos (by decide)
 generalize 2 ^ (8 * k - 1) = m at *
 rcases Int.lt_or_le n 0 with hn | hn
 ·have : n % ((m + m : Nat) : Int) = n + ((m + m : Nat) : Int) := by
   rw [← Int.add_emod_right, Int.emod_eq_of_lt (by omega) (by omega)]
  rw [this, if_neg (by omega)]
  omega
 ·rw [Int.emod_eq_of_lt hn (by omega), if_pos (by omega)]
  omega
theorem Scal.rd_wr {k : Scal} {n : Int} (h : k.ok n) (r : List UInt8) : k.rd (k.wr n ++ r, false) = (n, r, false) := by
 cases k with
 | bool =>
  have : n = 0 ∨ n = 1 := h
  rcases this with rfl | rfl
  ·rfl
  ·rfl
 | i8 =>
  have h : -128 ≤ n ∧ n ≤ 127 := h
  simp only [Scal.rd, Scal.wr, rdN_be]
  rw [sgn_emod (k := 1) (by decide) (by simp; omega) (by simp; omega)]
 | i16 =>
  have h : -32768 ≤ n ∧ n ≤ 32767 := h
  simp only [Scal.rd, Scal.wr, rdN_be]
  rw [sgn_emod (k := 2) (by decide) (by simp; omega) (by simp; omega)]
 | u16 =>
  have h : 0 ≤ n ∧ n ≤ 65535 := h
  simp only [Scal.rd, Scal.wr, rdN_be]
  rw [Int.emod_eq_of_lt (by omega) (by simp; omega), Int.toNat_of_nonneg (by omega)]
 | i32 =>
  have h : -2147483648 ≤ n ∧ n ≤ 2147483647 := h
  simp only [Scal.rd, Scal.wr, rdN_be]
  rw [sgn_emod (k := 4) (by decide) (by simp; omega) (by simp; omega)]
 | i64 =>
  have h : -9223372036854775808 ≤ n ∧ n ≤ 9223372036854775807 := h
  simp only [Scal.rd, Scal.wr, rdN_be]
  rw [sgn_emod (k := 8) (by decide) (by simp; omega) (by simp; omega)]
 | f64 =>
  have h : 0 ≤ n ∧ n < 18446744073709551616 := h
  simp only [Scal.rd, Scal.wr, rdN_be]
  rw [Int.toNat_of_nonneg h.1, Int.emod_eq_of_lt (by omega) (by simp; omega), Int.toNat_of_nonneg h.1]
theorem uvF_one {f n : Nat} (h : n < 128) : uvF (f + 1) n = [UInt8.ofNat n] := by simp [uvF, h]
theorem uvF_more {f n : Nat} (h : 128 ≤ n) : uvF (f + 1) n = UInt8.ofNat (n % 128 + 128) :: uvF f (n / 128) := by
 have : ¬ n < 128 := by omega
 simp [uvF, this]
theorem u8n {n : Nat} (h : n < 256) : (UInt8.ofNat n).toNat = n := by
 simp only [UInt8.toNat_ofNat']
 omega
theorem uvDec_uvF : ∀ (j f n acc : Nat) (r : List UInt8), j ≤ 4 → j ≤ f → n * 2 ^ (7 * (4 - j)) < 4294967296 → uvDec (4 - j) acc (uvF (f + 1) n ++ r) = some (acc + n * 2 ^ (7 * (4 - j)), 4 - j + (uvF (f + 1) n).length)
 | 0, f, n, acc, r, _, _, h => by
  simp only [Nat.sub_zero] at h ⊢
  have e : (2 : Nat) ^ (7 * 4) = 268435456 := by decide
  have e2 : (2 : Nat) ^ 28 = 268435456 := by decide
  rw [e] at h
  have hn : n < 128 := by omega
  rw [uvF_one hn]
  simp only [List.cons_append, List.nil_append, uvDec, if_true, u8n (show n < 256 by omega), e, e2]
  rw [if_pos (by omega)]
  rfl
 | j + 1, f, n, acc, r, hj, hf, h => by
  have hi : ¬ (4 - (j + 1) = 4) := by omega
  rcases Nat.lt_or_ge n 128 with hn | hn
  ·rw [uvF_one hn]
   simp only [List.cons_append, List.nil_append, uvDec, if_neg hi, u8n (show n < 256 by omega), if_pos hn]
   rfl
  ·obtain ⟨f', rfl⟩ : ∃ f', f = f' + 1 := ⟨f - 1, by omega⟩
   rw [uvF_more hn]
   simp only [List.cons_append, uvDec, if_neg hi, u8n (show n % 128 + 128 < 256 by omega)]
   rw [if_neg (by omega)]
   have e1 : 4 - (j + 1) + 1 = 4 - j := by omega
   have e3 : (n % 128 + 128) % 128 = n % 128 := by omega
   have e4 : (2 : Nat) ^ (7 * (4 - j)) = 2 ^ (7 * (4 - (j + 1))) * 128 := by
    rw [show 7 * (4 - j) = 7 * (4 - (j + 1)) + 7 by omega, Nat.pow_add]
   have hd : n % 128 + n / 128 * 128 = n := by omega
   have key : n % 128 * 2 ^ (7 * (4 - (j + 1))) + n / 128 * 2 ^ (7 * (4 - j)) = n * 2 ^ (7 * (4 - (j + 1))) := by
    rw [e4, Nat.mul_comm (2 ^ (7 * (4 - (j + 1)))) 128, ← Nat.mul_assoc, ← Nat.add_mul, hd]
   rw [e1, e3, uvDec_uvF j f' (n / 128) _ r (by omega) (by omega) (by omega)]
   simp only [Option.some.injEq, Prod.mk.injEq, List.length_cons]
   constructor
   ·omega
   ·omega
theorem rdUv_uvar {n : Nat} (h : n < 4294967296) (r : List UInt8) : rdUv (Go.Km.uvar n ++ r, false) = (n, r, false) := by
 have := uvDec_uvF 4 8 n 0 r (by decide) (by decide) (by simpa using h)
 simp only [Nat.sub_self, Nat.mul_zero, Nat.pow_zero, Nat.mul_one, Nat.zero_add] at this
 unfold rdUv
 show (match uvDec 0 0 (uvF 9 n ++ r) with | none => _ | some (v, k) => _) = _
 rw [this]
 show (n, List.drop (uvF 9 n).length (uvF 9 n ++ r), false) = _
 rw [List.drop_left]
theorem uvDec_size : ∀ (l : List UInt8) (i acc v n : Nat), acc < 2 ^ (7 * i) → i ≤ 4 → uvDec i acc l = some (v, n) → v < 2 ^ (7 * n) ∧ n ≤ i + l.length ∧ i < n
 | [], i, acc, v, n, _, _, h => by cases h
 | b :: r, i, acc, v, n, ha, hi, h => by
  have hp : 2 ^ (7 * (i + 1)) = 2 ^ (7 * i) * 128 := by rw [show 7 * (i + 1) = 7 * i + 7 by omega, Nat.pow_add]
  have hmul : ∀ x : Nat, x < 128 → acc + x * 2 ^ (7 * i) < 2 ^ (7 * (i + 1)) := fun x hx => by
   have : x * 2 ^ (7 * i) ≤ 127 * 2 ^ (7 * i) := Nat.mul_le_mul_right _ (by omega)
   rw [hp]
   omega
  unfold uvDec at h
  split at h
  ·rename_i h4
   subst h4
   split at h
   ·rename_i hb
    simp only [Option.some.injEq, Prod.mk.injEq] at h
    obtain ⟨rfl, rfl⟩ := h
    simp only [List.length_cons]
    have := hmul b.toNat (by omega)
    exact ⟨by simpa using this, by omega, by omega⟩
   ·cases h
  ·split at h
   ·rename_i h1
    simp only [Option.some.injEq, Prod.mk.injEq] at h
    obtain ⟨rfl, rfl⟩ := h
    have := hmul b.toNat h1
    simp only [List.length_cons]
    exact ⟨this, by omega, by omega⟩
   ·have := uvDec_size r (i + 1) _ v n (hmul (b.toNat % 128) (Nat.mod_lt _ (by decide))) (by omega) h
    simp only [List.length_cons]
    exact ⟨this.1, by omega, by omega⟩
def Ext {α : Type} (g : RSt → α × RSt) : Prop := ∀ l m : List UInt8, (g (l, false)).2.2 = false → g (l ++ m, false) = ((g (l, false)).1, (g (l, false)).2.1 ++ m, false)
theorem rdN_ext (k : Nat) : Ext (rdN k) := by
 intro l m h
 unfold rdN at h ⊢
 split at h
 ·cases h
 ·rename_i hl
  simp only at hl
  simp only [List.length_append]
  rw [if_neg (by omega), if_neg hl, List.take_append_of_le_length (by omega), List.drop_append_of_le_length (by omega)]
theorem uvDec_ext : ∀ (l m : List UInt8) (i acc : Nat) (x : Nat × Nat), uvDec i acc l = some x → uvDec i acc (l ++ m) = some x
 | [], m, i, acc, x, h => by cases h
 | b :: r, m, i, acc, x, h => by
  simp only [List.cons_append]
  unfold uvDec at h ⊢
  split
  ·rename_i h4; rw [if_pos h4] at h; exact h
  ·rename_i h4
   rw [if_neg h4] at h
   split
   ·rename_i h1; rw [if_pos h1] at h; exact h
   ·rename_i h1
    rw [if_neg h1] at h
    exact uvDec_ext r m (i + 1) _ x h
theorem rdUv_ext : Ext rdUv := by
 intro l m h
 unfold rdUv at h ⊢
 cases hu : uvDec 0 0 l with
 | none => simp [hu] at h
 | some x =>
  obtain ⟨v, n⟩ := x
  have h2 := (uvDec_size l 0 0 v n (by decide) (by decide) hu).2.1
  simp only [uvDec_ext l m 0 0 _ hu]
  rw [List.drop_append_of_le_length (by omega)]
theorem rdSpan_ext (n : Int) : Ext (rdSpan n) := by
 intro l m h
 unfold rdSpan at h ⊢
 split at h
 ·cases h
 ·rename_i hl
  simp only at hl
  simp only [List.length_append]
  rw [if_neg (by omega), if_neg hl, List.take_append_of_le_length (by omega), List.drop_append_of_le_length (by omega)]
theorem Ext.bind {α β : Type} {g : RSt → α × RSt} {f : α → RSt → β × RSt} (hg : Ext g) (hf : ∀ x, Ext (f x)) (hm : ∀ x st, (f x st).2.2 = false → st.2 = false) : Ext fun st => f (g st).1 (g st).2 := by
 intro l m h
 have h : (f (g (l, false)).1 (g (l, false)).2).2.2 = false := h
 have h1 := hm _ _ h
 have e := hg l m h1
 show f (g (l ++ m, false)).1 (g (l ++ m, false)).2 = ((f (g (l, false)).1 (g (l, false)).2).1, (f (g (l, false)).1 (g (l, false)).2).2.1 ++ m, false)
 rw [e]
 have e2 : (g (l, false)).2 = ((g (l, false)).2.1, false) := Prod.ext rfl h1
 rw [e2] at h ⊢
 exact hf _ _ _ h
theorem Ext.map {α β : Type} {g : RSt → α × RSt} (hg : Ext g) (f : α → β) : Ext fun st => (f (g st).1, (g st).2) := by
 intro l m h
 show (f (g (l ++ m, false)).1, (g (l ++ m, false)).2) = _
 rw [hg l m h]
theorem Ext.pure {α : Type} (x : α) : Ext fun st => (x, st) := fun l m h => rfl
theorem Scal.rd_ext (k : Scal) : Ext k.rd := by
 cases k with
 | bool => exact (rdN_ext 1).map (fun n => if n != 0 then (1 : Int) else 0)
 | i8 => exact (rdN_ext 1).map (sgn 1)
 | i16 => exact (rdN_ext 2).map (sgn 2)
 | u16 => exact (rdN_ext 2).map (fun n => (n : Int))
 | i32 => exact (rdN_ext 4).map (sgn 4)
 | i64 => exact (rdN_ext 8).map (sgn 8)
 | f64 => exact (rdN_ext 8).map (fun n => (n : Int))
theorem rdL_ext (fx : Bool) : Ext (rdL fx) := by
 cases fx with
 | true => exact rdUv_ext.map (fun n => (n : Int) - 1)
 | false => exact (rdN_ext 2).map (sgn 2)
theorem rdLB_ext (fx : Bool) : Ext (rdLB fx) := by
 cases fx with
 | true => exact rdUv_ext.map (fun n => (n : Int) - 1)
 | false => exact (rdN_ext 4).map (sgn 4)
theorem rdNul_ext {g : RSt → Int × RSt} (hg : Ext g) : Ext fun st => rdNul (g st) := by
 refine Ext.bind (f := fun n st => rdNul (n, st)) hg (fun n => ?_) (fun n st h => rdNul_mono h)
 intro l m h
 simp only [rdNul] at h ⊢
 by_cases hn : n < 0
 ·simp only [if_pos hn]
 ·simp only [if_neg hn] at h ⊢
  rw [rdSpan_ext n l m h]
theorem rdOct_ext {g : RSt → Int × RSt} (hg : Ext g) : Ext fun st => rdOct (g st) := by
 refine Ext.bind (f := fun n st => rdOct (n, st)) hg (fun n => ?_) (fun n st h => rdOct_mono h)
 intro l m h
 simp only [rdOct] at h ⊢
 by_cases hn : n = -1
 ·simp only [if_pos hn]
 ·simp only [if_neg hn] at h ⊢
  rw [rdSpan_ext n l m h]
theorem rdStr_ext {g : RSt → Int × RSt} (hg : Ext g) : Ext fun st => rdStr (g st) :=
 Ext.bind (f := fun n st => rdSpan n st) hg (fun n => rdSpan_ext n) (fun n st h => rdSpan_mono h)
theorem rdCount_ext {g : RSt → Int × RSt} (hg : Ext g) : Ext fun st => rdCount (g st) := by
 refine Ext.bind (f := fun n st => rdCount (n, st)) hg (fun n => ?_) (fun n st h => rdCount_mono h)
 intro l m h
 simp only [rdCount] at h ⊢
 by_cases hn : (l.length : Int) < n
 ·rw [if_pos hn] at h; cases h
 ·rw [if_neg hn, if_neg (by simp only [List.length_append]; omega)]
theorem rdCn_ext (fx : Bool) : Ext (rdCn fx) := by
 cases fx with
 | true => exact rdCount_ext (rdUv_ext.map (fun n => IntKind.i32.wrap (IntKind.i32.wrap (n : Int) - 1)))
 | false => exact rdCount_ext ((rdN_ext 4).map (sgn 4))
theorem rdMany_ext {f : RSt → D × RSt} (hf : Ext f) (hm : ∀ st, (f st).2.2 = false → st.2 = false) : ∀ n, Ext (rdMany f n)
 | 0 => fun l m h => rfl
 | n + 1 => by
  have h1 := Ext.bind (f := fun x st => ((x :: (rdMany f n st).1 : List D), (rdMany f n st).2)) hf (fun x => (rdMany_ext hf hm n).map (fun r => x :: r)) (fun x st h => rdMany_mono hm n st h)
  exact h1
theorem rdTag_ext : Ext rdTag :=
 Ext.bind (f := fun a st => (((a, (rdSpan ((rdUv st).1 : Int) (rdUv st).2).1), (rdSpan ((rdUv st).1 : Int) (rdUv st).2).2) : (Nat × List UInt8) × RSt)) rdUv_ext
  (fun a => (Ext.bind (f := fun (n : Nat) st => rdSpan (n : Int) st) rdUv_ext (fun n => rdSpan_ext _) (fun n st h => rdSpan_mono h)).map (fun x => (a, x))) (fun a st h => rdUv_mono (rdSpan_mono h))
theorem rdTagsN_ext : ∀ (n : Nat) (acc : List (Nat × List UInt8)), Ext (rdTagsN n acc)
 | 0, acc => fun l m h => rfl
 | n + 1, acc => by
  have := Ext.bind (f := fun (x : Nat × List UInt8) st => rdTagsN n (setTag x.1 x.2 acc) st) rdTag_ext (fun x => rdTagsN_ext n _) (fun x st h => rdTagsN_mono n _ st h)
  exact this
theorem rdTags_ext : Ext rdTags := Ext.bind (f := fun n st => rdTagsN n [] st) rdUv_ext (fun n => rdTagsN_ext n []) (fun n st h => rdTagsN_mono n _ st h)
mutual
theorem Ty.rd_ext (fx : Bool) (ver : Nat) : ∀ t : Ty, Ext (t.rd fx ver)
 | .scal s _ | .named s _ _ => by
  have := s.rd_ext.map (fun n => D.int n)
  simpa only [Ext, Ty.rd] using this
 | .uuid => by
  have := (rdSpan_ext 16).map (fun l => D.bytes (some l))
  simpa only [Ext, Ty.rd] using this
 | .text => by
  have := (rdStr_ext (rdL_ext fx)).map (fun l => D.bytes (some l))
  simpa only [Ext, Ty.rd] using this
 | .ntext => by
  have := (rdNul_ext (rdL_ext fx)).map (fun l => D.bytes l)
  simpa only [Ext, Ty.rd] using this
 | .ntextFrom _ => by
  have := Ext.pure (D.bytes none)
  simpa only [Ext, Ty.rd] using this
 | .bytes => by
  have := (rdOct_ext (rdLB_ext fx)).map (fun l => D.bytes l)
  simpa only [Ext, Ty.rd] using this
 | .nbytes => by
  have := (rdNul_ext (rdLB_ext fx)).map (fun l => D.bytes l)
  simpa only [Ext, Ty.rd] using this
 | .list TS null e => by
  have := Ext.bind (f := fun n st => if st.2 then ((.list none : D), st) else if n ≤ 0 then (if emptyB null ver n then (.list (some []) : D) else .list none, st) else
    (.list (some (rdMany (fun s => e.rd fx ver s) n.toNat st).1), (rdMany (fun s => e.rd fx ver s) n.toNat st).2)) (rdCn_ext fx) (fun n => ?_) (fun n st h => ?_)
  ·simpa only [Ext, Ty.rd] using this
  ·intro l m h
   simp only [Bool.false_eq_true, if_false] at h ⊢
   split
   ·rename_i hn; simp only [if_pos hn]
   ·rename_i hn
    simp only [if_neg hn] at h ⊢
    rw [rdMany_ext (Ty.rd_ext fx ver e) (fun st h => Ty.rd_mono fx ver e st h) n.toNat l m h]
  ·rcases Bool.eq_false_or_eq_true st.2 with hb | hb
   ·rw [if_pos hb] at h; exact h
   ·exact hb
 | .struct _ _ _ fs => by
  have := (Flds.rd_ext fx ver fs)
  intro l m h
  simp only [Ty.rd] at h ⊢
  rw [this l m h]
theorem Flds.rd_ext (fx : Bool) (ver : Nat) : ∀ (fs : Flds) (l m : List UInt8), (fs.rd fx ver (l, false)).2.2.2 = false → fs.rd fx ver (l ++ m, false) = ((fs.rd fx ver (l, false)).1, (fs.rd fx ver (l, false)).2.1, (fs.rd fx ver (l, false)).2.2.1 ++ m, false)
 | .nil _, l, m, h => by
  cases fx with
  | true =>
   simp only [Flds.rd, if_true] at h ⊢
   rw [rdTags_ext l m h]
  | false => simp [Flds.rd]
 | .cons v t r, l, m, h => by
  simp only [Flds.rd] at h ⊢
  split
  ·rename_i hv
   simp only [if_pos hv] at h
   have h1 := Flds.rd_mono fx ver r _ h
   have e := Ty.rd_ext fx ver t l m h1
   have e2 : (t.rd fx ver (l, false)).2 = ((t.rd fx ver (l, false)).2.1, false) := Prod.ext rfl h1
   simp only [e]
   rw [e2] at h ⊢
   rw [Flds.rd_ext fx ver r _ m h]
  ·rename_i hv
   simp only [if_neg hv] at h
   rw [Flds.rd_ext fx ver r l m h]
end
end Go.Km
namespace Go.Km
open Go Go.RowKit
def strOk (fx : Bool) (l : List UInt8) : Prop := if fx then l.length + 1 < 4294967296 else l.length ≤ 32767
def octOk (fx : Bool) (l : List UInt8) : Prop := if fx then l.length + 1 < 4294967296 else l.length < 2147483648
def tagsGood (tags : List (Nat × List UInt8)) : Prop := TagsOk tags ∧ tags.length < 4294967296 ∧ ∀ x ∈ tags, x.2.length < 4294967296
mutual
def Ty.good (fx : Bool) (ver : Nat) : Ty → D → Prop
 | .scal s _, .int n | .named s _ _, .int n => s.ok n
 | .uuid, .bytes (some l) => l.length = 16
 | .text, .bytes (some l) => strOk fx l
 | .ntext, .bytes none => True
 | .ntext, .bytes (some l) => strOk fx l
 | .bytes, .bytes (some l) => octOk fx l
 | .nbytes, .bytes none => True
 | .nbytes, .bytes (some l) => octOk fx l
 | .list _ null _, .list none => null = none ∨ ∃ N, null = some N ∧ N ≤ ver
 | .list _ null e, .list (some l) => (null = none → l ≠ []) ∧ l.length < 2147483648 ∧ ∀ d ∈ l, e.good fx ver d
 | .struct _ _ _ fs, .obj l tags => fs.good fx ver l tags
 | _, _ => False
def Flds.good (fx : Bool) (ver : Nat) : Flds → List D → List (Nat × List UInt8) → Prop
 | .nil _, [], tags => if fx then tagsGood tags else tags = []
 | .cons v t r, d :: l, tags => (if v.has ver then t.good fx ver d else d = t.dflt) ∧ r.good fx ver l tags
 | _, _, _ => False
end
mutual
def Ty.pos (fx : Bool) (ver : Nat) : Ty → Bool
 | .struct _ _ _ fs => fs.pos fx ver
 | .ntextFrom _ => false
 | _ => true
def Flds.pos (fx : Bool) (ver : Nat) : Flds → Bool
 | .nil _ => fx
 | .cons v t r => (v.has ver && t.pos fx ver) || r.pos fx ver
end
mutual
def Ty.lp (fx : Bool) (ver : Nat) : Ty → Bool
 | .list _ _ e => e.pos fx ver && e.lp fx ver
 | .struct _ _ _ fs => fs.lp fx ver
 | .ntextFrom _ => false
 | _ => true
def Flds.lp (fx : Bool) (ver : Nat) : Flds → Bool
 | .nil _ => true
 | .cons v t r => (!v.has ver || t.lp fx ver) && r.lp fx ver
end
theorem Scal.wr_pos (k : Scal) (n : Int) : 1 ≤ (k.wr n).length := by
 cases k <;> simp [Scal.wr, be_len]
theorem uvar_pos1 (n : Nat) : 1 ≤ (Go.Km.uvar n).length := uvF_pos 9 n
theorem wrStr_pos (fx : Bool) (l : List UInt8) : 1 ≤ (wrStr fx l).length := by
 unfold wrStr
 cases fx
 ·simp [be_len]; omega
 ·have := uvar_pos1 (l.length + 1)
  simp; omega
theorem wrBytes_pos (fx : Bool) (l : List UInt8) : 1 ≤ (wrBytes fx l).length := by
 unfold wrBytes
 cases fx
 ·simp [be_len]; omega
 ·have := uvar_pos1 (l.length + 1)
  simp; omega
theorem wrLen_pos (fx : Bool) (n : Nat) : 1 ≤ (wrLen fx n).length := by
 unfold wrLen
 cases fx
 ·simp [be_len]
 ·exact uvar_pos1 _
theorem wrNull_pos (fx : Bool) : 1 ≤ (wrNull fx).length := by
 cases fx <;> simp [wrNull, be_len]
mutual
theorem Ty.wr_pos (fx : Bool) (ver : Nat) : ∀ (t : Ty) (d : D), t.pos fx ver = true → t.good fx ver d → 1 ≤ (t.wr fx ver d).length
 | .scal s _, d, hp, h | .named s _ _, d, hp, h => by
  cases d <;> simp only [Ty.good] at h
  simp only [Ty.wr]
  exact s.wr_pos _
 | .uuid, d, hp, h => by
  cases d with
  | bytes o =>
   cases o <;> simp only [Ty.good] at h
   simp only [Ty.wr]; omega
  | _ => simp only [Ty.good] at h
 | .text, d, hp, h => by
  cases d with
  | bytes o =>
   cases o <;> simp only [Ty.good] at h
   simp only [Ty.wr]; exact wrStr_pos _ _
  | _ => simp only [Ty.good] at h
 | .ntext, d, hp, h => by
  cases d with
  | bytes o =>
   simp only [Ty.wr]
   cases o with
   | none => cases fx <;> simp [wrNStr, be_len]
   | some l => exact wrStr_pos _ _
  | _ => simp only [Ty.good] at h
 | .ntextFrom _, d, hp, h => by simp [Ty.pos] at hp
 | .bytes, d, hp, h => by
  cases d with
  | bytes o => simp only [Ty.wr]; exact wrBytes_pos _ _
  | _ => simp only [Ty.good] at h
 | .nbytes, d, hp, h => by
  cases d with
  | bytes o =>
   simp only [Ty.wr]
   cases o with
   | none => cases fx <;> simp [wrNBytes, be_len]
   | some l => exact wrBytes_pos _ _
  | _ => simp only [Ty.good] at h
 | .list _ null e, d, hp, h => by
  cases d with
  | list o =>
   cases o with
   | none =>
    simp only [Ty.wr]
    split
    ·exact wrNull_pos _
    ·exact wrLen_pos _ _
   | some l =>
    simp only [Ty.wr, List.length_append]
    have := wrLen_pos fx l.length
    omega
  | _ => simp only [Ty.good] at h
 | .struct _ _ _ fs, d, hp, h => by
  cases d with
  | obj l tags =>
   simp only [Ty.good] at h
   simp only [Ty.pos] at hp
   simp only [Ty.wr]
   exact Flds.wr_pos fx ver fs l tags hp h
  | _ => simp only [Ty.good] at h
theorem Flds.wr_pos (fx : Bool) (ver : Nat) : ∀ (fs : Flds) (l : List D) (tags : List (Nat × List UInt8)), fs.pos fx ver = true → fs.good fx ver l tags → 1 ≤ (fs.wr fx ver l tags).length
 | .nil _, l, tags, hp, h => by
  simp only [Flds.pos] at hp
  subst hp
  simp only [Flds.wr, if_true, wrTags, List.length_append]
  have := uvar_pos1 tags.length
  omega
 | .cons v t r, [], tags, hp, h => by simp [Flds.good] at h
 | .cons v t r, d :: l, tags, hp, h => by
  simp only [Flds.good] at h
  simp only [Flds.pos, Bool.or_eq_true, Bool.and_eq_true] at hp
  simp only [Flds.wr, List.length_append]
  rcases hp with ⟨hv, hp⟩ | hp
  ·simp only [hv, if_true] at h ⊢
   have := Ty.wr_pos fx ver t d hp h.1
   omega
  ·have := Flds.wr_pos fx ver r l tags hp h.2
   omega
end
theorem rdSpan_app (l r : List UInt8) : rdSpan (l.length : Int) (l ++ r, false) = (l, r, false) := by
 unfold rdSpan
 rw [if_neg (by simp; omega)]
 simp
theorem rdL_wr {fx : Bool} {n : Nat} (h : if fx then n + 1 < 4294967296 else n ≤ 32767) (r : List UInt8) : rdL fx ((if fx then Go.Km.uvar (n + 1) else be 2 n) ++ r, false) = ((n : Int), r, false) := by
 cases fx with
 | true =>
  simp only [if_true] at h ⊢
  simp only [rdL, if_true, rdLc, rdUv_uvar h]
  congr 1
  omega
 | false =>
  simp only [Bool.false_eq_true, if_false] at h ⊢
  simp only [rdL, Bool.false_eq_true, if_false, rdL2, rdN_be]
  rw [sgn_emod (k := 2) (by decide) (by simp) (by simp; omega)]
theorem rdLB_wr {fx : Bool} {n : Nat} (h : if fx then n + 1 < 4294967296 else n < 2147483648) (r : List UInt8) : rdLB fx ((if fx then Go.Km.uvar (n + 1) else be 4 n) ++ r, false) = ((n : Int), r, false) := by
 cases fx with
 | true =>
  simp only [if_true] at h ⊢
  simp only [rdLB, if_true, rdLc, rdUv_uvar h]
  congr 1
  omega
 | false =>
  simp only [Bool.false_eq_true, if_false] at h ⊢
  simp only [rdLB, Bool.false_eq_true, if_false, rdL4, rdN_be]
  rw [sgn_emod (k := 4) (by decide) (by simp) (by simp; omega)]
theorem wrap_i32_ok {n : Nat} (h : n < 2147483648) : IntKind.i32.wrap (IntKind.i32.wrap ((n + 1 : Nat) : Int) - 1) = (n : Int) := by
 have h2 : (2 : Int) ^ 32 = 4294967296 := by decide
 have h3 : (2 : Int) ^ (32 - 1) = 2147483648 := by decide
 simp only [IntKind.wrap, IntKind.bits, IntKind.signed, Bool.true_and, decide_eq_true_eq, h2, h3]
 split <;> split <;> omega
theorem rdCn_wr {fx : Bool} {n : Nat} (h : n < 2147483648) {r : List UInt8} (hr : n ≤ r.length) : rdCn fx (wrLen fx n ++ r, false) = ((n : Int), r, false) := by
 cases fx with
 | true =>
  simp only [rdCn, wrLen, if_true, rdCc, rdUv_uvar (show n + 1 < 4294967296 by omega)]
  rw [wrap_i32_ok h]
  simp only [rdCount]
  rw [if_neg (by omega)]
 | false =>
  simp only [rdCn, wrLen, Bool.false_eq_true, if_false, rdC4, rdL4, rdN_be]
  rw [sgn_emod (k := 4) (by decide) (by simp) (by simp; omega)]
  simp only [rdCount]
  rw [if_neg (by omega)]
theorem rdCn_null {fx : Bool} {r : List UInt8} : rdCn fx (wrNull fx ++ r, false) = (-1, r, false) := by
  cases fx with
  | true =>
    have e : ([0] : List UInt8) = Go.Km.uvar 0 := rfl
    simp only [rdCn, wrNull, if_true, rdCc, e, rdUv_uvar (show 0 < 4294967296 by omega)]
    simp only [rdCount]
    rw [if_neg (by have : IntKind.i32.wrap (IntKind.i32.wrap ((0 : Nat) : Int) - 1) = -1 := by decide
                   rw [this]; omega)]
    rfl
  | false =>
    simp only [rdCn, wrNull, Bool.false_eq_true, if_false, rdC4, rdL4, rdN_be]
    rw [sgn_emod (k := 4) (by decide) (by simp) (by simp)]
    simp only [rdCount]
    rw [if_neg (by omega)]
theorem wrStr_rd {fx : Bool} {l : List UInt8} (h : strOk fx l) (r : List UInt8) : rdStr (rdL fx (wrStr fx l ++ r, false)) = (l, r, false) := by
 unfold wrStr
 rw [List.append_assoc, rdL_wr h]
 exact rdSpan_app l r
theorem wrNStr_rd {fx : Bool} {l : List UInt8} (h : strOk fx l) (r : List UInt8) : rdNul (rdL fx (wrStr fx l ++ r, false)) = (some l, r, false) := by
 unfold wrStr
 rw [List.append_assoc, rdL_wr h]
 unfold rdNul
 rw [if_neg (by simp)]
 simp only [rdSpan_app]
theorem wrNStr_rd0 {fx : Bool} (r : List UInt8) : rdNul (rdL fx (wrNStr fx none ++ r, false)) = (none, r, false) := by
 cases fx with
 | true =>
  have e : ([0] : List UInt8) = Go.Km.uvar 0 := rfl
  simp only [rdL, wrNStr, if_true, rdLc, e, rdUv_uvar (show 0 < 4294967296 by omega)]
  rfl
 | false =>
  simp only [rdL, wrNStr, Bool.false_eq_true, if_false, rdL2, rdN_be]
  rw [sgn_emod (k := 2) (by decide) (by simp) (by simp)]
  rfl
theorem wrBytes_rd {fx : Bool} {l : List UInt8} (h : octOk fx l) (r : List UInt8) : rdOct (rdLB fx (wrBytes fx l ++ r, false)) = (some l, r, false) := by
 unfold wrBytes
 rw [List.append_assoc, rdLB_wr h]
 unfold rdOct
 rw [if_neg (by simp)]
 simp only [rdSpan_app]
theorem wrNBytes_rd {fx : Bool} {l : List UInt8} (h : octOk fx l) (r : List UInt8) : rdNul (rdLB fx (wrBytes fx l ++ r, false)) = (some l, r, false) := by
 unfold wrBytes
 rw [List.append_assoc, rdLB_wr h]
 unfold rdNul
 rw [if_neg (by simp)]
 simp only [rdSpan_app]
theorem wrNBytes_rd0 {fx : Bool} (r : List UInt8) : rdNul (rdLB fx (wrNBytes fx none ++ r, false)) = (none, r, false) := by
 cases fx with
 | true =>
  have e : ([0] : List UInt8) = Go.Km.uvar 0 := rfl
  simp only [rdLB, wrNBytes, if_true, rdLc, e, rdUv_uvar (show 0 < 4294967296 by omega)]
  rfl
 | false =>
  simp only [rdLB, wrNBytes, Bool.false_eq_true, if_false, rdL4, rdN_be]
  rw [sgn_emod (k := 4) (by decide) (by simp) (by simp)]
  rfl
theorem setTag_last : ∀ (acc : List (Nat × List UInt8)) (k : Nat) (v : List UInt8), (∀ x ∈ acc, x.1 < k) → setTag k v acc = acc ++ [(k, v)]
 | [], k, v, h => rfl
 | x :: l, k, v, h => by
  have h1 := h x (by simp)
  simp only [setTag]
  rw [if_neg (by omega), if_neg (by omega), setTag_last l k v (fun y hy => h y (by simp [hy]))]
  rfl
theorem rdTag_wr {x : Nat × List UInt8} (h1 : x.1 < 4294967296) (h2 : x.2.length < 4294967296) (r : List UInt8) : rdTag (wrTag x ++ r, false) = (x, r, false) := by
 unfold wrTag rdTag
 simp only [List.append_assoc, rdUv_uvar h1, rdUv_uvar h2, rdSpan_app]
theorem rdTagsN_wr : ∀ (tags acc : List (Nat × List UInt8)) (r : List UInt8), (∀ x ∈ tags, x.1 < 4294967296) → (∀ x ∈ tags, x.2.length < 4294967296) → tags.Pairwise (fun x y => x.1 < y.1) → (∀ x ∈ acc, ∀ y ∈ tags, x.1 < y.1) →
  rdTagsN tags.length acc ((tags.map wrTag).flatten ++ r, false) = (acc ++ tags, r, false)
 | [], acc, r, _, _, _, _ => by simp [rdTagsN]
 | x :: tags, acc, r, h1, h2, h3, h4 => by
  simp only [List.length_cons, List.map_cons, List.flatten_cons, List.append_assoc]
  unfold rdTagsN
  rw [rdTag_wr (h1 x (by simp)) (h2 x (by simp))]
  simp only
  rw [setTag_last acc x.1 x.2 (fun y hy => h4 y hy x (by simp))]
  have h5 := List.pairwise_cons.1 h3
  rw [rdTagsN_wr tags (acc ++ [(x.1, x.2)]) r (fun y hy => h1 y (by simp [hy])) (fun y hy => h2 y (by simp [hy])) h5.2 ?_]
  ·simp
  ·intro y hy z hz
   rcases List.mem_append.1 hy with hy | hy
   ·exact h4 y hy z (by simp [hz])
   ·simp only [List.mem_cons, List.not_mem_nil, or_false] at hy
    subst hy
    exact h5.1 z hz
theorem rdTags_wr {tags : List (Nat × List UInt8)} (h : tagsGood tags) (r : List UInt8) : rdTags (wrTags tags ++ r, false) = (tags, r, false) := by
 obtain ⟨⟨h1, h2⟩, h3, h4⟩ := h
 unfold rdTags wrTags
 simp only [List.append_assoc, rdUv_uvar h3]
 have := rdTagsN_wr tags [] r h2 h4 h1 (fun x hx => by simp at hx)
 simpa using this
theorem rdMany_wr {f : RSt → D × RSt} {g : D → List UInt8} : ∀ (l : List D) (r : List UInt8), (∀ d ∈ l, ∀ r, f (g d ++ r, false) = (d, r, false)) → rdMany f l.length ((l.map g).flatten ++ r, false) = (l, r, false)
 | [], r, _ => by simp [rdMany]
 | d :: l, r, h => by
  simp only [List.length_cons, List.map_cons, List.flatten_cons, List.append_assoc, rdMany]
  rw [h d (by simp)]
  simp only
  rw [rdMany_wr l r (fun d hd => h d (by simp [hd]))]
theorem flat_len {g : D → List UInt8} : ∀ (l : List D), (∀ d ∈ l, 1 ≤ (g d).length) → l.length ≤ (l.map g).flatten.length
 | [], _ => by simp
 | d :: l, h => by
  have h1 := h d (by simp)
  have h2 := flat_len l (fun d hd => h d (by simp [hd]))
  simp only [List.length_cons, List.map_cons, List.flatten_cons, List.length_append]
  omega
mutual
theorem Ty.rd_wr (fx : Bool) (ver : Nat) : ∀ (t : Ty) (d : D) (r : List UInt8), t.lp fx ver = true → t.good fx ver d → t.rd fx ver (t.wr fx ver d ++ r, false) = (d, r, false)
 | .scal s _, d, r, hp, h | .named s _ _, d, r, hp, h => by
  cases d <;> simp only [Ty.good] at h
  simp only [Ty.wr, Ty.rd, Scal.rd_wr h]
 | .uuid, d, r, hp, h => by
  cases d with
  | bytes o =>
   cases o with
   | none => simp only [Ty.good] at h
   | some l =>
    simp only [Ty.good] at h
    simp only [Ty.wr, Ty.rd]
    have := rdSpan_app l r
    rw [h] at this
    rw [show ((16 : Nat) : Int) = 16 from rfl] at this
    rw [this]
  | _ => simp only [Ty.good] at h
 | .text, d, r, hp, h => by
  cases d with
  | bytes o =>
   cases o with
   | none => simp only [Ty.good] at h
   | some l =>
    simp only [Ty.good] at h
    simp only [Ty.wr, Ty.rd, wrStr_rd h]
  | _ => simp only [Ty.good] at h
 | .ntext, d, r, hp, h => by
  cases d with
  | bytes o =>
   cases o with
   | none => simp only [Ty.wr, Ty.rd, wrNStr_rd0]
   | some l =>
    simp only [Ty.good] at h
    simp only [Ty.wr, Ty.rd, wrNStr, wrNStr_rd h]
  | _ => simp only [Ty.good] at h
 | .ntextFrom _, d, r, hp, h => by simp [Ty.lp] at hp
 | .bytes, d, r, hp, h => by
  cases d with
  | bytes o =>
   cases o with
   | none => simp only [Ty.good] at h
   | some l =>
    simp only [Ty.good] at h
    simp only [Ty.wr, Ty.rd, Option.getD_some, wrBytes_rd h]
  | _ => simp only [Ty.good] at h
 | .nbytes, d, r, hp, h => by
  cases d with
  | bytes o =>
   cases o with
   | none => simp only [Ty.wr, Ty.rd, wrNBytes_rd0]
   | some l =>
    simp only [Ty.good] at h
    simp only [Ty.wr, Ty.rd, wrNBytes, wrNBytes_rd h]
  | _ => simp only [Ty.good] at h
 | .list TS null e, d, r, hp, h => by
  simp only [Ty.lp, Bool.and_eq_true] at hp
  cases d with
  | list o =>
   cases o with
   | none =>
    simp only [Ty.good] at h
    simp only [Ty.wr, Ty.rd]
    rcases h with rfl | ⟨N, rfl, hN⟩
    ·simp only [Option.isSome_none, Bool.false_eq_true, if_false]
     rw [rdCn_wr (by decide) (Nat.zero_le _)]
     simp [emptyB]
    ·simp only [Option.isSome_some, if_true, rdCn_null]
     have : ¬ ver < N := by omega
     simp [emptyB, this]
   | some l =>
    simp only [Ty.good] at h
    obtain ⟨h0, h1, h2⟩ := h
    have hfl := flat_len (g := fun d => e.wr fx ver d) l (fun d hd => Ty.wr_pos fx ver e d hp.1 (h2 d hd))
    simp only [Ty.wr, Ty.rd, List.append_assoc]
    rw [rdCn_wr h1 (by simp only [List.length_append]; omega)]
    simp only [Bool.false_eq_true, if_false]
    cases l with
    | nil =>
     have hnl : null ≠ none := fun hh => h0 hh rfl
     obtain ⟨N, rfl⟩ := Option.ne_none_iff_exists'.1 hnl
     simp [emptyB]
    | cons d l =>
     rw [if_neg (by simp only [List.length_cons]; omega), Int.toNat_natCast]
     rw [rdMany_wr (f := fun s => e.rd fx ver s) (g := fun d => e.wr fx ver d) (d :: l) r (fun d hd r => Ty.rd_wr fx ver e d r hp.2 (h2 d hd))]
  | _ => simp only [Ty.good] at h
 | .struct _ _ _ fs, d, r, hp, h => by
  cases d with
  | obj l tags =>
   simp only [Ty.good] at h
   simp only [Ty.lp] at hp
   simp only [Ty.wr, Ty.rd, Flds.rd_wr fx ver fs l tags r hp h]
  | _ => simp only [Ty.good] at h
theorem Flds.rd_wr (fx : Bool) (ver : Nat) : ∀ (fs : Flds) (l : List D) (tags : List (Nat × List UInt8)) (r : List UInt8), fs.lp fx ver = true → fs.good fx ver l tags → fs.rd fx ver (fs.wr fx ver l tags ++ r, false) = (l, tags, r, false)
 | .nil _, [], tags, r, hp, h => by
  simp only [Flds.good] at h
  cases fx with
  | true =>
   simp only [if_true] at h
   simp only [Flds.wr, Flds.rd, if_true, rdTags_wr h]
  | false =>
   simp only [Bool.false_eq_true, if_false] at h
   subst h
   simp [Flds.wr, Flds.rd]
 | .nil _, _ :: _, tags, r, hp, h => by simp [Flds.good] at h
 | .cons v t r', [], tags, r, hp, h => by simp [Flds.good] at h
 | .cons v t r', d :: l, tags, r, hp, h => by
  simp only [Flds.good] at h
  simp only [Flds.lp, Bool.and_eq_true, Bool.or_eq_true, Bool.not_eq_true'] at hp
  obtain ⟨h1, h2⟩ := h
  simp only [Flds.wr, Flds.rd, List.append_assoc]
  cases hv : v.has ver with
  | true =>
   simp only [hv, if_true] at h1 ⊢
   have hpt : t.lp fx ver = true := by
    rcases hp.1 with h | h
    ·rw [hv] at h; cases h
    ·exact h
   rw [Ty.rd_wr fx ver t d _ hpt h1]
   simp only
   rw [Flds.rd_wr fx ver r' l tags r hp.2 h2]
  | false =>
   simp only [hv, Bool.false_eq_true, if_false, List.nil_append] at h1 ⊢
   subst h1
   rw [Flds.rd_wr fx ver r' l tags r hp.2 h2]
end
end Go.Km
namespace Go.Km
open Go Go.RowKit
theorem sgn_rng {k n : Nat} (hk : 0 < k) (h : n < 256 ^ k) : -(2 ^ (8 * k - 1) : Nat) ≤ sgn k n ∧ sgn k n < (2 ^ (8 * k - 1) : Nat) := by
 have e : (256 : Nat) ^ k = 2 ^ (8 * k - 1) + 2 ^ (8 * k - 1) := by
  rw [show 256 = 2 ^ 8 from rfl, ← Nat.pow_mul, ← Nat.mul_two, ← Nat.pow_succ]
  congr 1
  omega
 have e2 : (2 : Int) ^ (8 * k) = ((256 ^ k : Nat) : Int) := by
  rw [show 256 = 2 ^ 8 from rfl, ← Nat.pow_mul]
  simp
 unfold sgn
 rw [e2]
 rw [e] at h ⊢
 generalize 2 ^ (8 * k - 1) = m at *
 split <;> omega
end Go.Km
namespace Go.Km
open Go Go.RowKit
attribute [local irreducible] vc rO_ runG runS runD
def BytesIn (P : Program) (E : Env) (W : World) (sv : Value) (l : List UInt8) : Prop :=
 (∃ ad cap, sv = .slice ad l.length cap) ∧ ∀ w', Below W.heap.size W w' → Src P 1 E.tB sv l.length (l.map bv) w'
theorem RowB.bytesIn {P : Program} {E : Env} (HB : rowB P E.tB E.tU8 1 = true) {W : World} {sv : Value} {l : List UInt8} (h : RowB W sv l) : BytesIn P E W sv l :=
 ⟨h.form, fun w' hb => (h.below hb).src (rB HB)⟩
theorem BytesIn.below {P : Program} {E : Env} {W W' : World} {sv : Value} {l : List UInt8} (h : BytesIn P E W sv l) (hb : Below W.heap.size W W') : BytesIn P E W' sv l :=
 ⟨h.1, fun w' hb' => h.2 w' (hb.trans (hb'.mono hb.size))⟩
def lpB (m : Msg) (mx : Nat) : Bool := (List.range (mx + 1)).all fun v => m.fs.lp (m.isFlex v) v
theorem lpB_at {m : Msg} {mx ver : Nat} (h : lpB m mx = true) (hv : ver ≤ mx) : m.fs.lp (m.isFlex ver) ver = true := List.all_eq_true.1 h ver (List.mem_range.2 (by omega))
section
variable {P : Program} {E : Env}
end
end Go.Km
namespace Go.Km
open Go Go.RowKit Go.ChangeShapes Go.WideShapes Go.ChangeAt
section
variable {H : Type} {enc : TypeId × Value → H} {P : Program} {E : Env}
theorem u8_nat' {a : Int} (h : (Lit.int .u8 a).wf = true) : ∃ n : Nat, a = (n : Int) ∧ n < 256 := by
 have h2 : IntKind.u8.min ≤ a ∧ a ≤ IntKind.u8.max := by
  simpa [Lit.wf] using h
 have e1 : IntKind.u8.min = 0 := by decide
 have e2 : IntKind.u8.max = 255 := by decide
 rw [e1, e2] at h2
 exact ⟨a.toNat, by omega, by omega⟩
theorem trodAll_below (hl : laidOutB P = true) {W W' : World} (hb : Below W.heap.size W W') : ∀ {ts : List TypeId} {vs : List Value} {ds : List (DataW H)} {ps : List MemPlace},
  (∀ t ∈ ts, P.readableRec t = true ∧ t < P.types.size) → DataW.TrodAll enc P W 0 (fun _ => true) true ts vs ds ps → (∀ x ∈ ps, x.block < W.heap.size) → DataW.TrodAll enc P W' 0 (fun b => decide (b < W.heap.size)) true ts vs ds ps
 | [], vs, ds, ps, _, h, _ => by
  obtain ⟨rfl, rfl, rfl⟩ := trodAll_nil h
  exact trodAll_mk0
 | t :: ts, vs, ds, ps, hr, h, hlt => by
  obtain ⟨v, vs', d, ds', p, q, rfl, rfl, rfl, h1, h2⟩ := trodAll_cons h
  have ht := hr t (by simp)
  exact trodAll_cons_mk (Below.trod hl ht.1 ht.2 h1 hb (fun x hx => hlt x (by simp [hx]))) (trodAll_below hl hb (fun t ht => hr t (by simp [ht])) h2 (fun x hx => hlt x (by simp [hx])))
theorem boolPost {f : Func} {s : ChangeSpec} {apart : Bool} {W W' : World} {args : Array Value} {ds gs : List (DataW H)} {before : List MemPlace} {tb : TypeId} (hW : DataW.Whole enc P f.params.toList s.vars apart W args.toList ds gs before) (hvars : s.vars = [])
  (hl : laidOutB P = true) (hr : ∀ t ∈ f.params.toList, P.readableRec t = true ∧ t < P.types.size) (hb : Below W.heap.size W W') (hrt : f.resultTypes = #[tb]) (hub : P.underlying tb = some .bool) (hfn : s.fn H ds = { results := [.lit (.bool true)], args := ds }) :
  s.post enc P f apart true false false W args (.bool true) W' := by
 have hW' := hW
 have hlt := hW.lt
 obtain ⟨p, q, hA, hV, rfl, _, _⟩ := hW
 rw [hvars] at hV
 obtain ⟨rfl, rfl⟩ := trodVars_none hV
 refine ⟨ds, [], _, [], p, [], hW', ?_, ?_, ?_, hb.frame _, fun h => by cases h⟩
 ·rw [List.append_nil, hfn, hrt]
  exact trodAll_mk1 (shut_bool hub _)
 ·rw [List.append_nil, hfn]
  exact trodAll_below hl hb hr hA (fun x hx => hlt x (by simp [hx]))
 ·rw [List.append_nil, hfn, hvars]
  rfl
theorem laid_ev {W : World} {name nm : String} {d : DataW Unit} {g : Nat} {ti : TypeId} (hg : P.globalNamed name = some g) (hti : (P.globals[g]?).map (·.type) = some ti) (hi : ifaceT P ti = true) (hnh : (DataW.iface nm d : DataW Unit).handleName?.isNone = true)
  (h : laidMetH P [(name, .iface nm d)] W) : ∃ ev, W.cell? ⟨g, 0, none⟩ = some ev ∧ ∃ u z, ev = .iface u z := by
 rw [MakeChecks.laidMetH_plain _ _ _ (by simpa using hnh)] at h
 obtain ⟨ps, ⟨g', t, cs, fuel, p, q, h1, h2, h3, h4, _⟩, _⟩ := h
 rw [hg] at h1
 cases h1
 rw [hti] at h2
 cases h2
 obtain ⟨ms, hu⟩ : ∃ ms, P.underlying ti = some (.interface ms) := by
  unfold ifaceT at hi
  split at hi
  ·rename_i ms h; exact ⟨ms, h⟩
  ·cases hi
 obtain ⟨_, u, v, hcs, _, _⟩ := iface_of_trod hu h4
 refine ⟨.iface u v, ?_, u, v, rfl⟩
 have hcs' : cs = #[.iface u v] := Array.ext' hcs
 subst hcs'
 unfold World.var? at h3
 rw [hg] at h3
 simp only [Option.bind_some] at h3
 split at h3
 ·rename_i c T fr hh
  simp only [Option.some.injEq] at h3
  subst h3
  simp [World.cell?, hh]
 ·cases h3
end
end Go.Km
