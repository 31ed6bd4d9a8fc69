/- Same. -/
import Derived.Test.YtnbhpeaapbpaeaaKmS4
set_option linter.unusedSimpArgs false
set_option linter.unusedVariables false
namespace Go.Km
open Go Go.RowKit
attribute [local irreducible] vc runOps runG runS runD

/-- A slice of octets. -/
def RowB (w : World) (v : Value) (l : List UInt8) : Prop :=
  (v = .slice none 0 0 ∧ l = []) ∨ ∃ q o cap, v = .slice (some ⟨q, o, none⟩) l.length cap ∧ Cells w q o (l.map bv)
theorem RowB.of_own {w : World} {U : Nat} {e : TypeId} {v : Value} {l : List UInt8} (h : w.ownsRow U e 1 v l.length (l.map bv)) : RowB w v l := by
  rcases h.2 with ⟨rfl, h0⟩ | ⟨g, cap, cur, rfl, hbg, hg, hnc, hcm, hcs, htake⟩
  · exact .inl ⟨rfl, List.eq_nil_of_length_eq_zero h0⟩
  · refine .inr ⟨g, 0, cap, rfl, ?_⟩
    intro j u hu
    have := h.cells (g := g) rfl j u hu
    rwa [Addr.add_lit] at this
theorem RowB.form {w : World} {v : Value} {l : List UInt8} (h : RowB w v l) : ∃ ad cap, v = .slice ad l.length cap := by
  rcases h with ⟨rfl, rfl⟩ | ⟨q, o, cap, rfl, _⟩ <;> exact ⟨_, _, rfl⟩
theorem RowB.at {w : World} {v : Value} {l : List UInt8} (h : RowB w v l) {i : Nat} (hi : i < l.length) : ∃ q o cap, v = .slice (some ⟨q, o, none⟩) l.length cap ∧ w.cell? ⟨q, o + i, none⟩ = some (.int .u8 (l[i]).toNat) := by
  rcases h with ⟨rfl, rfl⟩ | ⟨q, o, cap, rfl, hc⟩
  · simp at hi
  · refine ⟨q, o, cap, rfl, ?_⟩
    exact hc i (bv l[i]) (by simp [hi])
theorem cell_heap {w w' : World} (h : w'.heap = w.heap) (p : Addr) : w'.cell? p = w.cell? p := by
  unfold World.cell?
  rw [h]
theorem RowB.heap {w w' : World} (h : w'.heap = w.heap) {v : Value} {l : List UInt8} (hr : RowB w v l) : RowB w' v l := by
  rcases hr with hr | ⟨q, o, cap, h1, h2⟩
  · exact .inl hr
  · exact .inr ⟨q, o, cap, h1, fun i u hu => by rw [cell_heap h]; exact h2 i u hu⟩

section
variable {P : Program} {a : Act} {w : World} {Q : Exit → Act → World → Prop}
theorem vc_rgd {ops : List Oper} (ord : List (Nat × Bool)) (S : World → Prop) (hm : P.follows .mixedOrders = true) (hs : Region.noSelect ops.toArray = true) (hl : ord.length = ops.length) (hB : ordB ops.toArray ord (Array.replicate ops.length false) = true)
    (hQ : ∀ c a a' w, Q (.panic c) a w → Q (.panic c) a' w) (h : runD P ops Q S ord a { w with drawn := w.drawn + 1 }) : vc P (rgd ops) Q a w := vc_runD ord S hm hs hl hB hQ h
end

section
variable {P : Program} {E : Env} {w : World} {U : Nat}
set_option maxHeartbeats 600000 in
theorem s_same (H : SEnv P E) (hmix : P.follows .mixedOrders = true) (ht : Text P E.sSame 2 26 #[.tmp 4] (c_sSame E)) {v1 v2 : Value} {xs ys : List UInt8} (h1 : RowB w v1 xs) (h2 : RowB w v2 ys) (hb1 : xs.length ≤ big) (hb2 : ys.length ≤ big) :
    CallsV P E.sSame #[v1, v2] w fun r w' => r = .bool (decide (xs = ys)) ∧ Below U w w' := by
  unfold big at hb1 hb2
  refine CallsV.enter ht (by simp) ?_
  intro a hsz hdf harg
  have e0 := harg 0 v1 (by simp)
  have e1 := harg 1 v2 (by simp)
  have hsl := rowB_slice H.row
  obtain ⟨ad1, cap1, f1⟩ := h1.form
  obtain ⟨ad2, cap2, f2⟩ := h2.form
  unfold c_sSame
  refine vc_sq (vc_rg (by simp) ?_)
  refine r_assign ?_
  refine dn ?_
  refine vc_sq (vc_sq (vc_rg (by simp) ?_))
  refine r_move ?_
  refine r_len (ad := ad1) (n := xs.length) (c := cap1) hsl (by simp (disch := (first | omega | (simp only [sP]; omega))) only [eS, eN, eC, e0, f1]) ?_
  refine r_move ?_
  refine r_len (ad := ad2) (n := ys.length) (c := cap2) hsl (by simp (disch := (first | omega | (simp only [sP]; omega))) only [eS, eN, eC, e1, f2]) ?_
  refine r_neq (k := .i64) (m := (xs.length : Int)) (n := (ys.length : Int)) (by simp (disch := (first | omega | (simp only [sP]; omega))) only [eS, eN, eC]) (by simp (disch := (first | omega | (simp only [sP]; omega))) only [eS, eN, eC]) ?_
  refine dn ?_
  refine vc_sq (vc_cond (t := ((xs.length : Int) != (ys.length : Int))) (by (try simp (disch := (first | omega | (simp only [sP]; omega))) only [eS, eN, eC]) <;> (first | rfl | assumption)) ?_ ?_)
  · intro hne
    have hne' : ¬ xs = ys := by
      intro he
      subst he
      simp at hne
    refine vc_sq (vc_rg (by simp) ?_)
    refine r_assign ?_
    refine dn ?_
    refine vc_sq (vc_ret ?_)
    exact ⟨by simp only [defers_put]; exact hdf, _, results_one (by (try simp (disch := (first | omega | (simp only [sP]; omega))) only [eS, eN, eC]) <;> (first | rfl | assumption)), by simp [hne'], Below.refl _ _⟩
  intro heq
  have hlen : xs.length = ys.length := by simp only [bne_eq_false_iff_eq] at heq; omega
  refine vc_skip (vc_sq_nil ?_)
  refine vc_sq (vc_sq (vc_rg (by simp) ?_))
  refine r_move ?_
  refine r_len (ad := ad1) (n := xs.length) (c := cap1) hsl (by simp (disch := (first | omega | (simp only [sP]; omega))) only [eS, eN, eC, e0, f1]) ?_
  refine r_move ?_
  refine dn ?_
  refine vc_sq (vc_block (vc_count (fun m A W => m ≤ xs.length ∧ A.tmps.size = 26 ∧ A.defers = [] ∧ A.eval (.tmp 0) = v1 ∧ A.eval (.tmp 1) = v2 ∧ A.eval (.tmp 12) = .int .i64 (xs.length : Int) ∧ A.eval (.tmp 13) = .int .i64 ((xs.length - m : Nat) : Int) ∧
    W.heap = w.heap ∧ Below U w W ∧ ∀ j (h : j < xs.length), j < xs.length - m → xs[j] = ys[j]'(by omega)) xs.length ?_ ?_ ?_))
  · refine ⟨Nat.le_refl _, by simp only [size_put]; exact hsz, by simp only [defers_put]; exact hdf, (by simp (disch := (first | omega | (simp only [sP]; omega))) only [eS, eN, eC, e0]), (by simp (disch := (first | omega | (simp only [sP]; omega))) only [eS, eN, eC, e1]), (by simp (disch := (first | omega | (simp only [sP]; omega))) only [eS, eN, eC]), ?_, rfl, Below.refl _ _, fun j h h' => by omega⟩
    simp (disch := (first | omega | (simp only [sP]; omega))) only [eS, eN, eC]
    simp
  · rintro m A W ⟨hm, hs, hd, g0, g1, g12, g13, hheap, hbl, hall⟩
    have hi : xs.length - (m + 1) < xs.length := by omega
    generalize hii : xs.length - (m + 1) = i at *
    have r1 := h1.heap hheap
    have r2 := h2.heap hheap
    obtain ⟨q1, o1, c1, k1, l1⟩ := r1.at hi
    obtain ⟨q2, o2, c2, k2, l2⟩ := r2.at (show i < ys.length by omega)
    obtain ⟨x8, hx8⟩ : ∃ x8 : Nat, (xs[i]).toNat = x8 := ⟨_, rfl⟩
    obtain ⟨y8, hy8⟩ : ∃ y8 : Nat, (ys[i]'(by omega)).toNat = y8 := ⟨_, rfl⟩
    rw [hx8] at l1
    rw [hy8] at l2
    refine vc_sq (vc_rg (by simp) ?_)
    refine r_lss (k := .i64) (m := (i : Int)) (n := (xs.length : Int)) g13 g12 ?_
    refine dn ?_
    refine vc_sq (vc_cond (t := true) ?_ ?_ (fun h => by cases h))
    · simp (disch := (first | omega | (simp only [sP]; omega))) only [eS, eN, eC]
      simp only [Value.bool.injEq, decide_eq_true_eq]
      omega
    intro _
    refine vc_skip ?_
    refine vc_sq (vc_block (vc_sq (vc_rg (by simp) ?_)))
    refine r_move ?_
    refine r_assign ?_
    refine dn ?_
    refine vc_sq (vc_rgd [(0, true), (1, true), (2, true), (3, true), (4, true), (5, true), (6, true), (7, true), (8, true)] (fun W' => W'.heap = W.heap) hmix (by kernel_rfl) rfl (by kernel_rfl) (fun _ _ _ _ h => False.elim h) ?_)
    have hS : ({ W with drawn := W.drawn + 1 } : World).heap = W.heap := rfl
    have hs0 := hs
    refine d_pure rfl rfl rfl (wants_none rfl) (by simp only [size_put, hs]; decide) hS (fun w' hS' => r_move (dn ⟨rfl, rfl, rfl⟩)) ?_
    refine d_pure rfl rfl rfl (wants_none rfl) (by simp only [size_put, hs]; decide) hS (fun w' hS' => r_move (dn ⟨rfl, rfl, rfl⟩)) ?_
    refine d_pure rfl rfl rfl (wants_none rfl) (by simp only [size_put, hs]; decide) hS (fun w' hS' => r_index (k := .i64) (j := i) (b := q1) (o := o1) (len := xs.length) (cap := c1) hsl (by simp (disch := (first | omega | (simp only [sP]; omega))) only [eS, eN, eC, g0, k1]) (by simp (disch := (first | omega | (simp only [sP]; omega))) only [eS, eN, eC, g13]) hi (dn ⟨rfl, rfl, rfl⟩)) ?_
    refine d_pure rfl rfl rfl (wants_none rfl) (by simp only [size_put, hs]; decide) hS (fun w' hS' => r_load (b := q1) (o := o1 + i * 1) (by simp (disch := (first | omega | (simp only [sP]; omega))) only [eS, eN, eC]) H.oU8 (by rw [cell_heap hS', Nat.mul_one]; exact l1) (dn ⟨rfl, rfl, rfl⟩)) ?_
    refine d_pure rfl rfl rfl (wants_none rfl) (by simp only [size_put, hs]; decide) hS (fun w' hS' => r_move (dn ⟨rfl, rfl, rfl⟩)) ?_
    refine d_pure rfl rfl rfl (wants_none rfl) (by simp only [size_put, hs]; decide) hS (fun w' hS' => r_move (dn ⟨rfl, rfl, rfl⟩)) ?_
    refine d_pure rfl rfl rfl (wants_none rfl) (by simp only [size_put, hs]; decide) hS (fun w' hS' => r_index (k := .i64) (j := i) (b := q2) (o := o2) (len := ys.length) (cap := c2) hsl (by simp (disch := (first | omega | (simp only [sP]; omega))) only [eS, eN, eC, g1, k2]) (by simp (disch := (first | omega | (simp only [sP]; omega))) only [eS, eN, eC, g13]) (by omega) (dn ⟨rfl, rfl, rfl⟩)) ?_
    refine d_pure rfl rfl rfl (wants_none rfl) (by simp only [size_put, hs]; decide) hS (fun w' hS' => r_load (b := q2) (o := o2 + i * 1) (by simp (disch := (first | omega | (simp only [sP]; omega))) only [eS, eN, eC]) H.oU8 (by rw [cell_heap hS', Nat.mul_one]; exact l2) (dn ⟨rfl, rfl, rfl⟩)) ?_
    refine d_pure rfl rfl rfl (wants_none rfl) (by simp only [size_put, hs]; decide) hS (fun w' hS' => r_neq (k := .u8) (m := (x8 : Int)) (n := (y8 : Int)) (by simp (disch := (first | omega | (simp only [sP]; omega))) only [eS, eN, eC]) (by simp (disch := (first | omega | (simp only [sP]; omega))) only [eS, eN, eC]) (dn ⟨rfl, rfl, rfl⟩)) ?_
    refine d_nil ?_
    have hbl' : Below U w { W with drawn := W.drawn + 1 } := ⟨hbl.os, hbl.tape, hbl.output, hbl.size, hbl.block⟩
    refine vc_sq (vc_cond (t := ((x8 : Int) != (y8 : Int))) (by (try simp (disch := (first | omega | (simp only [sP]; omega))) only [eS, eN, eC]) <;> (first | rfl | assumption)) ?_ ?_)
    · intro hne
      have hne' : ¬ xs = ys := by
        intro he
        subst he
        rw [hx8] at hy8
        subst hy8
        simp at hne
      refine vc_sq (vc_rg (by simp) ?_)
      refine r_assign ?_
      refine dn ?_
      refine vc_sq (vc_ret ?_)
      exact ⟨by simp only [defers_put]; exact hd, _, results_one (by (try simp (disch := (first | omega | (simp only [sP]; omega))) only [eS, eN, eC]) <;> (first | rfl | assumption)), by simp [hne'], hbl'⟩
    · intro hq
      have hxy : xs[i] = ys[i]'(by omega) := by
        have : (xs[i]).toNat = (ys[i]'(by omega)).toNat := by
          simp only [bne_eq_false_iff_eq] at hq
          rw [hx8, hy8]
          omega
        exact UInt8.toNat_inj.1 this
      refine vc_skip ?_
      refine vc_sq_nil ?_
      refine vc_sq (vc_rg (by simp) ?_)
      refine r_add (k := .i64) (m := (i : Int)) (n := 1) (by simp (disch := (first | omega | (simp only [sP]; omega))) only [eS, eN, eC, g13]) rfl ?_
      refine r_move ?_
      refine dn ?_
      refine vc_sq_nil ?_
      refine ⟨by omega, by simp only [size_put]; exact hs, by simp only [defers_put]; exact hd, (by simp (disch := (first | omega | (simp only [sP]; omega))) only [eS, eN, eC, g0]), (by simp (disch := (first | omega | (simp only [sP]; omega))) only [eS, eN, eC, g1]), (by simp (disch := (first | omega | (simp only [sP]; omega))) only [eS, eN, eC, g12]), ?_, hheap, hbl', fun j h h' => ?_⟩
      · simp (disch := (first | omega | (simp only [sP]; omega))) only [eS, eN, eC]
        rw [wrap_i64 (by omega) (by omega)]
        congr 1
        omega
      · by_cases hj : j = i
        · subst hj; exact hxy
        · exact hall j h (by omega)
  · rintro A W ⟨hm, hs, hd, g0, g1, g12, g13, hheap, hbl, hall⟩
    have hxy : xs = ys := List.ext_getElem hlen (fun j h h' => hall j h (by omega))
    refine vc_sq (vc_rg (by simp) ?_)
    refine r_lss (k := .i64) (m := ((xs.length - 0 : Nat) : Int)) (n := (xs.length : Int)) g13 g12 ?_
    refine dn ?_
    refine vc_sq (vc_cond (t := false) ?_ (fun h => by cases h) ?_)
    · simp (disch := (first | omega | (simp only [sP]; omega))) only [eS, eN, eC]
      simp only [Value.bool.injEq, decide_eq_false_iff_not]
      omega
    intro _
    refine vc_exit ?_
    simp only [Exit.then, Exit.inBlock, if_true]
    refine vc_sq_nil ?_
    refine vc_sq (vc_rg (by simp) ?_)
    refine r_assign ?_
    refine dn ?_
    refine vc_sq (vc_ret ?_)
    exact ⟨by simp only [defers_put]; exact hd, _, results_one (by (try simp (disch := (first | omega | (simp only [sP]; omega))) only [eS, eN, eC]) <;> (first | rfl | assumption)), by simp [hxy], hbl⟩
end
end Go.Km
