/- spec.unknown: the plain law, the rows, the two tests. -/
import Derived.Test.YtnbhpeaapbpaeaaKmS16
import Derived.Laws.OwnMore
set_option linter.unusedSimpArgs false
set_option linter.unusedVariables false
namespace Go.Km
open Go Go.RowKit
attribute [local irreducible] vc runOps runG runS runD

/-! ## where a tag goes -/
def pos (x : Nat) (l : List (Nat × List UInt8)) : Nat := (l.takeWhile fun y => decide (y.1 < x)).length
theorem pos_cons_lt {x : Nat} {y : Nat × List UInt8} {r : List (Nat × List UInt8)} (h : y.1 < x) : pos x (y :: r) = pos x r + 1 := by
  simp [pos, List.takeWhile_cons, h]
theorem pos_cons_ge {x : Nat} {y : Nat × List UInt8} {r : List (Nat × List UInt8)} (h : ¬ y.1 < x) : pos x (y :: r) = 0 := by
  simp [pos, List.takeWhile_cons, h]
theorem pos_le (x : Nat) : ∀ l, pos x l ≤ l.length
  | [] => by simp [pos]
  | y :: r => by
    by_cases h : y.1 < x
    · rw [pos_cons_lt h, List.length_cons]; have := pos_le x r; omega
    · rw [pos_cons_ge h]; omega
theorem pos_lt (x : Nat) : ∀ (l : List (Nat × List UInt8)) (i : Nat) (h : i < l.length), i < pos x l → l[i].1 < x
  | [], i, h, _ => by simp at h
  | y :: r, i, h, hp => by
    by_cases hy : y.1 < x
    · cases i with
      | zero => exact hy
      | succ i =>
        rw [pos_cons_lt hy] at hp
        simpa using pos_lt x r i (by simpa using h) (by omega)
    · rw [pos_cons_ge hy] at hp; omega
theorem pos_at (x : Nat) : ∀ (l : List (Nat × List UInt8)) (h : pos x l < l.length), ¬ l[pos x l].1 < x
  | [], h => by simp at h
  | y :: r, h => by
    by_cases hy : y.1 < x
    · have h' : pos x r < r.length := by rw [pos_cons_lt hy] at h; simpa using h
      have := pos_at x r h'
      simp only [pos_cons_lt hy, List.getElem_cons_succ]
      exact this
    · simp only [pos_cons_ge hy, List.getElem_cons_zero]
      exact hy
theorem insU_pos (x : Nat × List UInt8) : ∀ l : List (Nat × List UInt8), insU x l = if (l[pos x.1 l]?).map (·.1) = some x.1 then l else l.take (pos x.1 l) ++ x :: l.drop (pos x.1 l)
  | [] => by simp [insU, pos]
  | y :: r => by
    have ih := insU_pos x r
    unfold insU
    by_cases hy : y.1 < x.1
    · rw [if_pos hy, ih, pos_cons_lt hy]
      simp only [List.getElem?_cons_succ, List.take_succ_cons, List.drop_succ_cons, List.cons_append]
      split <;> rfl
    · rw [if_neg hy, pos_cons_ge hy]
      simp only [List.getElem?_cons_zero, Option.map_some, Option.some.injEq, List.take_zero, List.drop_zero, List.nil_append]

/-! ## rows of tags -/
abbrev UE := (Nat × List UInt8) × Value
def fl : List UE → List Value
  | [] => []
  | e :: r => .int .u32 (e.1.1 : Int) :: e.2 :: fl r
theorem fl_len : ∀ l, (fl l).length = l.length * 2
  | [] => rfl
  | e :: r => by simp [fl, fl_len r]; omega
theorem fl_app : ∀ a b : List UE, fl (a ++ b) = fl a ++ fl b
  | [], b => rfl
  | e :: r, b => by simp [fl, fl_app r b]
theorem fl_get0 : ∀ (l : List UE) (i : Nat) (e : UE), l[i]? = some e → (fl l)[i * 2]? = some (.int .u32 (e.1.1 : Int))
  | [], i, e, h => by simp at h
  | x :: r, 0, e, h => by simp at h; subst h; rfl
  | x :: r, i + 1, e, h => by
    have := fl_get0 r i e (by simpa using h)
    rw [show (i + 1) * 2 = i * 2 + 1 + 1 by omega]
    simpa [fl] using this
theorem fl_get1 : ∀ (l : List UE) (i : Nat) (e : UE), l[i]? = some e → (fl l)[i * 2 + 1]? = some e.2
  | [], i, e, h => by simp at h
  | x :: r, 0, e, h => by simp at h; subst h; rfl
  | x :: r, i + 1, e, h => by
    have := fl_get1 r i e (by simpa using h)
    rw [show (i + 1) * 2 + 1 = i * 2 + 1 + 1 + 1 by omega]
    simpa [fl] using this
theorem fl_set : ∀ (l : List UE) (i : Nat) (e : UE), i < l.length → ((fl l).set (i * 2) (.int .u32 (e.1.1 : Int))).set (i * 2 + 1) e.2 = fl (l.set i e)
  | [], i, e, h => by simp at h
  | x :: r, 0, e, h => by simp [fl]
  | x :: r, i + 1, e, h => by
    have := fl_set r i e (by simpa using h)
    rw [show (i + 1) * 2 = i * 2 + 1 + 1 by omega]
    simpa [fl] using this
theorem shift_set (es : List UE) (k : Nat) (X : UE) (h : k < es.length) : (es.take (k + 1) ++ X :: es.drop (k + 1)).set (k + 1) es[k] = es.take k ++ es[k] :: es.drop k := by
  have h1 : (es.take (k + 1)).length = k + 1 := by simp; omega
  rw [List.set_append_right _ _ (by omega), h1, Nat.sub_self, List.set_cons_zero, List.take_succ_eq_append_getElem h, List.append_assoc]
  congr 1
  rw [List.drop_eq_getElem_cons h]
  rfl
theorem shift_get (es : List UE) (k : Nat) (X : UE) (h : k < es.length) : (es.take (k + 1) ++ X :: es.drop (k + 1))[k]? = some es[k] := by
  rw [List.getElem?_append_left (by simp; omega), List.getElem?_take, if_pos (by omega), List.getElem?_eq_getElem h]
theorem put_set (es : List UE) (k : Nat) (X e : UE) (h : k ≤ es.length) : (es.take k ++ X :: es.drop k).set k e = es.take k ++ e :: es.drop k := by
  have h1 : (es.take k).length = k := by simp; omega
  rw [List.set_append_right _ _ (by omega), h1, Nat.sub_self, List.set_cons_zero]

theorem own_set2 {w : World} {B : Nat} {e : TypeId} {g n cap i : Nat} {l : List UE} {x : UE} (h : w.ownsRow B e 2 (.slice (some ⟨g, 0, none⟩) n cap) n (fl l)) (hi : i < l.length) :
    (setCells w g (i * 2) [.int .u32 (x.1.1 : Int), x.2]).ownsRow B e 2 (.slice (some ⟨g, 0, none⟩) n cap) n (fl (l.set i x)) ∧ Below B w (setCells w g (i * 2) [.int .u32 (x.1.1 : Int), x.2]) := by
  have h1 := h.stored (i * 2) (.int .u32 (x.1.1 : Int))
  have h2 := h1.1.stored (i * 2 + 1) x.2
  rw [fl_set l i x hi] at h2
  refine ⟨h2.1, ?_⟩
  have hb : B ≤ g := (h.lt g rfl).1
  have k1 : Below B w (w.setCell ⟨g, i * 2, none⟩ (.int .u32 (x.1.1 : Int))) := ⟨h1.2.os, h1.2.tape, h1.2.output, h1.2.size, fun k hk => by
    rcases Nat.lt_or_ge k w.heap.size with h3 | h3
    · exact h1.2.block k h3 (by simp; omega)
    · have hg : g < w.heap.size := own_block_lt h rfl
      omega⟩
  refine k1.trans ⟨h2.2.os, h2.2.tape, h2.2.output, h2.2.size, fun k hk => ?_⟩
  have hg : g < w.heap.size := own_block_lt h rfl
  have := h1.2.size
  exact h2.2.block k (by omega) (by simp; omega)
theorem own_free2 {w : World} {B : Nat} {e : TypeId} {g n cap j : Nat} {l : List UE} (h : w.ownsRow B e 2 (.slice (some ⟨g, 0, none⟩) n cap) n (fl l)) (hj : j < n * 2) : Free w g j := by
  refine ⟨?_, h.frozenAt j⟩
  rw [h.cellAt j hj]
  have := h.1
  rw [List.getElem?_eq_getElem (by omega)]
  rfl
theorem own_cells2 {w : World} {B : Nat} {e : TypeId} {g n cap i : Nat} {l : List UE} {x : UE} (h : w.ownsRow B e 2 (.slice (some ⟨g, 0, none⟩) n cap) n (fl l)) (hx : l[i]? = some x) : Cells w g (i * 2) [.int .u32 (x.1.1 : Int), x.2] := by
  have hl := h.1
  rw [fl_len] at hl
  have hi : i < l.length := by
    rcases Nat.lt_or_ge i l.length with h | h
    · exact h
    · rw [List.getElem?_eq_none h] at hx; cases hx
  intro j v hv
  match j, hv with
  | 0, hv =>
    simp only [List.getElem?_cons_zero, Option.some.injEq] at hv
    subst hv
    rw [Nat.add_zero, h.cellAt _ (by omega)]
    exact fl_get0 l i x hx
  | 1, hv =>
    simp only [List.getElem?_cons_succ, List.getElem?_cons_zero, Option.some.injEq] at hv
    subst hv
    rw [h.cellAt _ (by omega)]
    exact fl_get1 l i x hx
theorem own_form2 {w : World} {B : Nat} {e : TypeId} {v : Value} {n : Nat} {xs : List Value} (h : w.ownsRow B e 2 v n xs) : (v = .slice none 0 0 ∧ n = 0) ∨ ∃ g cap, v = .slice (some ⟨g, 0, none⟩) n cap ∧ n ≤ cap ∧ B ≤ g ∧ g < w.heap.size := by
  rcases h.2 with h' | ⟨g, cap, cur, h1, h2, h3, h4, _⟩
  · exact .inl h'
  · exact .inr ⟨g, cap, h1, h4, h2, (Array.getElem?_eq_some_iff.1 h3).1⟩

section
variable {P : Program} {E : Env} {w : World} {U : Nat}
/-- The test of the inner loop: i < len(out) && out[i].Key < t.Key. -/
theorem s_unkT1 (H : SEnv P E) (HT : STexts P E) {B : Act} {V : World} {Q : Exit → Act → World → Prop} {j n cap tk bb : Nat} {ad : Option Addr} {res : Bool}
    (hs : B.tmps.size = 85) (h9 : B.eval (.tmp 9) = .int .i64 (j : Int)) (h6 : B.eval (.tmp 6) = .slice ad n cap) (h8 : B.eval (.tmp 8) = .pointer (some ⟨bb, 0, none⟩)) (hk : V.cell? ⟨bb, 0, none⟩ = some (.int .u32 (tk : Int)))
    (hlt : j < n → ∃ g kj : Nat, ad = some ⟨g, 0, none⟩ ∧ V.cell? ⟨g, 0 + j * 2, none⟩ = some (.int .u32 (kj : Int)) ∧ res = decide ((kj : Int) < (tk : Int))) (hge : ¬ j < n → res = false)
    (hpanic : ∀ c a a' w, Q (.panic c) a w → Q (.panic c) a' w)
    (hQ : ∀ A', A'.tmps.size = 85 → A'.defers = B.defers → (∀ k : Nat, k < 23 → A'.eval (.tmp k) = B.eval (.tmp k)) → A'.eval (.tmp 36) = .bool res → Q .normal A' { V with drawn := V.drawn + 1 }) :
    vc P (rgd [
      ⟨some 23, .move (.tmp 9), E.tInt, "", #[], none⟩,
                          ⟨some 24, .move (.tmp 6), E.tUnks, "", #[], none⟩,
                          ⟨some 25, .call { callee := .builtin .len, args := #[(.tmp 24)], argTypes := #[E.tUnks] }, E.tInt, "", #[⟨1, .data⟩], none⟩,
                          ⟨some 26, .binOp .lss E.tInt (.tmp 23) (.tmp 25) E.tInt, E.tBool, "", #[⟨0, .data⟩, ⟨2, .data⟩], none⟩,
                          ⟨some 27, .move (.tmp 26), E.tBool, "", #[⟨3, .data⟩], none⟩,
                          ⟨some 28, .move (.tmp 6), E.tUnks, "", #[⟨4, .guard⟩], some (4, true)⟩,
                          ⟨some 29, .move (.tmp 9), E.tInt, "", #[⟨4, .guard⟩], some (4, true)⟩,
                          ⟨some 30, .indexAddr E.tUnks (.tmp 28) (.tmp 29), 0, "", #[⟨5, .data⟩, ⟨6, .data⟩, ⟨4, .guard⟩], some (4, true)⟩,
                          ⟨some 31, .fieldAddr E.tUnk (.tmp 30) 0, 0, "", #[⟨7, .data⟩, ⟨4, .guard⟩], some (4, true)⟩,
                          ⟨some 32, .load E.tU32 (.tmp 31), E.tU32, "", #[⟨8, .data⟩, ⟨4, .guard⟩], some (4, true)⟩,
                          ⟨some 33, .fieldAddr E.tUnk (.tmp 8) 0, 0, "", #[⟨4, .guard⟩], some (4, true)⟩,
                          ⟨some 34, .load E.tU32 (.tmp 33), E.tU32, "", #[⟨10, .data⟩, ⟨4, .guard⟩], some (4, true)⟩,
                          ⟨some 35, .binOp .lss E.tU32 (.tmp 32) (.tmp 34) E.tU32, E.tBool, "", #[⟨9, .data⟩, ⟨11, .data⟩, ⟨4, .guard⟩], some (4, true)⟩,
                          ⟨some 36, .pick (.tmp 27) (.tmp 35) (.const (.bool false)), E.tBool, "", #[⟨4, .data⟩, ⟨12, .data⟩], none⟩]) Q B V := by
  have hsl := rowB_slice H.rUnks
  by_cases hjn : j < n
  · obtain ⟨g, kj, rfl, hc, hres⟩ := hlt hjn
    have hd : decide ((j : Int) < (n : Int)) = true := by simp; omega
    have hS : (fun W' : World => W'.cell? ⟨bb, 0, none⟩ = some (.int .u32 (tk : Int)) ∧ W'.cell? ⟨g, 0 + j * 2, none⟩ = some (.int .u32 (kj : Int))) { V with drawn := V.drawn + 1 } := ⟨hk, hc⟩
    refine vc_rgd [(0, true), (1, true), (2, true), (3, true), (4, true), (5, true), (6, true), (7, true), (8, true), (9, true), (10, true), (11, true), (12, true), (13, true)] (fun W' => W'.cell? ⟨bb, 0, none⟩ = some (.int .u32 (tk : Int)) ∧ W'.cell? ⟨g, 0 + j * 2, none⟩ = some (.int .u32 (kj : Int))) HT.mixed (by kernel_rfl) rfl (by kernel_rfl) hpanic ?_
    refine d_pure rfl rfl rfl (wants_none rfl) (by simp only [size_put, hs]; decide) hS (fun w' hS' => r_move (dn ⟨rfl, rfl, rfl⟩)) ?_
    refine d_pure rfl rfl rfl (wants_none rfl) (by simp only [size_put, hs]; decide) hS (fun w' hS' => r_move (dn ⟨rfl, rfl, rfl⟩)) ?_
    refine d_pure rfl rfl rfl (wants_none rfl) (by simp only [size_put, hs]; decide) hS (fun w' hS' => r_len (ad := some ⟨g, 0, none⟩) (n := n) (c := cap) hsl (by simp (disch := (first | omega | (simp only [sP]; omega))) only [eS, eN, eC, h6]) (dn ⟨rfl, rfl, rfl⟩)) ?_
    refine d_pure rfl rfl rfl (wants_none rfl) (by simp only [size_put, hs]; decide) hS (fun w' hS' => r_lss (k := .i64) (m := (j : Int)) (n := (n : Int)) (by simp (disch := (first | omega | (simp only [sP]; omega))) only [eS, eN, eC, h9]) (by simp (disch := (first | omega | (simp only [sP]; omega))) only [eS, eN, eC]) (dn ⟨rfl, rfl, rfl⟩)) ?_
    rw [hd]
    refine d_pure rfl rfl rfl (wants_none rfl) (by simp only [size_put, hs]; decide) hS (fun w' hS' => r_move (dn ⟨rfl, rfl, rfl⟩)) ?_
    refine d_pure rfl rfl rfl (by rw [wants_some (b := true) rfl rfl (by (try simp (disch := (first | omega | (simp only [sP]; omega))) only [eS, eN, eC]) <;> (first | rfl | assumption))]; rfl) (by simp only [size_put, hs]; decide) hS (fun w' hS' => r_move (dn ⟨rfl, rfl, rfl⟩)) ?_
    refine d_pure rfl rfl rfl (by rw [wants_some (b := true) rfl rfl (by (try simp (disch := (first | omega | (simp only [sP]; omega))) only [eS, eN, eC]) <;> (first | rfl | assumption))]; rfl) (by simp only [size_put, hs]; decide) hS (fun w' hS' => r_move (dn ⟨rfl, rfl, rfl⟩)) ?_
    refine d_pure rfl rfl rfl (by rw [wants_some (b := true) rfl rfl (by (try simp (disch := (first | omega | (simp only [sP]; omega))) only [eS, eN, eC]) <;> (first | rfl | assumption))]; rfl) (by simp only [size_put, hs]; decide) hS (fun w' hS' => r_index (k := .i64) (j := j) (b := g) (o := 0) (len := n) (cap := cap) hsl (by simp (disch := (first | omega | (simp only [sP]; omega))) only [eS, eN, eC, h6]) (by simp (disch := (first | omega | (simp only [sP]; omega))) only [eS, eN, eC, h9]) hjn (dn ⟨rfl, rfl, rfl⟩)) ?_
    refine d_pure rfl rfl rfl (by rw [wants_some (b := true) rfl rfl (by (try simp (disch := (first | omega | (simp only [sP]; omega))) only [eS, eN, eC]) <;> (first | rfl | assumption))]; rfl) (by simp only [size_put, hs]; decide) hS (fun w' hS' => r_field (b := g) (o := 0 + j * 2) (by simp (disch := (first | omega | (simp only [sP]; omega))) only [eS, eN, eC]) (offs_inv H.fUnk (by decide)) (dn ⟨rfl, rfl, rfl⟩)) ?_
    refine d_pure rfl rfl rfl (by rw [wants_some (b := true) rfl rfl (by (try simp (disch := (first | omega | (simp only [sP]; omega))) only [eS, eN, eC]) <;> (first | rfl | assumption))]; rfl) (by simp only [size_put, hs]; decide) hS (fun w' hS' => r_load (b := g) (o := 0 + j * 2) (v := .int .u32 (kj : Int)) (by (try simp (disch := (first | omega | (simp only [sP]; omega))) only [eS, eN, eC]) <;> (first | rfl | assumption)) H.oU32 hS'.2 (dn ⟨rfl, rfl, rfl⟩)) ?_
    refine d_pure rfl rfl rfl (by rw [wants_some (b := true) rfl rfl (by (try simp (disch := (first | omega | (simp only [sP]; omega))) only [eS, eN, eC]) <;> (first | rfl | assumption))]; rfl) (by simp only [size_put, hs]; decide) hS (fun w' hS' => r_field (b := bb) (o := 0) (by simp (disch := (first | omega | (simp only [sP]; omega))) only [eS, eN, eC, h8]) (offs_inv H.fUnk (by decide)) (dn ⟨rfl, rfl, rfl⟩)) ?_
    refine d_pure rfl rfl rfl (by rw [wants_some (b := true) rfl rfl (by (try simp (disch := (first | omega | (simp only [sP]; omega))) only [eS, eN, eC]) <;> (first | rfl | assumption))]; rfl) (by simp only [size_put, hs]; decide) hS (fun w' hS' => r_load (b := bb) (o := 0) (v := .int .u32 (tk : Int)) (by (try simp (disch := (first | omega | (simp only [sP]; omega))) only [eS, eN, eC]) <;> (first | rfl | assumption)) H.oU32 hS'.1 (dn ⟨rfl, rfl, rfl⟩)) ?_
    refine d_pure rfl rfl rfl (by rw [wants_some (b := true) rfl rfl (by (try simp (disch := (first | omega | (simp only [sP]; omega))) only [eS, eN, eC]) <;> (first | rfl | assumption))]; rfl) (by simp only [size_put, hs]; decide) hS (fun w' hS' => r_lss (k := .u32) (m := (kj : Int)) (n := (tk : Int)) (by simp (disch := (first | omega | (simp only [sP]; omega))) only [eS, eN, eC]) (by simp (disch := (first | omega | (simp only [sP]; omega))) only [eS, eN, eC]) (dn ⟨rfl, rfl, rfl⟩)) ?_
    refine d_pure rfl rfl rfl (wants_none rfl) (by simp only [size_put, hs]; decide) hS (fun w' hS' => r_pickT (by simp (disch := (first | omega | (simp only [sP]; omega))) only [eS, eN, eC]) (dn ⟨rfl, rfl, rfl⟩)) ?_
    refine d_nil ?_
    refine hQ _ (by simp only [size_put]; exact hs) (by simp only [defers_put]) (fun k hk => (by simp (disch := (first | omega | (simp only [sP]; omega))) only [eS, eN, eC])) ?_
    rw [hres]
    simp (disch := (first | omega | (simp only [sP]; omega))) only [eS, eN, eC]
  · have hres := hge hjn
    have hd : decide ((j : Int) < (n : Int)) = false := by simp; omega
    have hS : (fun W' : World => True) { V with drawn := V.drawn + 1 } := trivial
    refine vc_rgd [(0, true), (1, true), (2, true), (3, true), (4, true), (5, true), (6, true), (7, true), (8, true), (9, true), (10, true), (11, true), (12, true), (13, true)] (fun W' => True) HT.mixed (by kernel_rfl) rfl (by kernel_rfl) hpanic ?_
    refine d_pure rfl rfl rfl (wants_none rfl) (by simp only [size_put, hs]; decide) hS (fun w' hS' => r_move (dn ⟨rfl, rfl, rfl⟩)) ?_
    refine d_pure rfl rfl rfl (wants_none rfl) (by simp only [size_put, hs]; decide) hS (fun w' hS' => r_move (dn ⟨rfl, rfl, rfl⟩)) ?_
    refine d_pure rfl rfl rfl (wants_none rfl) (by simp only [size_put, hs]; decide) hS (fun w' hS' => r_len (ad := ad) (n := n) (c := cap) hsl (by simp (disch := (first | omega | (simp only [sP]; omega))) only [eS, eN, eC, h6]) (dn ⟨rfl, rfl, rfl⟩)) ?_
    refine d_pure rfl rfl rfl (wants_none rfl) (by simp only [size_put, hs]; decide) hS (fun w' hS' => r_lss (k := .i64) (m := (j : Int)) (n := (n : Int)) (by simp (disch := (first | omega | (simp only [sP]; omega))) only [eS, eN, eC, h9]) (by simp (disch := (first | omega | (simp only [sP]; omega))) only [eS, eN, eC]) (dn ⟨rfl, rfl, rfl⟩)) ?_
    rw [hd]
    refine d_pure rfl rfl rfl (wants_none rfl) (by simp only [size_put, hs]; decide) hS (fun w' hS' => r_move (dn ⟨rfl, rfl, rfl⟩)) ?_
    iterate 8 (refine d_no rfl rfl (by rw [wants_some (b := false) rfl rfl (by (try simp (disch := (first | omega | (simp only [sP]; omega))) only [eS, eN, eC]) <;> (first | rfl | assumption))]; rfl) hS ?_)
    refine d_pure rfl rfl rfl (wants_none rfl) (by simp only [size_put, hs]; decide) hS (fun w' hS' => r_pickF (by simp (disch := (first | omega | (simp only [sP]; omega))) only [eS, eN, eC]) (dn ⟨rfl, rfl, rfl⟩)) ?_
    refine d_nil ?_
    refine hQ _ (by simp only [size_put]; exact hs) (by simp only [defers_put]) (fun k hk => (by simp (disch := (first | omega | (simp only [sP]; omega))) only [eS, eN, eC])) ?_
    rw [hres]
    simp (disch := (first | omega | (simp only [sP]; omega))) only [eS, eN, eC]
/-- The test behind it: t.Key < least || i < len(out) && out[i].Key == t.Key. -/
theorem s_unkT2 (H : SEnv P E) (HT : STexts P E) {B : Act} {V : World} {Q : Exit → Act → World → Prop} {j n cap tk bb le : Nat} {ad : Option Addr} {res : Bool}
    (hs : B.tmps.size = 85) (h5 : B.eval (.tmp 5) = .int .u32 (le : Int)) (h9 : B.eval (.tmp 9) = .int .i64 (j : Int)) (h6 : B.eval (.tmp 6) = .slice ad n cap) (h8 : B.eval (.tmp 8) = .pointer (some ⟨bb, 0, none⟩)) (hk : V.cell? ⟨bb, 0, none⟩ = some (.int .u32 (tk : Int)))
    (hle : tk < le → res = true) (hlt : ¬ tk < le → j < n → ∃ g kj : Nat, ad = some ⟨g, 0, none⟩ ∧ V.cell? ⟨g, 0 + j * 2, none⟩ = some (.int .u32 (kj : Int)) ∧ res = decide ((kj : Int) = (tk : Int))) (hge : ¬ tk < le → ¬ j < n → res = false)
    (hpanic : ∀ c a a' w, Q (.panic c) a w → Q (.panic c) a' w)
    (hQ : ∀ A', A'.tmps.size = 85 → A'.defers = B.defers → (∀ k : Nat, k < 23 → A'.eval (.tmp k) = B.eval (.tmp k)) → A'.eval (.tmp 58) = .bool res → Q .normal A' { V with drawn := V.drawn + 1 }) :
    vc P (rgd [
      ⟨some 39, .fieldAddr E.tUnk (.tmp 8) 0, 0, "", #[], none⟩,
                    ⟨some 40, .load E.tU32 (.tmp 39), E.tU32, "", #[⟨0, .data⟩], none⟩,
                    ⟨some 41, .move (.tmp 5), E.tU32, "", #[], none⟩,
                    ⟨some 42, .binOp .lss E.tU32 (.tmp 40) (.tmp 41) E.tU32, E.tBool, "", #[⟨1, .data⟩, ⟨2, .data⟩], none⟩,
                    ⟨some 43, .move (.tmp 42), E.tBool, "", #[⟨3, .data⟩], none⟩,
                    ⟨some 44, .move (.tmp 9), E.tInt, "", #[⟨4, .guard⟩], some (4, false)⟩,
                    ⟨some 45, .move (.tmp 6), E.tUnks, "", #[⟨4, .guard⟩], some (4, false)⟩,
                    ⟨some 46, .call { callee := .builtin .len, args := #[(.tmp 45)], argTypes := #[E.tUnks] }, E.tInt, "", #[⟨6, .data⟩, ⟨4, .guard⟩], some (4, false)⟩,
                    ⟨some 47, .binOp .lss E.tInt (.tmp 44) (.tmp 46) E.tInt, E.tBool, "", #[⟨5, .data⟩, ⟨7, .data⟩, ⟨4, .guard⟩], some (4, false)⟩,
                    ⟨some 48, .move (.tmp 47), E.tBool, "", #[⟨8, .data⟩, ⟨4, .chain⟩, ⟨4, .guard⟩], some (4, false)⟩,
                    ⟨some 49, .move (.tmp 6), E.tUnks, "", #[⟨9, .guard⟩], some (9, true)⟩,
                    ⟨some 50, .move (.tmp 9), E.tInt, "", #[⟨9, .guard⟩], some (9, true)⟩,
                    ⟨some 51, .indexAddr E.tUnks (.tmp 49) (.tmp 50), 0, "", #[⟨10, .data⟩, ⟨11, .data⟩, ⟨9, .guard⟩], some (9, true)⟩,
                    ⟨some 52, .fieldAddr E.tUnk (.tmp 51) 0, 0, "", #[⟨12, .data⟩, ⟨9, .guard⟩], some (9, true)⟩,
                    ⟨some 53, .load E.tU32 (.tmp 52), E.tU32, "", #[⟨13, .data⟩, ⟨9, .guard⟩], some (9, true)⟩,
                    ⟨some 54, .fieldAddr E.tUnk (.tmp 8) 0, 0, "", #[⟨9, .guard⟩], some (9, true)⟩,
                    ⟨some 55, .load E.tU32 (.tmp 54), E.tU32, "", #[⟨15, .data⟩, ⟨9, .guard⟩], some (9, true)⟩,
                    ⟨some 56, .binOp .eql E.tU32 (.tmp 53) (.tmp 55) E.tU32, E.tBool, "", #[⟨14, .data⟩, ⟨16, .data⟩, ⟨9, .guard⟩], some (9, true)⟩,
                    ⟨some 57, .pick (.tmp 48) (.tmp 56) (.const (.bool false)), E.tBool, "", #[⟨9, .data⟩, ⟨17, .data⟩, ⟨4, .guard⟩], some (4, false)⟩,
                    ⟨some 58, .pick (.tmp 43) (.const (.bool true)) (.tmp 57), E.tBool, "", #[⟨4, .data⟩, ⟨18, .data⟩], none⟩]) Q B V := by
  have hsl := rowB_slice H.rUnks
  by_cases hl : tk < le
  · have hres := hle hl
    have hd : decide ((tk : Int) < (le : Int)) = true := by simp; omega
    have hS : (fun W' : World => W'.cell? ⟨bb, 0, none⟩ = some (.int .u32 (tk : Int))) { V with drawn := V.drawn + 1 } := hk
    refine vc_rgd [(0, true), (1, true), (2, true), (3, true), (4, true), (5, true), (6, true), (7, true), (8, true), (9, true), (10, true), (11, true), (12, true), (13, true), (14, true), (15, true), (16, true), (17, true), (18, true), (19, true)] (fun W' => W'.cell? ⟨bb, 0, none⟩ = some (.int .u32 (tk : Int))) HT.mixed (by kernel_rfl) rfl (by kernel_rfl) hpanic ?_
    refine d_pure rfl rfl rfl (wants_none rfl) (by simp only [size_put, hs]; decide) hS (fun w' hS' => r_field (b := bb) (o := 0) (by simp (disch := (first | omega | (simp only [sP]; omega))) only [eS, eN, eC, h8]) (offs_inv H.fUnk (by decide)) (dn ⟨rfl, rfl, rfl⟩)) ?_
    refine d_pure rfl rfl rfl (wants_none rfl) (by simp only [size_put, hs]; decide) hS (fun w' hS' => r_load (b := bb) (o := 0) (v := .int .u32 (tk : Int)) (by (try simp (disch := (first | omega | (simp only [sP]; omega))) only [eS, eN, eC]) <;> (first | rfl | assumption)) H.oU32 hS' (dn ⟨rfl, rfl, rfl⟩)) ?_
    refine d_pure rfl rfl rfl (wants_none rfl) (by simp only [size_put, hs]; decide) hS (fun w' hS' => r_move (dn ⟨rfl, rfl, rfl⟩)) ?_
    refine d_pure rfl rfl rfl (wants_none rfl) (by simp only [size_put, hs]; decide) hS (fun w' hS' => r_lss (k := .u32) (m := (tk : Int)) (n := (le : Int)) (by simp (disch := (first | omega | (simp only [sP]; omega))) only [eS, eN, eC]) (by simp (disch := (first | omega | (simp only [sP]; omega))) only [eS, eN, eC, h5]) (dn ⟨rfl, rfl, rfl⟩)) ?_
    rw [hd]
    refine d_pure rfl rfl rfl (wants_none rfl) (by simp only [size_put, hs]; decide) hS (fun w' hS' => r_move (dn ⟨rfl, rfl, rfl⟩)) ?_
    iterate 5 (refine d_no rfl rfl (by rw [wants_some (b := true) rfl rfl (by (try simp (disch := (first | omega | (simp only [sP]; omega))) only [eS, eN, eC]) <;> (first | rfl | assumption))]; rfl) hS ?_)
    iterate 8 (refine d_no rfl rfl (wants_undef rfl rfl (by (try simp (disch := (first | omega | (simp only [sP]; omega))) only [eS, eN, eC]) <;> (first | rfl | assumption)) (by simp only [size_put, hs]; decide)) hS ?_)
    refine d_no rfl rfl (by rw [wants_some (b := true) rfl rfl (by (try simp (disch := (first | omega | (simp only [sP]; omega))) only [eS, eN, eC]) <;> (first | rfl | assumption))]; rfl) hS ?_
    refine d_pure rfl rfl rfl (wants_none rfl) (by simp only [size_put, hs]; decide) hS (fun w' hS' => r_pickT (by simp (disch := (first | omega | (simp only [sP]; omega))) only [eS, eN, eC]) (dn ⟨rfl, rfl, rfl⟩)) ?_
    refine d_nil ?_
    refine hQ _ (by simp only [size_put]; exact hs) (by simp only [defers_put]) (fun k hk => (by simp (disch := (first | omega | (simp only [sP]; omega))) only [eS, eN, eC])) ?_
    rw [hres]
    simp (disch := (first | omega | (simp only [sP]; omega))) only [eS, eN, eC]
  have hd : decide ((tk : Int) < (le : Int)) = false := by simp; omega
  by_cases hjn : j < n
  · obtain ⟨g, kj, rfl, hc, hres⟩ := hlt hl hjn
    have hd2 : decide ((j : Int) < (n : Int)) = true := by simp; omega
    have hS : (fun W' : World => W'.cell? ⟨bb, 0, none⟩ = some (.int .u32 (tk : Int)) ∧ W'.cell? ⟨g, 0 + j * 2, none⟩ = some (.int .u32 (kj : Int))) { V with drawn := V.drawn + 1 } := ⟨hk, hc⟩
    refine vc_rgd [(0, true), (1, true), (2, true), (3, true), (4, true), (5, true), (6, true), (7, true), (8, true), (9, true), (10, true), (11, true), (12, true), (13, true), (14, true), (15, true), (16, true), (17, true), (18, true), (19, true)] (fun W' => W'.cell? ⟨bb, 0, none⟩ = some (.int .u32 (tk : Int)) ∧ W'.cell? ⟨g, 0 + j * 2, none⟩ = some (.int .u32 (kj : Int))) HT.mixed (by kernel_rfl) rfl (by kernel_rfl) hpanic ?_
    refine d_pure rfl rfl rfl (wants_none rfl) (by simp only [size_put, hs]; decide) hS (fun w' hS' => r_field (b := bb) (o := 0) (by simp (disch := (first | omega | (simp only [sP]; omega))) only [eS, eN, eC, h8]) (offs_inv H.fUnk (by decide)) (dn ⟨rfl, rfl, rfl⟩)) ?_
    refine d_pure rfl rfl rfl (wants_none rfl) (by simp only [size_put, hs]; decide) hS (fun w' hS' => r_load (b := bb) (o := 0) (v := .int .u32 (tk : Int)) (by (try simp (disch := (first | omega | (simp only [sP]; omega))) only [eS, eN, eC]) <;> (first | rfl | assumption)) H.oU32 hS'.1 (dn ⟨rfl, rfl, rfl⟩)) ?_
    refine d_pure rfl rfl rfl (wants_none rfl) (by simp only [size_put, hs]; decide) hS (fun w' hS' => r_move (dn ⟨rfl, rfl, rfl⟩)) ?_
    refine d_pure rfl rfl rfl (wants_none rfl) (by simp only [size_put, hs]; decide) hS (fun w' hS' => r_lss (k := .u32) (m := (tk : Int)) (n := (le : Int)) (by simp (disch := (first | omega | (simp only [sP]; omega))) only [eS, eN, eC]) (by simp (disch := (first | omega | (simp only [sP]; omega))) only [eS, eN, eC, h5]) (dn ⟨rfl, rfl, rfl⟩)) ?_
    rw [hd]
    refine d_pure rfl rfl rfl (wants_none rfl) (by simp only [size_put, hs]; decide) hS (fun w' hS' => r_move (dn ⟨rfl, rfl, rfl⟩)) ?_
    refine d_pure rfl rfl rfl (by rw [wants_some (b := false) rfl rfl (by (try simp (disch := (first | omega | (simp only [sP]; omega))) only [eS, eN, eC]) <;> (first | rfl | assumption))]; rfl) (by simp only [size_put, hs]; decide) hS (fun w' hS' => r_move (dn ⟨rfl, rfl, rfl⟩)) ?_
    refine d_pure rfl rfl rfl (by rw [wants_some (b := false) rfl rfl (by (try simp (disch := (first | omega | (simp only [sP]; omega))) only [eS, eN, eC]) <;> (first | rfl | assumption))]; rfl) (by simp only [size_put, hs]; decide) hS (fun w' hS' => r_move (dn ⟨rfl, rfl, rfl⟩)) ?_
    refine d_pure rfl rfl rfl (by rw [wants_some (b := false) rfl rfl (by (try simp (disch := (first | omega | (simp only [sP]; omega))) only [eS, eN, eC]) <;> (first | rfl | assumption))]; rfl) (by simp only [size_put, hs]; decide) hS (fun w' hS' => r_len (ad := some ⟨g, 0, none⟩) (n := n) (c := cap) hsl (by simp (disch := (first | omega | (simp only [sP]; omega))) only [eS, eN, eC, h6]) (dn ⟨rfl, rfl, rfl⟩)) ?_
    refine d_pure rfl rfl rfl (by rw [wants_some (b := false) rfl rfl (by (try simp (disch := (first | omega | (simp only [sP]; omega))) only [eS, eN, eC]) <;> (first | rfl | assumption))]; rfl) (by simp only [size_put, hs]; decide) hS (fun w' hS' => r_lss (k := .i64) (m := (j : Int)) (n := (n : Int)) (by simp (disch := (first | omega | (simp only [sP]; omega))) only [eS, eN, eC, h9]) (by simp (disch := (first | omega | (simp only [sP]; omega))) only [eS, eN, eC]) (dn ⟨rfl, rfl, rfl⟩)) ?_
    rw [hd2]
    refine d_pure rfl rfl rfl (by rw [wants_some (b := false) rfl rfl (by (try simp (disch := (first | omega | (simp only [sP]; omega))) only [eS, eN, eC]) <;> (first | rfl | assumption))]; rfl) (by simp only [size_put, hs]; decide) hS (fun w' hS' => r_move (dn ⟨rfl, rfl, rfl⟩)) ?_
    refine d_pure rfl rfl rfl (by rw [wants_some (b := true) rfl rfl (by (try simp (disch := (first | omega | (simp only [sP]; omega))) only [eS, eN, eC]) <;> (first | rfl | assumption))]; rfl) (by simp only [size_put, hs]; decide) hS (fun w' hS' => r_move (dn ⟨rfl, rfl, rfl⟩)) ?_
    refine d_pure rfl rfl rfl (by rw [wants_some (b := true) rfl rfl (by (try simp (disch := (first | omega | (simp only [sP]; omega))) only [eS, eN, eC]) <;> (first | rfl | assumption))]; rfl) (by simp only [size_put, hs]; decide) hS (fun w' hS' => r_move (dn ⟨rfl, rfl, rfl⟩)) ?_
    refine d_pure rfl rfl rfl (by rw [wants_some (b := true) rfl rfl (by (try simp (disch := (first | omega | (simp only [sP]; omega))) only [eS, eN, eC]) <;> (first | rfl | assumption))]; rfl) (by simp only [size_put, hs]; decide) hS (fun w' hS' => r_index (k := .i64) (j := j) (b := g) (o := 0) (len := n) (cap := cap) hsl (by simp (disch := (first | omega | (simp only [sP]; omega))) only [eS, eN, eC, h6]) (by simp (disch := (first | omega | (simp only [sP]; omega))) only [eS, eN, eC, h9]) hjn (dn ⟨rfl, rfl, rfl⟩)) ?_
    refine d_pure rfl rfl rfl (by rw [wants_some (b := true) rfl rfl (by (try simp (disch := (first | omega | (simp only [sP]; omega))) only [eS, eN, eC]) <;> (first | rfl | assumption))]; rfl) (by simp only [size_put, hs]; decide) hS (fun w' hS' => r_field (b := g) (o := 0 + j * 2) (by simp (disch := (first | omega | (simp only [sP]; omega))) only [eS, eN, eC]) (offs_inv H.fUnk (by decide)) (dn ⟨rfl, rfl, rfl⟩)) ?_
    refine d_pure rfl rfl rfl (by rw [wants_some (b := true) rfl rfl (by (try simp (disch := (first | omega | (simp only [sP]; omega))) only [eS, eN, eC]) <;> (first | rfl | assumption))]; rfl) (by simp only [size_put, hs]; decide) hS (fun w' hS' => r_load (b := g) (o := 0 + j * 2) (v := .int .u32 (kj : Int)) (by (try simp (disch := (first | omega | (simp only [sP]; omega))) only [eS, eN, eC]) <;> (first | rfl | assumption)) H.oU32 hS'.2 (dn ⟨rfl, rfl, rfl⟩)) ?_
    refine d_pure rfl rfl rfl (by rw [wants_some (b := true) rfl rfl (by (try simp (disch := (first | omega | (simp only [sP]; omega))) only [eS, eN, eC]) <;> (first | rfl | assumption))]; rfl) (by simp only [size_put, hs]; decide) hS (fun w' hS' => r_field (b := bb) (o := 0) (by simp (disch := (first | omega | (simp only [sP]; omega))) only [eS, eN, eC, h8]) (offs_inv H.fUnk (by decide)) (dn ⟨rfl, rfl, rfl⟩)) ?_
    refine d_pure rfl rfl rfl (by rw [wants_some (b := true) rfl rfl (by (try simp (disch := (first | omega | (simp only [sP]; omega))) only [eS, eN, eC]) <;> (first | rfl | assumption))]; rfl) (by simp only [size_put, hs]; decide) hS (fun w' hS' => r_load (b := bb) (o := 0) (v := .int .u32 (tk : Int)) (by (try simp (disch := (first | omega | (simp only [sP]; omega))) only [eS, eN, eC]) <;> (first | rfl | assumption)) H.oU32 hS'.1 (dn ⟨rfl, rfl, rfl⟩)) ?_
    refine d_pure rfl rfl rfl (by rw [wants_some (b := true) rfl rfl (by (try simp (disch := (first | omega | (simp only [sP]; omega))) only [eS, eN, eC]) <;> (first | rfl | assumption))]; rfl) (by simp only [size_put, hs]; decide) hS (fun w' hS' => r_eql (k := .u32) (m := (kj : Int)) (n := (tk : Int)) (by simp (disch := (first | omega | (simp only [sP]; omega))) only [eS, eN, eC]) (by simp (disch := (first | omega | (simp only [sP]; omega))) only [eS, eN, eC]) (dn ⟨rfl, rfl, rfl⟩)) ?_
    refine d_pure rfl rfl rfl (by rw [wants_some (b := false) rfl rfl (by (try simp (disch := (first | omega | (simp only [sP]; omega))) only [eS, eN, eC]) <;> (first | rfl | assumption))]; rfl) (by simp only [size_put, hs]; decide) hS (fun w' hS' => r_pickT (by simp (disch := (first | omega | (simp only [sP]; omega))) only [eS, eN, eC]) (dn ⟨rfl, rfl, rfl⟩)) ?_
    refine d_pure rfl rfl rfl (wants_none rfl) (by simp only [size_put, hs]; decide) hS (fun w' hS' => r_pickF (by simp (disch := (first | omega | (simp only [sP]; omega))) only [eS, eN, eC]) (dn ⟨rfl, rfl, rfl⟩)) ?_
    refine d_nil ?_
    refine hQ _ (by simp only [size_put]; exact hs) (by simp only [defers_put]) (fun k hk => (by simp (disch := (first | omega | (simp only [sP]; omega))) only [eS, eN, eC])) ?_
    rw [hres]
    simp (disch := (first | omega | (simp only [sP]; omega))) only [eS, eN, eC]
    rfl
  · have hres := hge hl hjn
    have hd2 : decide ((j : Int) < (n : Int)) = false := by simp; omega
    have hS : (fun W' : World => W'.cell? ⟨bb, 0, none⟩ = some (.int .u32 (tk : Int))) { V with drawn := V.drawn + 1 } := hk
    refine vc_rgd [(0, true), (1, true), (2, true), (3, true), (4, true), (5, true), (6, true), (7, true), (8, true), (9, true), (10, true), (11, true), (12, true), (13, true), (14, true), (15, true), (16, true), (17, true), (18, true), (19, true)] (fun W' => W'.cell? ⟨bb, 0, none⟩ = some (.int .u32 (tk : Int))) HT.mixed (by kernel_rfl) rfl (by kernel_rfl) hpanic ?_
    refine d_pure rfl rfl rfl (wants_none rfl) (by simp only [size_put, hs]; decide) hS (fun w' hS' => r_field (b := bb) (o := 0) (by simp (disch := (first | omega | (simp only [sP]; omega))) only [eS, eN, eC, h8]) (offs_inv H.fUnk (by decide)) (dn ⟨rfl, rfl, rfl⟩)) ?_
    refine d_pure rfl rfl rfl (wants_none rfl) (by simp only [size_put, hs]; decide) hS (fun w' hS' => r_load (b := bb) (o := 0) (v := .int .u32 (tk : Int)) (by (try simp (disch := (first | omega | (simp only [sP]; omega))) only [eS, eN, eC]) <;> (first | rfl | assumption)) H.oU32 hS' (dn ⟨rfl, rfl, rfl⟩)) ?_
    refine d_pure rfl rfl rfl (wants_none rfl) (by simp only [size_put, hs]; decide) hS (fun w' hS' => r_move (dn ⟨rfl, rfl, rfl⟩)) ?_
    refine d_pure rfl rfl rfl (wants_none rfl) (by simp only [size_put, hs]; decide) hS (fun w' hS' => r_lss (k := .u32) (m := (tk : Int)) (n := (le : Int)) (by simp (disch := (first | omega | (simp only [sP]; omega))) only [eS, eN, eC]) (by simp (disch := (first | omega | (simp only [sP]; omega))) only [eS, eN, eC, h5]) (dn ⟨rfl, rfl, rfl⟩)) ?_
    rw [hd]
    refine d_pure rfl rfl rfl (wants_none rfl) (by simp only [size_put, hs]; decide) hS (fun w' hS' => r_move (dn ⟨rfl, rfl, rfl⟩)) ?_
    refine d_pure rfl rfl rfl (by rw [wants_some (b := false) rfl rfl (by (try simp (disch := (first | omega | (simp only [sP]; omega))) only [eS, eN, eC]) <;> (first | rfl | assumption))]; rfl) (by simp only [size_put, hs]; decide) hS (fun w' hS' => r_move (dn ⟨rfl, rfl, rfl⟩)) ?_
    refine d_pure rfl rfl rfl (by rw [wants_some (b := false) rfl rfl (by (try simp (disch := (first | omega | (simp only [sP]; omega))) only [eS, eN, eC]) <;> (first | rfl | assumption))]; rfl) (by simp only [size_put, hs]; decide) hS (fun w' hS' => r_move (dn ⟨rfl, rfl, rfl⟩)) ?_
    refine d_pure rfl rfl rfl (by rw [wants_some (b := false) rfl rfl (by (try simp (disch := (first | omega | (simp only [sP]; omega))) only [eS, eN, eC]) <;> (first | rfl | assumption))]; rfl) (by simp only [size_put, hs]; decide) hS (fun w' hS' => r_len (ad := ad) (n := n) (c := cap) hsl (by simp (disch := (first | omega | (simp only [sP]; omega))) only [eS, eN, eC, h6]) (dn ⟨rfl, rfl, rfl⟩)) ?_
    refine d_pure rfl rfl rfl (by rw [wants_some (b := false) rfl rfl (by (try simp (disch := (first | omega | (simp only [sP]; omega))) only [eS, eN, eC]) <;> (first | rfl | assumption))]; rfl) (by simp only [size_put, hs]; decide) hS (fun w' hS' => r_lss (k := .i64) (m := (j : Int)) (n := (n : Int)) (by simp (disch := (first | omega | (simp only [sP]; omega))) only [eS, eN, eC, h9]) (by simp (disch := (first | omega | (simp only [sP]; omega))) only [eS, eN, eC]) (dn ⟨rfl, rfl, rfl⟩)) ?_
    rw [hd2]
    refine d_pure rfl rfl rfl (by rw [wants_some (b := false) rfl rfl (by (try simp (disch := (first | omega | (simp only [sP]; omega))) only [eS, eN, eC]) <;> (first | rfl | assumption))]; rfl) (by simp only [size_put, hs]; decide) hS (fun w' hS' => r_move (dn ⟨rfl, rfl, rfl⟩)) ?_
    iterate 8 (refine d_no rfl rfl (by rw [wants_some (b := false) rfl rfl (by (try simp (disch := (first | omega | (simp only [sP]; omega))) only [eS, eN, eC]) <;> (first | rfl | assumption))]; rfl) hS ?_)
    refine d_pure rfl rfl rfl (by rw [wants_some (b := false) rfl rfl (by (try simp (disch := (first | omega | (simp only [sP]; omega))) only [eS, eN, eC]) <;> (first | rfl | assumption))]; rfl) (by simp only [size_put, hs]; decide) hS (fun w' hS' => r_pickF (by simp (disch := (first | omega | (simp only [sP]; omega))) only [eS, eN, eC]) (dn ⟨rfl, rfl, rfl⟩)) ?_
    refine d_pure rfl rfl rfl (wants_none rfl) (by simp only [size_put, hs]; decide) hS (fun w' hS' => r_pickF (by simp (disch := (first | omega | (simp only [sP]; omega))) only [eS, eN, eC]) (dn ⟨rfl, rfl, rfl⟩)) ?_
    refine d_nil ?_
    refine hQ _ (by simp only [size_put]; exact hs) (by simp only [defers_put]) (fun k hk => (by simp (disch := (first | omega | (simp only [sP]; omega))) only [eS, eN, eC])) ?_
    rw [hres]
    simp (disch := (first | omega | (simp only [sP]; omega))) only [eS, eN, eC]
end
end Go.Km
