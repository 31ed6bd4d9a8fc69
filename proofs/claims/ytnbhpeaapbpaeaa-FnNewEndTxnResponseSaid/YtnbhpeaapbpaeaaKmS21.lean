/- spec.Default: trees in memory that are wholly new. -/
import Derived.Test.YtnbhpeaapbpaeaaKmS20
set_option linter.unusedSimpArgs false
set_option linter.unusedVariables false
namespace Go.Km
open Go Go.RowKit
attribute [local irreducible] vc runOps runG runS runD

/-- A struct type whose field f is one cell, off cells from its beginning. -/
def oneField (P : Program) (t : TypeId) (f off : Nat) : Bool :=
  match P.underlying t with
  | some (.struct fs) => match fs[f]? with | some fd => oneT P fd.type && fd.offset == off | none => false
  | _ => false
section
variable {P : Program} {a : Act} {w : World} {r : List Oper} {Q : Exit → Act → World → Prop}
theorem r_fieldV {d t x f ty p af g off cs v} (h : oneField P t f off = true) (hx : a.eval x = .agg cs) (hc : cs[off]? = some v) (hn : runOps P Q r (a.put (some d) v) w) :
    runOps P Q (⟨some d, .field t x f, ty, p, af, g⟩ :: r) a w := by
  refine st ?_
  have hr : (Instr.field t (a.eval x) f).run P w = .ok v w := by
    unfold oneField at h
    split at h
    · rename_i fs hu
      split at h
      · rename_i fd hfd
        simp only [Bool.and_eq_true, beq_iff_eq] at h
        rw [hx, Instr.field]
        simp only [Sem.run_bind, run_underlying hu, Result.andThen_ok, hfd, part, asAgg, Sem.run_pure, run_isAgg_oneT h.1, h.2, hc]
        rfl
      · cases h
    · cases h
  simp only [Oper.wp, execOp, Sem.run_bind, hr, Sem.run_pure, Result.andThen_ok, Oper.upon_value]
  exact hn
end

mutual
/-- A tree of numbers alone, in blocks of S. -/
def Tr.RepD (w : World) (S : Nat → Prop) : Tr → List Value → Prop
  | .mk n s nl l u, cs => s = [] ∧ u = [] ∧ ∃ lv, cs = [.int .i64 n, .slice none 0 0, .bool nl, lv, .slice none 0 0] ∧
      ((lv = .slice none 0 0 ∧ l.len = 0) ∨ ∃ q cap, lv = .slice (some ⟨q, 0, none⟩) l.len cap ∧ l.len ≤ cap ∧ S q ∧ l.RepD w S q 0)
def Trs.RepD (w : World) (S : Nat → Prop) (q : Nat) : Trs → Nat → Prop
  | .nil, _ => True
  | .cons t r, o => (∃ c, Cells w q o c ∧ t.RepD w S c) ∧ r.RepD w S q (o + 5)
end
theorem Cells.same {w w' : World} {q o : Nat} {cs : List Value} (h : Cells w q o cs) (he : w'.heap[q]? = w.heap[q]?) : Cells w' q o cs := by
  intro i v hv
  have := h i v hv
  simp only [World.cell?] at this ⊢
  rw [he]
  exact this
mutual
theorem Tr.RepD.keep {w w' : World} {S S' : Nat → Prop} (hk : ∀ q, S q → w'.heap[q]? = w.heap[q]?) (hS : ∀ q, S q → S' q) : ∀ {t : Tr} {cs : List Value}, t.RepD w S cs → t.RepD w' S' cs
  | .mk n s nl l u, cs, ⟨h1, h2, lv, h3, h4⟩ => by
    refine ⟨h1, h2, lv, h3, ?_⟩
    rcases h4 with h4 | ⟨q, cap, h5, h6, h7, h8⟩
    · exact .inl h4
    · exact .inr ⟨q, cap, h5, h6, hS q h7, Trs.RepD.keep hk hS h7 h8⟩
theorem Trs.RepD.keep {w w' : World} {S S' : Nat → Prop} (hk : ∀ q, S q → w'.heap[q]? = w.heap[q]?) (hS : ∀ q, S q → S' q) {q : Nat} (hq : S q) : ∀ {l : Trs} {o : Nat}, l.RepD w S q o → l.RepD w' S' q o
  | .nil, _, _ => trivial
  | .cons t r, o, ⟨⟨c, h1, h2⟩, h3⟩ => ⟨⟨c, h1.same (hk q hq), Tr.RepD.keep hk hS h2⟩, Trs.RepD.keep hk hS hq h3⟩
end
mutual
theorem Tr.RepD.rep {w : World} {S : Nat → Prop} {U : Nat} (hS : ∀ q, S q → q < U) : ∀ {t : Tr} {cs : List Value}, t.RepD w S cs → t.Rep w U cs
  | .mk n s nl l u, cs, ⟨h1, h2, lv, h3, h4⟩ => by
    refine ⟨.slice none 0 0, lv, .slice none 0 0, h3, .inl ⟨rfl, h1⟩, .inl ⟨rfl, h2⟩, ?_⟩
    rcases h4 with h4 | ⟨q, cap, h5, h6, h7, h8⟩
    · exact .inl h4
    · exact .inr ⟨q, 0, cap, h5, h6, hS q h7, Trs.RepD.rep hS h8⟩
theorem Trs.RepD.rep {w : World} {S : Nat → Prop} {U q : Nat} (hS : ∀ q, S q → q < U) : ∀ {l : Trs} {o : Nat}, l.RepD w S q o → l.Rep w U q o
  | .nil, _, _ => trivial
  | .cons t r, o, ⟨⟨c, h1, h2⟩, h3⟩ => ⟨⟨c, h1, Tr.RepD.rep hS h2⟩, Trs.RepD.rep hS h3⟩
end
theorem Trs.RepD.of_get {w : World} {S : Nat → Prop} {q : Nat} : ∀ {l : Trs} {o : Nat}, (∀ i t, l.get i = some t → ∃ c, Cells w q (o + i * 5) c ∧ t.RepD w S c) → l.RepD w S q o
  | .nil, _, _ => trivial
  | .cons t r, o, h => by
    refine ⟨by simpa using h 0 t rfl, Trs.RepD.of_get (fun i t' ht => ?_)⟩
    obtain ⟨c, h1, h2⟩ := h (i + 1) t' ht
    exact ⟨c, by rwa [show o + 5 + i * 5 = o + (i + 1) * 5 by omega], h2⟩
theorem Tr.RepD.len {w : World} {S : Nat → Prop} {t : Tr} {cs : List Value} (h : t.RepD w S cs) : cs.length = 5 := by
  cases t with
  | mk n s nl l u => obtain ⟨_, _, _, rfl, _⟩ := h; rfl
theorem Tr.RepD.one {w : World} {S : Nat → Prop} {t : Tr} {cs : List Value} (h : t.RepD w S cs) : ∀ v ∈ cs, v.oneCell' = true := by
  cases t with
  | mk n s nl l u =>
    obtain ⟨_, _, lv, rfl, h3⟩ := h
    have e3 : lv.oneCell' = true := by rcases h3 with ⟨rfl, _⟩ | ⟨q, cap, rfl, _⟩ <;> rfl
    intro v hv
    simp only [List.mem_cons, List.not_mem_nil, or_false] at hv
    rcases hv with rfl | rfl | rfl | rfl | rfl <;> first | rfl | assumption

theorem SFs.ones_len : ∀ fs : SFs, fs.ones.len = fs.len
  | .nil => rfl
  | .cons f r => by simp [SFs.ones, Trs.len, SFs.len, SFs.ones_len r]
theorem SFs.ones_get : ∀ (fs : SFs) (i : Nat), fs.ones.get i = (fs.get i).map SF.one
  | .nil, i => rfl
  | .cons f r, 0 => rfl
  | .cons f r, i + 1 => by simp [SFs.ones, Trs.get, SFs.get, SFs.ones_get r i]

theorem Free.below {w w' : World} {B b o : Nat} (h : Free w b o) (hb : Below B w w') (hB : b < B) : Free w' b o :=
  ⟨by rw [hb.cell (p := ⟨b, o, none⟩) hB]; exact h.1, by rw [hb.frozen (p := ⟨b, o, none⟩) hB]; exact h.2⟩
theorem own_heap {w w' : World} {B : Nat} {e : TypeId} {s : Nat} {v : Value} {n : Nat} {xs : List Value} (h : w.ownsRow B e s v n xs) (hk : ∀ g, v.ownBlock = some g → w'.heap[g]? = w.heap[g]?) : w'.ownsRow B e s v n xs := by
  refine ⟨h.1, ?_⟩
  rcases h.2 with h | ⟨g, cap, cur, h1, h2, h3, h4⟩
  · exact .inl h
  · exact .inr ⟨g, cap, cur, h1, h2, by rw [hk g (by rw [h1]; rfl)]; exact h3, h4⟩
/-! ## rows of trees -/
abbrev TE := Tr × List Value
def fl5 : List TE → List Value
  | [] => []
  | d :: r => d.2 ++ fl5 r
theorem fl5_app : ∀ a b : List TE, fl5 (a ++ b) = fl5 a ++ fl5 b
  | [], b => rfl
  | d :: r, b => by simp [fl5, fl5_app r b]
theorem fl5_get : ∀ (l : List TE), (∀ d ∈ l, d.2.length = 5) → ∀ (i : Nat) (d : TE), l[i]? = some d → ∀ j v, d.2[j]? = some v → (fl5 l)[i * 5 + j]? = some v
  | [], _, i, d, h, _, _, _ => by simp at h
  | x :: r, hl, 0, d, h, j, v, hv => by
    simp only [List.getElem?_cons_zero, Option.some.injEq] at h
    subst h
    have hj : j < x.2.length := by
      rcases Nat.lt_or_ge j x.2.length with h | h
      · exact h
      · rw [List.getElem?_eq_none h] at hv; cases hv
    rw [Nat.zero_mul, Nat.zero_add, fl5, List.getElem?_append_left hj]
    exact hv
  | x :: r, hl, i + 1, d, h, j, v, hv => by
    have ih := fl5_get r (fun d hd => hl d (by simp [hd])) i d (by simpa using h) j v hv
    have h5 := hl x (by simp)
    rw [fl5, List.getElem?_append_right (by omega), h5, show (i + 1) * 5 + j - 5 = i * 5 + j by omega]
    exact ih
theorem own_form5 {w : World} {B : Nat} {e : TypeId} {v : Value} {n s : Nat} {xs : List Value} (h : w.ownsRow B e s v n xs) : (v = .slice none 0 0 ∧ n = 0) ∨ ∃ g cap, v = .slice (some ⟨g, 0, none⟩) n cap ∧ n ≤ cap ∧ B ≤ g ∧ g < w.heap.size := by
  rcases h.2 with h' | ⟨g, cap, cur, h1, h2, h3, h4, _⟩
  · exact .inl h'
  · exact .inr ⟨g, cap, h1, h4, h2, (Array.getElem?_eq_some_iff.1 h3).1⟩
theorem own_cells5 {w : World} {B : Nat} {e : TypeId} {g n cap i : Nat} {l : List TE} {d : TE} (h : w.ownsRow B e 5 (.slice (some ⟨g, 0, none⟩) n cap) n (fl5 l)) (hl : ∀ d ∈ l, d.2.length = 5) (hn : l.length = n) (hx : l[i]? = some d) : Cells w g (i * 5) d.2 := by
  have hi : i < l.length := by
    rcases Nat.lt_or_ge i l.length with h | h
    · exact h
    · rw [List.getElem?_eq_none h] at hx; cases hx
  have h5 := hl d (List.mem_of_getElem? hx)
  intro j v hv
  have hj : j < d.2.length := by
    rcases Nat.lt_or_ge j d.2.length with h | h
    · exact h
    · rw [List.getElem?_eq_none h] at hv; cases hv
  rw [h.cellAt _ (by omega)]
  exact fl5_get l hl i d hx j v hv
end Go.Km
