/- The facts of the program that the row asks. -/
import Derived.Test.YtikaagebnmkeaaaGreatGoF0
import Derived.Test.YtikaagebnmkeaaaGreatGoF1
import Derived.Test.YtikaagebnmkeaaaGreatGoF2
import Derived.Test.YtikaagebnmkeaaaGreatGoF3
import Derived.Test.YtikaagebnmkeaaaGreatGoF4
import Derived.Test.YtikaagebnmkeaaaGreatGoF5
set_option maxRecDepth 100000
namespace Go.Proofs.YtikaagebnmkeaaaGreat
open Go
theorem all_app {f : Nat → Bool} {a n m : Nat} (h1 : (List.range' a n).all f = true) (h2 : (List.range' (a + n) m).all f = true) : (List.range' a (n + m)).all f = true := by
  rw [List.all_eq_true] at h1 h2 ⊢
  intro x hx
  have hx := List.mem_range'_1.1 hx
  rcases Nat.lt_or_ge x (a + n) with h | h
  · exact h1 x (List.mem_range'_1.2 ⟨hx.1, h⟩)
  · exact h2 x (List.mem_range'_1.2 ⟨h, by omega⟩)
theorem ltA1 : (List.range' 0 160).all (rowFine Tryz.prog) = true := all_app (f := rowFine Tryz.prog) (a := 0) (n := 80) (m := 80) lt0 lt1
theorem ltA2 : (List.range' 0 240).all (rowFine Tryz.prog) = true := all_app (f := rowFine Tryz.prog) (a := 0) (n := 160) (m := 80) ltA1 lt2
theorem ltA3 : (List.range' 0 320).all (rowFine Tryz.prog) = true := all_app (f := rowFine Tryz.prog) (a := 0) (n := 240) (m := 80) ltA2 lt3
theorem ltA4 : (List.range' 0 400).all (rowFine Tryz.prog) = true := all_app (f := rowFine Tryz.prog) (a := 0) (n := 320) (m := 80) ltA3 lt4
theorem ltA5 : (List.range' 0 480).all (rowFine Tryz.prog) = true := all_app (f := rowFine Tryz.prog) (a := 0) (n := 400) (m := 80) ltA4 lt5
theorem ltA6 : (List.range' 0 560).all (rowFine Tryz.prog) = true := all_app (f := rowFine Tryz.prog) (a := 0) (n := 480) (m := 80) ltA5 lt6
theorem ltA7 : (List.range' 0 640).all (rowFine Tryz.prog) = true := all_app (f := rowFine Tryz.prog) (a := 0) (n := 560) (m := 80) ltA6 lt7
theorem ltA8 : (List.range' 0 720).all (rowFine Tryz.prog) = true := all_app (f := rowFine Tryz.prog) (a := 0) (n := 640) (m := 80) ltA7 lt8
theorem ltA9 : (List.range' 0 800).all (rowFine Tryz.prog) = true := all_app (f := rowFine Tryz.prog) (a := 0) (n := 720) (m := 80) ltA8 lt9
theorem ltA10 : (List.range' 0 856).all (rowFine Tryz.prog) = true := all_app (f := rowFine Tryz.prog) (a := 0) (n := 800) (m := 56) ltA9 lt10
theorem ltA : (List.range' 0 856).all (rowFine Tryz.prog) = true := ltA10
theorem lpA1 : (List.range' 0 160).all (parIn Tryz.prog) = true := all_app (f := parIn Tryz.prog) (a := 0) (n := 80) (m := 80) lp0 lp1
theorem lpA2 : (List.range' 0 240).all (parIn Tryz.prog) = true := all_app (f := parIn Tryz.prog) (a := 0) (n := 160) (m := 80) lpA1 lp2
theorem lpA3 : (List.range' 0 320).all (parIn Tryz.prog) = true := all_app (f := parIn Tryz.prog) (a := 0) (n := 240) (m := 80) lpA2 lp3
theorem lpA4 : (List.range' 0 400).all (parIn Tryz.prog) = true := all_app (f := parIn Tryz.prog) (a := 0) (n := 320) (m := 80) lpA3 lp4
theorem lpA5 : (List.range' 0 480).all (parIn Tryz.prog) = true := all_app (f := parIn Tryz.prog) (a := 0) (n := 400) (m := 80) lpA4 lp5
theorem lpA6 : (List.range' 0 560).all (parIn Tryz.prog) = true := all_app (f := parIn Tryz.prog) (a := 0) (n := 480) (m := 80) lpA5 lp6
theorem lpA7 : (List.range' 0 640).all (parIn Tryz.prog) = true := all_app (f := parIn Tryz.prog) (a := 0) (n := 560) (m := 80) lpA6 lp7
theorem lpA8 : (List.range' 0 720).all (parIn Tryz.prog) = true := all_app (f := parIn Tryz.prog) (a := 0) (n := 640) (m := 80) lpA7 lp8
theorem lpA9 : (List.range' 0 800).all (parIn Tryz.prog) = true := all_app (f := parIn Tryz.prog) (a := 0) (n := 720) (m := 80) lpA8 lp9
theorem lpA10 : (List.range' 0 880).all (parIn Tryz.prog) = true := all_app (f := parIn Tryz.prog) (a := 0) (n := 800) (m := 80) lpA9 lp10
theorem lpA11 : (List.range' 0 960).all (parIn Tryz.prog) = true := all_app (f := parIn Tryz.prog) (a := 0) (n := 880) (m := 80) lpA10 lp11
theorem lpA12 : (List.range' 0 1033).all (parIn Tryz.prog) = true := all_app (f := parIn Tryz.prog) (a := 0) (n := 960) (m := 73) lpA11 lp12
theorem lpA : (List.range' 0 1033).all (parIn Tryz.prog) = true := lpA12
theorem lnA1 : (List.range' 0 160).all (fnIn Tryz.prog) = true := all_app (f := fnIn Tryz.prog) (a := 0) (n := 80) (m := 80) ln0 ln1
theorem lnA2 : (List.range' 0 240).all (fnIn Tryz.prog) = true := all_app (f := fnIn Tryz.prog) (a := 0) (n := 160) (m := 80) lnA1 ln2
theorem lnA3 : (List.range' 0 320).all (fnIn Tryz.prog) = true := all_app (f := fnIn Tryz.prog) (a := 0) (n := 240) (m := 80) lnA2 ln3
theorem lnA4 : (List.range' 0 400).all (fnIn Tryz.prog) = true := all_app (f := fnIn Tryz.prog) (a := 0) (n := 320) (m := 80) lnA3 ln4
theorem lnA5 : (List.range' 0 480).all (fnIn Tryz.prog) = true := all_app (f := fnIn Tryz.prog) (a := 0) (n := 400) (m := 80) lnA4 ln5
theorem lnA6 : (List.range' 0 560).all (fnIn Tryz.prog) = true := all_app (f := fnIn Tryz.prog) (a := 0) (n := 480) (m := 80) lnA5 ln6
theorem lnA7 : (List.range' 0 640).all (fnIn Tryz.prog) = true := all_app (f := fnIn Tryz.prog) (a := 0) (n := 560) (m := 80) lnA6 ln7
theorem lnA8 : (List.range' 0 720).all (fnIn Tryz.prog) = true := all_app (f := fnIn Tryz.prog) (a := 0) (n := 640) (m := 80) lnA7 ln8
theorem lnA9 : (List.range' 0 800).all (fnIn Tryz.prog) = true := all_app (f := fnIn Tryz.prog) (a := 0) (n := 720) (m := 80) lnA8 ln9
theorem lnA10 : (List.range' 0 880).all (fnIn Tryz.prog) = true := all_app (f := fnIn Tryz.prog) (a := 0) (n := 800) (m := 80) lnA9 ln10
theorem lnA11 : (List.range' 0 960).all (fnIn Tryz.prog) = true := all_app (f := fnIn Tryz.prog) (a := 0) (n := 880) (m := 80) lnA10 ln11
theorem lnA12 : (List.range' 0 1033).all (fnIn Tryz.prog) = true := all_app (f := fnIn Tryz.prog) (a := 0) (n := 960) (m := 73) lnA11 ln12
theorem lnA : (List.range' 0 1033).all (fnIn Tryz.prog) = true := lnA12
theorem lmA1 : (List.range' 0 240).all (mapIn Tryz.prog) = true := all_app (f := mapIn Tryz.prog) (a := 0) (n := 120) (m := 120) lm0 lm1
theorem lmA2 : (List.range' 0 360).all (mapIn Tryz.prog) = true := all_app (f := mapIn Tryz.prog) (a := 0) (n := 240) (m := 120) lmA1 lm2
theorem lmA3 : (List.range' 0 480).all (mapIn Tryz.prog) = true := all_app (f := mapIn Tryz.prog) (a := 0) (n := 360) (m := 120) lmA2 lm3
theorem lmA4 : (List.range' 0 600).all (mapIn Tryz.prog) = true := all_app (f := mapIn Tryz.prog) (a := 0) (n := 480) (m := 120) lmA3 lm4
theorem lmA5 : (List.range' 0 720).all (mapIn Tryz.prog) = true := all_app (f := mapIn Tryz.prog) (a := 0) (n := 600) (m := 120) lmA4 lm5
theorem lmA6 : (List.range' 0 840).all (mapIn Tryz.prog) = true := all_app (f := mapIn Tryz.prog) (a := 0) (n := 720) (m := 120) lmA5 lm6
theorem lmA7 : (List.range' 0 856).all (mapIn Tryz.prog) = true := all_app (f := mapIn Tryz.prog) (a := 0) (n := 840) (m := 16) lmA6 lm7
theorem lmA : (List.range' 0 856).all (mapIn Tryz.prog) = true := lmA7
theorem lqA1 : (List.range' 0 160).all (nmIn Tryz.prog) = true := all_app (f := nmIn Tryz.prog) (a := 0) (n := 80) (m := 80) lq0 lq1
theorem lqA2 : (List.range' 0 240).all (nmIn Tryz.prog) = true := all_app (f := nmIn Tryz.prog) (a := 0) (n := 160) (m := 80) lqA1 lq2
theorem lqA3 : (List.range' 0 320).all (nmIn Tryz.prog) = true := all_app (f := nmIn Tryz.prog) (a := 0) (n := 240) (m := 80) lqA2 lq3
theorem lqA4 : (List.range' 0 400).all (nmIn Tryz.prog) = true := all_app (f := nmIn Tryz.prog) (a := 0) (n := 320) (m := 80) lqA3 lq4
theorem lqA5 : (List.range' 0 480).all (nmIn Tryz.prog) = true := all_app (f := nmIn Tryz.prog) (a := 0) (n := 400) (m := 80) lqA4 lq5
theorem lqA6 : (List.range' 0 560).all (nmIn Tryz.prog) = true := all_app (f := nmIn Tryz.prog) (a := 0) (n := 480) (m := 80) lqA5 lq6
theorem lqA7 : (List.range' 0 640).all (nmIn Tryz.prog) = true := all_app (f := nmIn Tryz.prog) (a := 0) (n := 560) (m := 80) lqA6 lq7
theorem lqA8 : (List.range' 0 720).all (nmIn Tryz.prog) = true := all_app (f := nmIn Tryz.prog) (a := 0) (n := 640) (m := 80) lqA7 lq8
theorem lqA9 : (List.range' 0 800).all (nmIn Tryz.prog) = true := all_app (f := nmIn Tryz.prog) (a := 0) (n := 720) (m := 80) lqA8 lq9
theorem lqA10 : (List.range' 0 880).all (nmIn Tryz.prog) = true := all_app (f := nmIn Tryz.prog) (a := 0) (n := 800) (m := 80) lqA9 lq10
theorem lqA11 : (List.range' 0 960).all (nmIn Tryz.prog) = true := all_app (f := nmIn Tryz.prog) (a := 0) (n := 880) (m := 80) lqA10 lq11
theorem lqA12 : (List.range' 0 1033).all (nmIn Tryz.prog) = true := all_app (f := nmIn Tryz.prog) (a := 0) (n := 960) (m := 73) lqA11 lq12
theorem lqA : (List.range' 0 1033).all (nmIn Tryz.prog) = true := lqA12
theorem szT : Tryz.prog.types.size = 856 := by kernel_rfl
theorem szF : Tryz.prog.funcs.size = 1033 := by kernel_rfl
theorem glb : Tryz.prog.globals.all (fun g => decide (g.type < Tryz.prog.types.size)) = true := by kernel_rfl
theorem lay : laidOutB Tryz.prog = true := by
  unfold laidOutB
  rw [szT, List.range_eq_range', ltA, ← szT, glb, Bool.true_and, Bool.true_and]
  refine Array.all_eq_true.2 fun i hi => ?_
  have h := List.all_eq_true.1 lpA i (List.mem_range'_1.2 ⟨Nat.zero_le _, by rw [szF] at hi; omega⟩)
  unfold parIn at h
  rw [Array.getElem?_eq_getElem hi] at h
  exact h
theorem mro : mapsRowed Tryz.prog = true := by
  unfold mapsRowed
  rw [szT, List.range_eq_range']
  refine List.all_eq_true.2 fun t ht => ?_
  have h := List.all_eq_true.1 lmA t ht
  unfold mapIn at h
  rw [szT] at h
  generalize Tryz.prog.underlying t = u at h ⊢
  cases u with
  | none => rfl
  | some d =>
    cases d <;> first | rfl | (simp only [Bool.and_eq_true] at h; exact h.1)
theorem pk : Tryz.prog.plainKeys = Rows.fnGoesRow.plainKeys := by
  show Tryz.prog.plainKeys = true
  unfold Program.plainKeys
  rw [szT, List.range_eq_range']
  refine List.all_eq_true.2 fun t ht => ?_
  have h := List.all_eq_true.1 lmA t ht
  unfold mapIn at h
  generalize Tryz.prog.underlying t = u at h ⊢
  cases u with
  | none => rfl
  | some d =>
    cases d <;> first | rfl | (simp only [Bool.and_eq_true] at h; exact h.2)
theorem fnAll : ∀ f ∈ Tryz.prog.funcs, fnF f = true := by
  intro f hf
  obtain ⟨i, hi, rfl⟩ := Array.getElem_of_mem hf
  have h := List.all_eq_true.1 lnA i (List.mem_range'_1.2 ⟨Nat.zero_le _, by rw [szF] at hi; omega⟩)
  unfold fnIn at h
  rw [Array.getElem?_eq_getElem hi] at h
  exact h
theorem fnRow : ∀ f ∈ Tryz.prog.funcs.toList, Stop.rowOf f = none := by
  intro f hf
  have h := fnAll f (by simpa using hf)
  unfold fnF at h
  simp only [Bool.and_eq_true, Option.isNone_iff_eq_none] at h
  exact h.1.1.1
theorem stops : Tryz.prog.stops = [] := by
  unfold Program.stops
  rw [List.filterMap_eq_nil_iff.2 (fun f hf => by rw [fnRow f hf]; rfl)]
  rfl
theorem knobs : Tryz.prog.stopKnobs = [] := by
  unfold Program.stopKnobs
  rw [List.filterMap_eq_nil_iff.2 (fun f hf => fnRow f hf)]
  rfl
theorem hrd : Tryz.prog.stopsHeard = true := by
  unfold Program.stopsHeard
  refine Array.all_eq_true_iff_forall_mem.2 fun f hf => ?_
  rw [fnRow f (by simpa using hf)]
  rfl
theorem lays : Tryz.prog.laysLater = false := by
  unfold Program.laysLater
  refine Array.any_eq_false.2 fun i hi => ?_
  have h := fnAll _ (Array.getElem_mem hi)
  unfold fnF at h
  simp only [Bool.and_eq_true, Bool.not_eq_true'] at h
  rw [h.1.1.2]
  exact Bool.false_ne_true
theorem refl : Tryz.prog.bearsReflect = false := by
  unfold Program.bearsReflect
  refine List.any_eq_false.2 fun f hf => ?_
  have h := fnAll f (by simpa using hf)
  unfold fnF at h
  simp only [Bool.and_eq_true, Bool.not_eq_true'] at h
  rw [h.1.2]
  exact Bool.false_ne_true
theorem doors : Tryz.prog.doorRows = [] := by
  unfold Program.doorRows
  rw [List.filter_eq_nil_iff.2 fun f hf => ?_]
  · rfl
  have h := fnAll f (by simpa using hf)
  unfold fnF at h
  simp only [Bool.and_eq_true, Bool.not_eq_true'] at h
  rw [h.2]
  exact Bool.false_ne_true
theorem me : Tryz.prog.mayEnter = true := by
  unfold Program.mayEnter Program.doorFits
  rw [lays, refl, doors]
  kernel_rfl
theorem named_of {Q : Program} {n : Nat} (hs : Q.funcs.size = n) (hk : 3 < n) (h : ∀ i, i < n → nmIn Q i = true) : Q.funcNamed "pub-kmsg/laws.FnGoes" = some 3 := by
  have h1 : (List.range n).filter (fun i => (Q.funcs[i]?).any (·.name == "pub-kmsg/laws.FnGoes")) = (List.range n).filter (fun i => decide (i = 3)) := by
    refine List.filter_congr fun i hi => ?_
    have := h i (List.mem_range.1 hi)
    unfold nmIn at this
    exact eq_of_beq this
  have h2 : ∀ m : Nat, 3 < m → (List.range m).filter (fun i => decide (i = 3)) = [3] := by
    intro m hm
    induction m with
    | zero => omega
    | succ m ih =>
      rw [List.range_succ, List.filter_append]
      rcases Nat.lt_or_ge 3 m with h | h
      · rw [ih h]
        have : ¬ m = 3 := by omega
        simp [this]
      · have : m = 3 := by omega
        subst this
        have : (List.range 3).filter (fun i => decide (i = 3)) = [] := List.filter_eq_nil_iff.2 fun x hx => by
          have := List.mem_range.1 hx
          simp only [decide_eq_true_eq]
          omega
        rw [this]
        simp
  unfold Program.funcNamed
  rw [hs, h1, h2 n hk]
theorem fnm : Tryz.prog.funcNamed "pub-kmsg/laws.FnGoes" = some 3 := named_of szF (by decide) fun i hi => List.all_eq_true.1 lqA i (List.mem_range'_1.2 ⟨Nat.zero_le _, by omega⟩)
theorem facts : joinedFacts Tryz.prog 3 Tryz.f3 Rows.fnGoesSpec Rows.fnGoesRow = true := by
  unfold joinedFacts
  rw [lay, mro, stops, knobs, inPl, unf, rcs, nam, hrd, pk, lf, me]
  kernel_rfl
end Go.Proofs.YtikaagebnmkeaaaGreat
