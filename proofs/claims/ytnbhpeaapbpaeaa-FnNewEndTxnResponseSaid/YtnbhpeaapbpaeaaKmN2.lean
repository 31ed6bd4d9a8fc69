/- Small things for the laws of new messages: the plain law as a Bool. -/
import Derived.Test.YtnbhpeaapbpaeaaKmN1
set_option linter.unusedSimpArgs false
set_option linter.unusedVariables false
namespace Go.Km
open Go Go.RowKit
theorem SubsC.nil {P : Program} : SubsC P [] := fun f h => by simp at h
theorem SubsC.none {P : Program} {f : SF} {l : List FE} (h : f.sub = .nil) (r : SubsC P l) : SubsC P ((f, none) :: l) := by
  intro x hx
  rcases List.mem_cons.1 hx with rfl | hx
  · exact h
  · exact r x hx
theorem SubsC.some {P : Program} {f : SF} {g : FuncId} {l : List FE} (h : LitC P g f.sub) (r : SubsC P l) : SubsC P ((f, some g) :: l) := by
  intro x hx
  rcases List.mem_cons.1 hx with rfl | hx
  · exact h
  · exact r x hx
/-- What is written of the defaults is what the spec writes of its defaults, at every version. -/
def pureB (fs : SFs) (flex : Int) (m : Msg) (mx : Nat) : Bool :=
  (List.range (mx + 1)).all fun v => fs.part v (decide (flex ≥ 0) && decide ((v : Int) ≥ flex)) fs.dflt == m.wfs.wr (m.isFlex v) v m.wfs.dflt [] && decide ((m.wfs.wr (m.isFlex v) v m.wfs.dflt []).length ≤ big)
theorem pureB_eq {fs : SFs} {flex : Int} {m : Msg} {mx : Nat} (h : pureB fs flex m mx = true) (v : Nat) (hv : v ≤ mx) : fs.part v (decide (flex ≥ 0) && decide ((v : Int) ≥ flex)) fs.dflt = m.wfs.wr (m.isFlex v) v m.wfs.dflt [] := by
  have := List.all_eq_true.1 h v (List.mem_range.2 (by omega))
  simp only [Bool.and_eq_true] at this
  exact eq_of_beq this.1
theorem pureB_big {fs : SFs} {flex : Int} {m : Msg} {mx : Nat} (h : pureB fs flex m mx = true) (v : Nat) (hv : v ≤ mx) : (m.wfs.wr (m.isFlex v) v m.wfs.dflt []).length ≤ big := by
  have := List.all_eq_true.1 h v (List.mem_range.2 (by omega))
  simp only [Bool.and_eq_true, decide_eq_true_eq] at this
  exact this.2
theorem u8_nat {a : Int} (h : (Lit.int .u8 a).wf = true) : ∃ n : Nat, a = (n : Int) ∧ n < 256 := by
  have h2 : IntKind.u8.min ≤ a ∧ a ≤ IntKind.u8.max := by
    simpa [Lit.wf] using h
  have e1 : IntKind.u8.min = 0 := by decide
  have e2 : IntKind.u8.max = 255 := by decide
  rw [e1, e2] at h2
  exact ⟨a.toNat, by omega, by omega⟩
end Go.Km
