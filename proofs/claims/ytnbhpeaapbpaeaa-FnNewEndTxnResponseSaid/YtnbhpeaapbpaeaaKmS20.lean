/- spec.part and spec.field of all shapes without known tags. -/
import Derived.Test.YtnbhpeaapbpaeaaKmS19
set_option linter.unusedSimpArgs false
set_option linter.unusedVariables false
namespace Go.Km
open Go Go.RowKit

mutual
/-- No known tags; the kinds are kinds. -/
def SF.good : SF → Bool
  | .mk kind fr to nul tag df el sub => (SF.mk kind fr to nul tag df el sub).kindOk && decide (tag < 0) && decide (sub.len ≤ 65536) && sub.good
def SFs.good : SFs → Bool
  | .nil => true
  | .cons f r => f.good && r.good
end
theorem SFs.good_tags : ∀ fs : SFs, fs.good = true → ∀ t ∈ fs.tags, t < 0
  | .nil, _, t, h => by simp [SFs.tags] at h
  | .cons (.mk kind fr to nul tag df el sub) r, hg, t, h => by
    simp only [SFs.good, SF.good, Bool.and_eq_true, decide_eq_true_eq] at hg
    simp only [SFs.tags, List.mem_cons] at h
    rcases h with rfl | h
    · exact hg.1.1.1.2
    · exact SFs.good_tags r hg.2 t h
section
variable {P : Program} {E : Env}
mutual
theorem fieldsC (H : SEnv P E) (HL : SLay P E) (HT : STexts P E) (hz8 : zeroT P E.tU8 = some (.int .u8 0)) (ver : Int) (fx : Bool) : ∀ (fs : SFs), fs.good = true → ∀ i f, fs.get i = some f → FieldC P E ver fx f
  | .nil, _, i, f, h => by cases h
  | .cons g r, hg, 0, f, h => by
    simp only [SFs.good, Bool.and_eq_true] at hg
    simp only [SFs.get, Option.some.injEq] at h
    subst h
    exact fieldC H HL HT hz8 ver fx g hg.1
  | .cons g r, hg, i + 1, f, h => by
    simp only [SFs.good, Bool.and_eq_true] at hg
    exact fieldsC H HL HT hz8 ver fx r hg.2 i f h
theorem fieldC (H : SEnv P E) (HL : SLay P E) (HT : STexts P E) (hz8 : zeroT P E.tU8 = some (.int .u8 0)) (ver : Int) (fx : Bool) : ∀ (f : SF), f.good = true → FieldC P E ver fx f
  | .mk kind fr to nul tag df el sub, hg => by
    simp only [SF.good, Bool.and_eq_true, decide_eq_true_eq] at hg
    exact s_field H HT hz8 hg.1.1.1 (s_part H HL HT (s_unknown H HL HT) (SFs.good_tags sub hg.2) (by show sub.len ≤ big; unfold big; omega) (fieldsC H HL HT hz8 ver fx sub hg.2))
end
theorem partC (H : SEnv P E) (HL : SLay P E) (HT : STexts P E) (hz8 : zeroT P E.tU8 = some (.int .u8 0)) {ver : Int} {fx : Bool} {fs : SFs} (hg : fs.good = true) (hl : fs.len ≤ 65536) : PartC P E ver fx fs :=
  s_part H HL HT (s_unknown H HL HT) (SFs.good_tags fs hg) (by unfold big; omega) (fieldsC H HL HT hz8 ver fx fs hg)
end
end Go.Km
