/- spec.Default of all shapes. -/
import Derived.Test.YtnbhpeaapbpaeaaKmS22
set_option linter.unusedSimpArgs false
set_option linter.unusedVariables false
namespace Go.Km
open Go Go.RowKit
section
variable {P : Program} {E : Env}
mutual
theorem dsubC (H : SEnv P E) (HL : SLay P E) (HT : STexts P E) (hL3 : oneField P E.tTree 3 3 = true) : ∀ (fs : SFs), fs.good = true → ∀ i f, fs.get i = some f → f.kind = 10 → DfltC P E f.sub
  | .nil, _, i, f, h, _ => by cases h
  | .cons g r, hg, 0, f, h, _ => by
    simp only [SFs.good, Bool.and_eq_true] at hg
    simp only [SFs.get, Option.some.injEq] at h
    subst h
    exact dfC H HL HT hL3 g hg.1
  | .cons g r, hg, i + 1, f, h, hk => by
    simp only [SFs.good, Bool.and_eq_true] at hg
    exact dsubC H HL HT hL3 r hg.2 i f h hk
theorem dfC (H : SEnv P E) (HL : SLay P E) (HT : STexts P E) (hL3 : oneField P E.tTree 3 3 = true) : ∀ (f : SF), f.good = true → DfltC P E f.sub
  | .mk kind fr to nul tag df el sub, hg => by
    simp only [SF.good, Bool.and_eq_true, decide_eq_true_eq] at hg
    exact s_default H HL HT hL3 hg.1.2 (dsubC H HL HT hL3 sub hg.2)
end
theorem dfltC (H : SEnv P E) (HL : SLay P E) (HT : STexts P E) (hL3 : oneField P E.tTree 3 3 = true) {fs : SFs} (hg : fs.good = true) (hl : fs.len ≤ 65536) : DfltC P E fs :=
  s_default H HL HT hL3 hl (dsubC H HL HT hL3 fs hg)
end
end Go.Km
