/- The words that ConfigSourceStrings gives are those of the documentation, in order: the law returns true. There is no input and no condition. -/
import Derived.Test.YtnbhpeaapbpaeaaPFnConfigSourceWordsx1
namespace Go.Proofs.Ytnbhpeaapbpaeaa.Pure
open Go.RowKit Go.Proofs.Ytnbhpeaapbpaeaa.PFnConfigSourceWords Go.Proofs.YtnbhpeaapbpaeaaW.PrintWords Go.Proofs.YtnbhpeaapbpaeaaW.PrintLast

/-- YOURS: ∃ k, laws_FnConfigSourceWords.f k  = some true
What it reaches (each with k first where it has rounds; `.mono`: more rounds tell the same; `.l0`, ..: its loops, with `.mono_l`): laws_sameWords.f, kmsg_ConfigSourceStrings.f, impl_ConfigSourceStrings.f, spec_Words.f, spec_ConfigSource.f, laws_FnConfigSourceWords.f -/
theorem FnConfigSourceWords : laws_FnConfigSourceWords.Pure := by
  exact ⟨20, by kernel_rfl⟩

end Go.Proofs.Ytnbhpeaapbpaeaa.Pure
