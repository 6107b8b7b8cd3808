/- All words of ConfigTypeStrings are those that the documentation names, in order: the Lean functions that the Go code comes to answer true, by the kernel's run. No condition. -/
import Derived.Test.YtgaplicnofhliaaPFnConfigTypeWordsx1
namespace Go.Proofs.Ytgaplicnofhliaa.Pure
open Go.RowKit Go.Proofs.Ytgaplicnofhliaa.PFnConfigTypeWords Go.Proofs.YtgaplicnofhliaaW.PrintWords Go.Proofs.YtgaplicnofhliaaW.PrintLast

/-- YOURS: ∃ k, laws_FnConfigTypeWords.f k  = some true
What it reaches (each with k first where it has rounds; `.mono`: more rounds tell the same; `.l0`, ..: its loops, with `.mono_l`): laws_sameWords.f, kmsg_ConfigTypeStrings.f, impl_ConfigTypeStrings.f, spec_Words.f, spec_ConfigType.f, laws_FnConfigTypeWords.f -/
theorem FnConfigTypeWords : laws_FnConfigTypeWords.Pure := by
  exact ⟨20, by decide +kernel⟩

end Go.Proofs.Ytgaplicnofhliaa.Pure
