/- FnGlobBetween: whether a letter is from one to another one is told, of any three letters; no conditions. -/
import Derived.Test.YtaljobijdbgohaaPFnGlobBetweenx1
namespace Go.Proofs.Ytaljobijdbgohaa.Pure
open Go.RowKit Go.Proofs.Ytaljobijdbgohaa.PFnGlobBetween Go.Proofs.YtaljobijdbgohaaW.PrintWords Go.Proofs.YtaljobijdbgohaaW.PrintLast

/-- YOURS: ∀ (a0 : Int) (a1 : Int) (a2 : Int), (Lit.int .i32 a0).wf = true → (Lit.int .i32 a1).wf = true → (Lit.int .i32 a2).wf = true → laws_FnGlobBetween.f a0 a1 a2 = some true
What it reaches (each with k first where it has rounds; `.mono`: more rounds tell the same; `.l0`, ..: its loops, with `.mono_l`): doublestar_matchRuneRange.f, doublestar_ZzRuneRange.f, impl_GlobRuneInRange.f, laws_FnGlobBetween.f -/
theorem FnGlobBetween : laws_FnGlobBetween.Pure := by
  intro a0 a1 a2 _ _ _
  unfold laws_FnGlobBetween.f impl_GlobRuneInRange.f doublestar_ZzRuneRange.f doublestar_matchRuneRange.f
  by_cases h : a0 ≤ a2 <;> simp [h]

end Go.Proofs.Ytaljobijdbgohaa.Pure
