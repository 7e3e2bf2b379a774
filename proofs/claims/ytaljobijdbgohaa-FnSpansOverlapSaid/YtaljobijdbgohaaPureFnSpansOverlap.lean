/- FnSpansOverlap: two ranges, each with a number in it, overlap just if one of the two beginnings is in the other range; no conditions. -/
import Derived.Test.YtaljobijdbgohaaPFnSpansOverlapx1
namespace Go.Proofs.Ytaljobijdbgohaa.Pure
open Go.RowKit Go.Proofs.Ytaljobijdbgohaa.PFnSpansOverlap Go.Proofs.YtaljobijdbgohaaW.PrintWords Go.Proofs.YtaljobijdbgohaaW.PrintLast

/-- YOURS: ∀ (a0 : Int) (a1 : Int) (a2 : Int) (a3 : Int), (Lit.int .i64 a0).wf = true → (Lit.int .i64 a1).wf = true → (Lit.int .i64 a2).wf = true → (Lit.int .i64 a3).wf = true → laws_FnSpansOverlap.f a0 a1 a2 a3 = some true
What it reaches (each with k first where it has rounds; `.mono`: more rounds tell the same; `.l0`, ..: its loops, with `.mono_l`): interval_overlaps_int.f, interval_ZzOverlaps_int.f, impl_SpansOverlap.f, laws_FnSpansOverlap.f -/
theorem FnSpansOverlap : laws_FnSpansOverlap.Pure := by
  intro a0 a1 a2 a3 _ _ _ _
  unfold laws_FnSpansOverlap.f impl_SpansOverlap.f interval_ZzOverlaps_int.f interval_overlaps_int.f
  by_cases h1 : a0 ≥ a1
  · simp [h1]
  by_cases h2 : a2 ≥ a3
  · simp [h1, h2]
  by_cases h3 : a0 < a3 <;> by_cases h4 : a2 ≤ a0 <;> by_cases h5 : a0 ≤ a2 <;> by_cases h6 : a2 < a1 <;> simp [h1, h2, h3, h4, h5, h6] <;> omega

end Go.Proofs.Ytaljobijdbgohaa.Pure
