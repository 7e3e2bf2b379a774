/- numbers that came in are in range. -/
import Derived.Test.YtomclflknjkhfaaOpenMark
namespace Go.Proofs.Ytomclflknjkhfaa
open Go.ChangeShapes Go.WideShapes Go.ChangeAt Go.RowKit
theorem okWide_rng {P : Program} {w : World} {base : Nat} {t : TypeId} {n : Int} (ht : P.underlying t = some (.int .i64)) (h : Value.okWide P w .any base t (.int .i64 n)) : Int64 n := by
  simp only [Value.okWide, ht, Cell.okWide, Cell.ok, IntKind.has] at h
  have e1 : IntKind.i64.min = -9223372036854775808 := by first | rfl | kernel_rfl
  have e2 : IntKind.i64.max = 9223372036854775807 := by first | rfl | kernel_rfl
  rw [e1, e2] at h
  exact h.2
end Go.Proofs.Ytomclflknjkhfaa
