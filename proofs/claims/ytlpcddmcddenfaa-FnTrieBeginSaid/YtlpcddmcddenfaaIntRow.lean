/- slices of ints that came in. -/
import Derived.Test.YtlpcddmcddenfaaRow
namespace Go.Proofs.Ytlpcddmcddenfaa
open Go.RowKit

def int1 (x : Int) : List Value := [.int .i64 x]
theorem int1_len (x : Int) : (int1 x).length = 1 := rfl
theorem int1_flat : ∀ xs : List Int, xs.flatMap int1 = xs.map i64v
  | [] => rfl
  | x :: xs => by rw [List.flatMap_cons, int1_flat xs]; rfl
/-- a slice of ints. -/
abbrev SlI (w : World) (B : Nat) (v : Value) (xs : List Int) : Prop := SlC 1 int1 w B v xs
theorem SlR.toI {w : World} {B : Nat} {v : Value} {xs : List Int} (h : SlR w B v (xs.map i64v)) : SlI w B v xs := by
  obtain ⟨A, cap, e, h⟩ := h.is
  rw [List.length_map] at e h
  refine ⟨A, cap, e, ?_⟩
  rcases h with h | ⟨b, off, rfl, h1, h2, h3, h4, h5⟩
  · exact .inl (List.map_eq_nil_iff.1 h)
  · refine .inr ⟨b, off, rfl, h1, h3, h4, fun i a hi j u hj => ?_⟩
    have hl := (List.getElem?_eq_some_iff.1 hi).1
    cases j with
    | succ j => simp [int1] at hj
    | zero =>
      have := h5 i hl
      rw [List.getElem?_map, hi] at this
      simp only [int1, List.getElem?_cons_zero, Option.some.injEq] at hj
      rw [Nat.mul_one, Nat.add_zero, this, ← hj]; rfl
theorem SlI.at_ {w : World} {B n c : Nat} {A : Option Addr} {xs : List Int} (h : SlI w B (.slice A n c) xs) {i : Nat} (hi : i < xs.length) : ∃ b off, A = some ⟨b, off, none⟩ ∧ xs.length ≤ c ∧ b < B ∧ w.cell? ⟨b, off + i, none⟩ = some (.int .i64 xs[i]) := by
  obtain ⟨b, off, a, e, h1, h2, _, h4, h5⟩ := SlC.at_ h hi
  have := h5 0 _ rfl
  rw [Nat.mul_one, Nat.add_zero] at this
  rw [List.getElem?_eq_getElem hi, Option.some.injEq] at h4
  subst h4
  exact ⟨b, off, e, h1, h2, this⟩
end Go.Proofs.Ytlpcddmcddenfaa
