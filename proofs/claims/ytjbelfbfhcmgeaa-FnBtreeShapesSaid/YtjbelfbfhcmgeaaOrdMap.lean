/- maps with an order, as rows of pairs that rise: Put, Remove, Get; no program in sight. -/
import Derived.Tactics
namespace Go.Proofs.Ytjbelfbfhcmgeaa.Om

abbrev R := List (Int × Int)
def Rises (r : Int → Int) (xs : R) : Prop := xs.Pairwise (fun a b => r a.1 < r b.1)
/-- Put: the key that was there first stays. -/
def putL (r : Int → Int) (k v : Int) : R → R
  | [] => [(k, v)]
  | x :: xs => if r k < r x.1 then (k, v) :: x :: xs else if r x.1 < r k then x :: putL r k v xs else (x.1, v) :: xs
def getL (r : Int → Int) (k : Int) (xs : R) : Option (Int × Int) := xs.find? (fun x => r x.1 == r k)
def remL (r : Int → Int) (k : Int) (xs : R) : R := xs.filter (fun x => !(r x.1 == r k))
variable {r : Int → Int}
theorem rises_node {xs ys : R} {s : Int × Int} (h : Rises r (xs ++ s :: ys)) : Rises r xs ∧ Rises r ys ∧ (∀ x ∈ xs, r x.1 < r s.1) ∧ (∀ y ∈ ys, r s.1 < r y.1) := by
  unfold Rises at *
  rw [List.pairwise_append, List.pairwise_cons] at h
  exact ⟨h.1, h.2.1.2, fun x hx => h.2.2 x hx s (List.mem_cons_self ..), h.2.1.1⟩
theorem putL_left {k v : Int} {x : Int × Int} {ys : R} (h : r k < r x.1) : ∀ xs, putL r k v (xs ++ x :: ys) = putL r k v xs ++ x :: ys
  | [] => by simp [putL, h]
  | z :: xs => by
    simp only [List.cons_append, putL, putL_left h xs]
    split
    · rfl
    · split <;> rfl
theorem putL_right {k v : Int} {x : Int × Int} {ys : R} (h : r x.1 < r k) : ∀ xs, (∀ z ∈ xs, r z.1 < r x.1) → putL r k v (xs ++ x :: ys) = xs ++ x :: putL r k v ys
  | [], _ => by
    have : ¬ r k < r x.1 := by omega
    simp [putL, h, this]
  | z :: xs, hz => by
    have h1 := hz z (List.mem_cons_self ..)
    simp only [List.cons_append, putL]
    rw [if_neg (by omega), if_pos (by omega), putL_right h xs (fun y hy => hz y (List.mem_cons_of_mem _ hy))]
theorem putL_at {k v : Int} {x : Int × Int} {ys : R} (h : r x.1 = r k) : ∀ xs, (∀ z ∈ xs, r z.1 < r x.1) → putL r k v (xs ++ x :: ys) = xs ++ (x.1, v) :: ys
  | [], _ => by
    simp only [List.nil_append, putL]
    rw [if_neg (by omega), if_neg (by omega)]
  | z :: xs, hz => by
    have h1 := hz z (List.mem_cons_self ..)
    simp only [List.cons_append, putL]
    rw [if_neg (by omega), if_pos (by omega), putL_at h xs (fun y hy => hz y (List.mem_cons_of_mem _ hy))]
theorem putL_end {k v : Int} : ∀ xs : R, (∀ z ∈ xs, r z.1 < r k) → putL r k v xs = xs ++ [(k, v)]
  | [], _ => rfl
  | z :: xs, hz => by
    have h1 := hz z (List.mem_cons_self ..)
    simp only [List.cons_append, putL]
    rw [if_neg (by omega), if_pos (by omega), putL_end xs (fun y hy => hz y (List.mem_cons_of_mem _ hy))]
theorem mem_putL {k v : Int} : ∀ (xs : R) (x : Int × Int), x ∈ putL r k v xs → r x.1 = r k ∨ x ∈ xs
  | [], x, h => by simp [putL] at h; exact .inl (by rw [h])
  | y :: xs, x, h => by
    simp only [putL] at h
    split at h
    · rcases List.mem_cons.1 h with rfl | h
      · exact .inl rfl
      · exact .inr h
    · split at h
      · rcases List.mem_cons.1 h with rfl | h
        · exact .inr (List.mem_cons_self ..)
        · exact (mem_putL xs x h).imp id (List.mem_cons_of_mem _)
      · rcases List.mem_cons.1 h with rfl | h
        · exact .inl (by simp only; omega)
        · exact .inr (List.mem_cons_of_mem _ h)
theorem putL_rises {k v : Int} : ∀ xs : R, Rises r xs → Rises r (putL r k v xs)
  | [], _ => List.pairwise_singleton _ _
  | x :: xs, h => by
    unfold Rises at *
    rw [List.pairwise_cons] at h
    simp only [putL]
    split
    · rename_i c
      refine List.pairwise_cons.2 ⟨fun y hy => ?_, List.pairwise_cons.2 h⟩
      rcases List.mem_cons.1 hy with rfl | hy
      · exact c
      · have := h.1 y hy; simp only; omega
    · split
      · rename_i c
        refine List.pairwise_cons.2 ⟨fun y hy => ?_, putL_rises xs h.2⟩
        rcases mem_putL xs y hy with e | hy
        · rw [e]; exact c
        · exact h.1 y hy
      · exact List.pairwise_cons.2 ⟨fun y hy => h.1 y hy, h.2⟩
theorem putL_len {k v : Int} : ∀ xs : R, (putL r k v xs).length ≤ xs.length + 1
  | [] => by simp [putL]
  | x :: xs => by
    unfold putL
    split
    · simp
    · split
      · have := putL_len (k := k) (v := v) xs; simp; omega
      · simp
theorem find_none {xs : R} {k : Int} (h : ∀ x ∈ xs, r x.1 ≠ r k) : getL r k xs = none := by
  unfold getL
  rw [List.find?_eq_none]
  intro x hx
  simpa using h x hx
theorem getL_left {k : Int} {xs ys : R} (h : ∀ y ∈ ys, r k < r y.1) : getL r k (xs ++ ys) = getL r k xs := by
  have n := find_none (r := r) (k := k) (xs := ys) (fun x hx => by have := h x hx; omega)
  unfold getL at *
  rw [List.find?_append, n]; simp
theorem getL_right {k : Int} {xs ys : R} (h : ∀ x ∈ xs, r x.1 < r k) : getL r k (xs ++ ys) = getL r k ys := by
  have n := find_none (r := r) (k := k) (xs := xs) (fun x hx => by have := h x hx; omega)
  unfold getL at *
  rw [List.find?_append, n]; simp
theorem getL_head {k : Int} {x : Int × Int} {ys : R} (h : r x.1 = r k) : getL r k (x :: ys) = some x := by
  unfold getL; rw [List.find?_cons]; simp [h]
theorem getL_tail {k : Int} {x : Int × Int} {ys : R} (h : r x.1 ≠ r k) : getL r k (x :: ys) = getL r k ys := by
  have e : (r x.1 == r k) = false := by simpa using h
  unfold getL; rw [List.find?_cons, e]
theorem remL_none {xs : R} {k : Int} (h : ∀ x ∈ xs, r x.1 ≠ r k) : remL r k xs = xs := by
  unfold remL
  rw [List.filter_eq_self]
  intro x hx
  simpa using h x hx
theorem remL_append {k : Int} (xs ys : R) : remL r k (xs ++ ys) = remL r k xs ++ remL r k ys := List.filter_append ..
theorem remL_cons {k : Int} (x : Int × Int) (ys : R) : remL r k (x :: ys) = if r x.1 = r k then remL r k ys else x :: remL r k ys := by
  unfold remL
  rw [List.filter_cons]
  by_cases h : r x.1 = r k <;> simp [h]
theorem remL_rises {k : Int} {xs : R} (h : Rises r xs) : Rises r (remL r k xs) := h.sublist (List.filter_sublist ..)
theorem remL_len {k : Int} (xs : R) : (remL r k xs).length ≤ xs.length := List.length_filter_le _ _
end Go.Proofs.Ytjbelfbfhcmgeaa.Om
