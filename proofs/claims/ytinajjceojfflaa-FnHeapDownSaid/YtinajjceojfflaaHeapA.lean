/- what the heap's operations keep: the order, and the numbers that are there. -/
import Derived.Test.YtinajjceojfflaaHeap4
namespace Go.Proofs.Ytinajjceojfflaa
open Go.RowKit HeapP

theorem getI_append {xs : List Int} {x : Int} {i : Nat} : getI (xs ++ [x]) i = if i = xs.length then x else getI xs i := by
  unfold getI
  rw [List.getD_eq_getElem?_getD, List.getD_eq_getElem?_getD]
  split
  · subst i; simp
  · rename_i h
    by_cases hl : i < xs.length
    · rw [List.getElem?_append_left hl]
    · rw [List.getElem?_append_right (by omega), List.getElem?_eq_none (by simp; omega), List.getElem?_eq_none (by omega)]
theorem getI_take {xs : List Int} {n i : Nat} (h : i < n) : getI (xs.take n) i = getI xs i := by
  unfold getI
  rw [List.getD_eq_getElem?_getD, List.getD_eq_getElem?_getD, List.getElem?_take_of_lt h]
theorem getI_at {xs : List Int} {i : Nat} (h : i < xs.length) : getI xs i = xs[i] := by
  unfold getI
  rw [List.getD_eq_getElem?_getD, List.getElem?_eq_getElem h]; rfl
theorem push_perm (ts xs : List Int) (x : Int) : (pushP ts xs x).Perm (xs ++ [x]) := by
  unfold pushP; exact upP_perm _ _ _ (by simp)
theorem push_heap (ts xs : List Int) (x : Int) (h : HeapFrom (rankOf ts) 0 xs) : HeapFrom (rankOf ts) 0 (pushP ts xs x) := by
  unfold pushP
  refine upP_heap _ _ _ (Nat.le_refl _) (by simp) ⟨fun i hi h0 hne => ?_, fun i hi h0 hp hk => ?_⟩
  · simp at hi
    rw [getI_append, getI_append, if_neg (by omega), if_neg (by omega)]
    exact h i (by omega) h0 (Nat.zero_le _)
  · simp at hi; omega
theorem pop_shape (xs : List Int) (h : xs ≠ []) : ((xs.set 0 (getI xs (xs.length - 1))).take (xs.length - 1)).length = xs.length - 1 ∧ (getI xs 0 :: (xs.set 0 (getI xs (xs.length - 1))).take (xs.length - 1)).Perm xs := by
  refine ⟨by simp, ?_⟩
  obtain ⟨ys, z, rfl⟩ : ∃ ys z, xs = ys ++ [z] := ⟨xs.dropLast, xs.getLast h, (by rw [List.dropLast_concat_getLast])⟩
  have e : (ys ++ [z]).length - 1 = ys.length := by simp
  rw [e, getI_append, getI_append, if_pos rfl]
  cases ys with
  | nil => simp
  | cons y ys =>
    rw [if_neg (by simp)]
    simp only [List.cons_append, List.set_cons_zero, List.length_cons, List.take_succ_cons]
    rw [List.take_left']
    · show (y :: z :: ys).Perm (y :: (ys ++ [z]))
      exact List.Perm.cons _ (List.perm_append_comm (l₁ := [z]) (l₂ := ys))
    · rfl
theorem pop_perm (ts xs : List Int) (h : xs ≠ []) : (getI xs 0 :: popP ts xs).Perm xs := by
  unfold popP
  exact (List.Perm.cons _ (downP_perm _ _ _)).trans (pop_shape xs h).2
theorem pop_heap (ts xs : List Int) (hH : HeapFrom (rankOf ts) 0 xs) : HeapFrom (rankOf ts) 0 (popP ts xs) := by
  unfold popP
  refine downP_heap _ _ 0 (by simp) (Nat.le_refl _) ⟨fun i hi h0 _ hne => ?_, fun i _ _ _ h0 => by omega⟩
  simp at hi
  rw [getI_take (by omega), getI_take (by omega), getI_set (by omega), getI_set (by omega), if_neg hne, if_neg (by omega)]
  exact hH i (by omega) h0 (Nat.zero_le _)
theorem from_heap (r : Int → Int) : ∀ (m : Nat) (xs : List Int), HeapFrom r m xs → HeapFrom r 0 (fromP r m xs)
  | 0, _, h => h
  | m + 1, xs, h => by
    rw [fromP]
    refine from_heap r m _ (downP_heap _ _ m (by omega) (Nat.le_refl _) ⟨fun i hi h0 h1 hne => h i hi h0 (by omega), fun i hi h0 hp hk hle => by omega⟩)
theorem from_perm (r : Int → Int) : ∀ (m : Nat) (xs : List Int), (fromP r m xs).Perm xs
  | 0, _ => List.Perm.refl _
  | m + 1, xs => by rw [fromP]; exact (from_perm r m _).trans (downP_perm _ _ _)
theorem foldl_push (ts : List Int) : ∀ (l xs : List Int), HeapFrom (rankOf ts) 0 xs → HeapFrom (rankOf ts) 0 (l.foldl (pushP ts) xs) ∧ (l.foldl (pushP ts) xs).Perm (xs ++ l)
  | [], xs, h => ⟨h, by simp⟩
  | x :: l, xs, h => by
    obtain ⟨h1, h2⟩ := foldl_push ts l _ (push_heap ts xs x h)
    refine ⟨h1, h2.trans ?_⟩
    have := (push_perm ts xs x).append_right l
    rwa [List.append_assoc] at this
theorem heapOf_right (ts : List Int) (how : Int) (first : List Int) : HeapFrom (rankOf ts) 0 (heapOfP ts how first) ∧ (heapOfP ts how first).Perm first := by
  unfold heapOfP
  split
  · have := foldl_push ts first [] (fun i hi => by simp at hi)
    simpa using this
  · exact ⟨from_heap _ _ _ (fun i hi h0 h1 => by omega), from_perm _ _ _⟩
theorem peek_of {xs : List Int} (h : xs ≠ []) : peekP xs = (getI xs 0, true) := if_neg h
theorem root_le {ts xs : List Int} (h : HeapFrom (rankOf ts) 0 xs) {x : Int} (hx : x ∈ xs) : rankOf ts (getI xs 0) ≤ rankOf ts x := by
  obtain ⟨i, hi, rfl⟩ := List.getElem_of_mem hx
  rw [← getI_at hi]
  exact h.root i hi
end Go.Proofs.Ytinajjceojfflaa
