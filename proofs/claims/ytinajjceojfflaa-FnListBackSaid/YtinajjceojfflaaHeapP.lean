/- Binary heaps in a list: one that goes down, one that goes up; no program in sight. -/
namespace Go.Proofs.Ytinajjceojfflaa.HeapP

def getI (xs : List Int) (i : Nat) : Int := xs.getD i 0
def swapL (xs : List Int) (i j : Nat) : List Int := (xs.set i (getI xs j)).set j (getI xs i)
theorem swapL_len (xs : List Int) (i j : Nat) : (swapL xs i j).length = xs.length := by simp [swapL]
theorem getI_set {xs : List Int} {i k : Nat} {v : Int} (hi : i < xs.length) : getI (xs.set i v) k = if k = i then v else getI xs k := by
  unfold getI
  rw [List.getD_eq_getElem?_getD, List.getD_eq_getElem?_getD, List.getElem?_set]
  by_cases h : i = k
  · subst h; simp [hi]
  · rw [if_neg h, if_neg (fun e => h e.symm)]
theorem getI_swap {xs : List Int} {i j k : Nat} (hi : i < xs.length) (hj : j < xs.length) : getI (swapL xs i j) k = if k = j then getI xs i else if k = i then getI xs j else getI xs k := by
  unfold swapL
  rw [getI_set (by simpa using hj), getI_set hi]
theorem swapL_perm {xs : List Int} {i j : Nat} (hi : i < xs.length) (hj : j < xs.length) : (swapL xs i j).Perm xs := by
  have h := Array.swap_perm (xs := xs.toArray) (i := i) (j := j) (by simpa using hi) (by simpa using hj)
  have e : (xs.toArray.swap i j (by simpa using hi) (by simpa using hj)).toList = swapL xs i j := by
    simp [Array.swap, swapL, getI, List.getD_eq_getElem?_getD, hi, hj]
  have h2 := Array.perm_iff_toList_perm.1 h
  rw [e] at h2
  simpa using h2
section
variable (r : Int → Int)
/-- the child that is the least. -/
def kidOf (xs : List Int) (i : Nat) : Nat := if 2 * i + 2 < xs.length ∧ r (getI xs (2 * i + 2)) < r (getI xs (2 * i + 1)) then 2 * i + 2 else 2 * i + 1
/-- the number at i goes down; so many rounds at most. -/
def downP : Nat → List Int → Nat → List Int
  | 0, xs, _ => xs
  | f + 1, xs, i => if xs.length ≤ 2 * i + 1 then xs else if r (getI xs (kidOf r xs i)) < r (getI xs i) then downP f (swapL xs i (kidOf r xs i)) (kidOf r xs i) else xs
/-- the number at i goes up. -/
def upP : Nat → List Int → Nat → List Int
  | 0, xs, _ => xs
  | f + 1, xs, i => if i = 0 then xs else if r (getI xs i) < r (getI xs ((i - 1) / 2)) then upP f (swapL xs i ((i - 1) / 2)) ((i - 1) / 2) else xs
/-- a heap from m on. -/
def HeapFrom (m : Nat) (xs : List Int) : Prop := ∀ i, i < xs.length → 0 < i → m ≤ (i - 1) / 2 → r (getI xs ((i - 1) / 2)) ≤ r (getI xs i)
/-- .. but for what is at k, which may be too great. -/
def HeapBut (m k : Nat) (xs : List Int) : Prop := (∀ i, i < xs.length → 0 < i → m ≤ (i - 1) / 2 → (i - 1) / 2 ≠ k → r (getI xs ((i - 1) / 2)) ≤ r (getI xs i)) ∧
  (∀ i, i < xs.length → 0 < i → (i - 1) / 2 = k → 0 < k → m ≤ (k - 1) / 2 → r (getI xs ((k - 1) / 2)) ≤ r (getI xs i))
/-- .. which may be too small. -/
def HeapUp (k : Nat) (xs : List Int) : Prop := (∀ i, i < xs.length → 0 < i → i ≠ k → r (getI xs ((i - 1) / 2)) ≤ r (getI xs i)) ∧
  (∀ i, i < xs.length → 0 < i → (i - 1) / 2 = k → 0 < k → r (getI xs ((k - 1) / 2)) ≤ r (getI xs i))
variable {r}
theorem kidOf_lt {xs : List Int} {i : Nat} (h : 2 * i + 1 < xs.length) : kidOf r xs i < xs.length ∧ i < kidOf r xs i ∧ (kidOf r xs i - 1) / 2 = i ∧ 0 < kidOf r xs i := by
  unfold kidOf; split
  · rename_i h; omega
  · omega
theorem kidOf_le {xs : List Int} {i c : Nat} (hc : c < xs.length) (h0 : 0 < c) (hp : (c - 1) / 2 = i) : r (getI xs (kidOf r xs i)) ≤ r (getI xs c) := by
  have : c = 2 * i + 1 ∨ c = 2 * i + 2 := by omega
  unfold kidOf
  rcases this with rfl | rfl
  · split
    · rename_i h; omega
    · omega
  · split
    · omega
    · rename_i h
      have : ¬ r (getI xs (2 * i + 2)) < r (getI xs (2 * i + 1)) := fun h' => h ⟨hc, h'⟩
      omega
theorem downP_len : ∀ (f : Nat) (xs : List Int) (i : Nat), (downP r f xs i).length = xs.length
  | 0, _, _ => rfl
  | f + 1, xs, i => by
    unfold downP
    split
    · rfl
    · split
      · rw [downP_len f, swapL_len]
      · rfl
theorem upP_len : ∀ (f : Nat) (xs : List Int) (i : Nat), (upP r f xs i).length = xs.length
  | 0, _, _ => rfl
  | f + 1, xs, i => by
    unfold upP
    split
    · rfl
    · split
      · rw [upP_len f, swapL_len]
      · rfl
theorem downP_perm : ∀ (f : Nat) (xs : List Int) (i : Nat), (downP r f xs i).Perm xs
  | 0, xs, _ => List.Perm.refl xs
  | f + 1, xs, i => by
    unfold downP
    split
    · exact List.Perm.refl xs
    · rename_i h
      split
      · have hk := kidOf_lt (r := r) (xs := xs) (i := i) (by omega)
        exact (downP_perm f _ _).trans (swapL_perm (by omega) hk.1)
      · exact List.Perm.refl xs
theorem upP_perm : ∀ (f : Nat) (xs : List Int) (i : Nat), i < xs.length → (upP r f xs i).Perm xs
  | 0, xs, _, _ => List.Perm.refl xs
  | f + 1, xs, i, hi => by
    unfold upP
    split
    · exact List.Perm.refl xs
    · split
      · exact (upP_perm f _ _ (by rw [swapL_len]; omega)).trans (swapL_perm hi (by omega))
      · exact List.Perm.refl xs
theorem downP_heap {m : Nat} : ∀ (f : Nat) (xs : List Int) (k : Nat), xs.length ≤ f + k → m ≤ k → HeapBut r m k xs → HeapFrom r m (downP r f xs k)
  | 0, xs, k, hf, _, h => fun i hi h0 hm => by
    simp only [downP] at hi ⊢
    exact h.1 i hi h0 hm (by omega)
  | f + 1, xs, k, hf, hmk, h => by
    unfold downP
    split
    · rename_i hl
      intro i hi h0 hm
      exact h.1 i hi h0 hm (by omega)
    · rename_i hl
      have hk := kidOf_lt (r := r) (xs := xs) (i := k) (by omega)
      split
      · rename_i hlt
        refine downP_heap f _ _ (by rw [swapL_len]; omega) (by omega) ⟨?_, ?_⟩
        · intro i hi h0 hm hne
          rw [swapL_len] at hi
          rw [getI_swap (by omega) hk.1, getI_swap (by omega) hk.1]
          by_cases e1 : (i - 1) / 2 = k
          · have hle := kidOf_le (r := r) hi h0 e1
            rw [if_neg hne, if_pos e1]
            by_cases e2 : i = kidOf r xs k
            · rw [if_pos e2]; omega
            · rw [if_neg e2, if_neg (by omega)]; exact hle
          · rw [if_neg hne, if_neg e1]
            by_cases e2 : i = k
            · subst e2
              rw [if_neg (by omega), if_pos rfl]
              exact h.2 _ hk.1 hk.2.2.2 hk.2.2.1 h0 hm
            · have e3 : i ≠ kidOf r xs k := fun e => e1 (by rw [e]; exact hk.2.2.1)
              rw [if_neg e3, if_neg e2]
              exact h.1 i hi h0 hm e1
        · intro i hi h0 hp _ hm
          rw [swapL_len] at hi
          rw [getI_swap (by omega) hk.1, getI_swap (by omega) hk.1, hk.2.2.1]
          rw [if_neg (by omega), if_pos rfl, if_neg (by omega), if_neg (by omega)]
          have := h.1 i hi h0 (by omega) (by omega)
          rw [hp] at this
          exact this
      · rename_i hlt
        intro i hi h0 hm
        by_cases e1 : (i - 1) / 2 = k
        · have hle := kidOf_le (r := r) hi h0 e1
          rw [e1]; omega
        · exact h.1 i hi h0 hm e1
theorem upP_heap : ∀ (f : Nat) (xs : List Int) (k : Nat), k ≤ f → k < xs.length → HeapUp r k xs → HeapFrom r 0 (upP r f xs k)
  | 0, xs, k, hf, _, h => fun i hi h0 _ => by
    simp only [upP] at hi ⊢
    exact h.1 i hi h0 (by omega)
  | f + 1, xs, k, hf, hk, h => by
    unfold upP
    split
    · rename_i h0
      intro i hi h0 _
      exact h.1 i hi h0 (by omega)
    · rename_i hk0
      split
      · rename_i hlt
        refine upP_heap f _ _ (by omega) (by rw [swapL_len]; omega) ⟨?_, ?_⟩
        · intro i hi h0 hne
          rw [swapL_len] at hi
          rw [getI_swap hk (by omega), getI_swap hk (by omega), if_neg hne]
          by_cases e1 : i = k
          · subst e1
            rw [if_pos rfl, if_pos rfl]; omega
          · rw [if_neg e1]
            by_cases e2 : (i - 1) / 2 = (k - 1) / 2
            · rw [if_pos e2]
              have := h.1 i hi h0 e1
              rw [e2] at this; omega
            · rw [if_neg e2]
              by_cases e3 : (i - 1) / 2 = k
              · rw [if_pos e3]
                exact h.2 i hi h0 e3 (by omega)
              · rw [if_neg e3]; exact h.1 i hi h0 e1
        · intro i hi h0 hp hp0
          rw [swapL_len] at hi
          rw [getI_swap hk (by omega), getI_swap hk (by omega), if_neg (by omega), if_neg (by omega), if_neg (by omega)]
          have h1 := h.1 ((k - 1) / 2) (by omega) hp0 (by omega)
          by_cases e1 : i = k
          · subst e1
            rw [if_pos rfl]; exact h1
          · rw [if_neg e1]
            have := h.1 i hi h0 e1
            rw [hp] at this; omega
      · rename_i hlt
        intro i hi h0 _
        by_cases e1 : i = k
        · subst e1; omega
        · exact h.1 i hi h0 e1
theorem downP_stop {xs : List Int} {f k : Nat} (h : xs.length ≤ 2 * k + 1) : downP r f xs k = xs := by
  cases f with
  | zero => rfl
  | succ f => unfold downP; rw [if_pos h]
theorem downP_rest {xs : List Int} {f k : Nat} (h : ¬ r (getI xs (kidOf r xs k)) < r (getI xs k)) : downP r f xs k = xs := by
  cases f with
  | zero => rfl
  | succ f =>
    unfold downP
    rw [if_neg h]
    split <;> rfl
theorem downP_go {xs : List Int} {f k : Nat} (hl : ¬ xs.length ≤ 2 * k + 1) (hf : xs.length ≤ f + k) (h : r (getI xs (kidOf r xs k)) < r (getI xs k)) : ∃ f', f = f' + 1 ∧ downP r f xs k = downP r f' (swapL xs k (kidOf r xs k)) (kidOf r xs k) := by
  cases f with
  | zero => omega
  | succ f => exact ⟨f, rfl, by rw [downP]; rw [if_neg hl, if_pos h]⟩
theorem kidOf_right {xs : List Int} {k : Nat} (h1 : 2 * k + 2 < xs.length) (h2 : r (getI xs (2 * k + 2)) < r (getI xs (2 * k + 1))) : kidOf r xs k = 2 * k + 2 := if_pos ⟨h1, h2⟩
theorem kidOf_left {xs : List Int} {k : Nat} (h : 2 * k + 2 < xs.length → ¬ r (getI xs (2 * k + 2)) < r (getI xs (2 * k + 1))) : kidOf r xs k = 2 * k + 1 := if_neg (fun h' => h h'.1 h'.2)
theorem upP_zero {xs : List Int} {f : Nat} : upP r f xs 0 = xs := by
  cases f with
  | zero => rfl
  | succ f => unfold upP; rw [if_pos rfl]
theorem upP_rest {xs : List Int} {f k : Nat} (h : ¬ r (getI xs k) < r (getI xs ((k - 1) / 2))) : upP r f xs k = xs := by
  cases f with
  | zero => rfl
  | succ f =>
    unfold upP
    rw [if_neg h]
    split <;> rfl
theorem upP_go {xs : List Int} {f k : Nat} (h0 : k ≠ 0) (hf : k ≤ f) (h : r (getI xs k) < r (getI xs ((k - 1) / 2))) : ∃ f', f = f' + 1 ∧ upP r f xs k = upP r f' (swapL xs k ((k - 1) / 2)) ((k - 1) / 2) := by
  cases f with
  | zero => omega
  | succ f => exact ⟨f, rfl, by rw [upP]; rw [if_neg h0, if_pos h]⟩
/-- the root is the least. -/
theorem HeapFrom.root {xs : List Int} (h : HeapFrom r 0 xs) : ∀ i, i < xs.length → r (getI xs 0) ≤ r (getI xs i) := by
  intro i
  induction i using Nat.strongRecOn with
  | _ i ih =>
    intro hi
    by_cases h0 : i = 0
    · subst h0; exact Int.le_refl _
    · have h1 := ih ((i - 1) / 2) (by omega) (by omega)
      have h2 := h i hi (by omega) (Nat.zero_le _)
      omega
end
end Go.Proofs.Ytinajjceojfflaa.HeapP
