/- heaps by different ways tell the same, up to likeness. -/
import Derived.Test.YtinajjceojfflaaHeapA
namespace Go.Proofs.Ytinajjceojfflaa
open Go.RowKit HeapP

/-- two heaps whose numbers are alike, one by one. -/
structure Ways (ts xs ys : List Int) : Prop where
  hx : HeapFrom (rankOf ts) 0 xs
  hy : HeapFrom (rankOf ts) 0 ys
  pm : (xs.map (rankOf ts)).Perm (ys.map (rankOf ts))
theorem Ways.len {ts xs ys : List Int} (h : Ways ts xs ys) : xs.length = ys.length := by
  have := h.pm.length_eq
  simpa using this
theorem Ways.root {ts xs ys : List Int} (h : Ways ts xs ys) (hx : xs ≠ []) : rankOf ts (getI xs 0) = rankOf ts (getI ys 0) := by
  have hxl : 0 < xs.length := List.length_pos_iff.2 hx
  have hyl : 0 < ys.length := by rw [← h.len]; exact hxl
  have m1 : rankOf ts (getI ys 0) ∈ xs.map (rankOf ts) := by
    rw [h.pm.mem_iff, getI_at hyl]; exact List.mem_map_of_mem (List.getElem_mem _)
  have m2 : rankOf ts (getI xs 0) ∈ ys.map (rankOf ts) := by
    rw [← h.pm.mem_iff, getI_at hxl]; exact List.mem_map_of_mem (List.getElem_mem _)
  obtain ⟨a, ha, ea⟩ := List.mem_map.1 m1
  obtain ⟨b, hb, eb⟩ := List.mem_map.1 m2
  have l1 := root_le h.hx ha
  have l2 := root_le h.hy hb
  omega
/-- what is told is the same, up to likeness. -/
def TellsAlike (ts : List Int) (p q : Int × Bool) : Prop := (∃ m n, p = (m, true) ∧ q = (n, true) ∧ rankOf ts m = rankOf ts n) ∨ ∃ n, p = (n, false) ∧ q = (n, false)
theorem Ways.step {ts xs ys : List Int} (h : Ways ts xs ys) (a : StepD) : Ways ts (stepH ts a xs).1 (stepH ts a ys).1 ∧ TellsAlike ts (stepH ts a xs).2 (stepH ts a ys).2 := by
  have hl := h.len
  have pk : TellsAlike ts (peekP xs) (peekP ys) := by
    by_cases he : xs = []
    · have hy : ys = [] := by rw [he] at hl; exact List.eq_nil_of_length_eq_zero hl.symm
      rw [he, hy]; exact .inr ⟨0, rfl, rfl⟩
    · have hy : ys ≠ [] := fun e => he (by rw [e] at hl; exact List.eq_nil_of_length_eq_zero hl)
      rw [peek_of he, peek_of hy]
      exact .inl ⟨_, _, rfl, rfl, h.root he⟩
  unfold stepH
  split
  · refine ⟨⟨push_heap _ _ _ h.hx, push_heap _ _ _ h.hy, ?_⟩, .inr ⟨0, rfl, rfl⟩⟩
    refine ((push_perm ts xs _).map _).trans (List.Perm.trans ?_ ((push_perm ts ys _).map _).symm)
    rw [List.map_append, List.map_append]
    exact h.pm.append_right _
  · split
    · refine ⟨?_, pk⟩
      by_cases he : xs = []
      · have hy : ys = [] := by rw [he] at hl; exact List.eq_nil_of_length_eq_zero hl.symm
        simp only [he, hy, if_true]
        subst he hy
        exact h
      · have hy : ys ≠ [] := fun e => he (by rw [e] at hl; exact List.eq_nil_of_length_eq_zero hl)
        simp only [he, hy, if_false]
        refine ⟨pop_heap _ _ h.hx, pop_heap _ _ h.hy, ?_⟩
        have p1 := (pop_perm ts xs he).map (rankOf ts)
        have p2 := (pop_perm ts ys hy).map (rankOf ts)
        rw [List.map_cons] at p1 p2
        rw [← h.root he] at p2
        exact List.Perm.cons_inv (p1.trans (h.pm.trans p2.symm))
    · split
      · exact ⟨h, pk⟩
      · split
        · exact ⟨h, .inr ⟨_, by rw [hl], rfl⟩⟩
        · exact ⟨h, .inr ⟨_, rfl, rfl⟩⟩
theorem Ways.run {ts : List Int} : ∀ (l : List StepD) {xs ys : List Int}, Ways ts xs ys → ∀ (i : Nat) p q, (runH ts xs l).2[i]? = some p → (runH ts ys l).2[i]? = some q → TellsAlike ts p q
  | [], _, _, _, i, p, q, hp, _ => by simp [runH] at hp
  | a :: l, xs, ys, h, i, p, q, hp, hq => by
    have hs := h.step a
    simp only [runH] at hp hq
    cases i with
    | zero =>
      simp at hp hq
      subst hp hq
      exact hs.2
    | succ i =>
      rw [List.getElem?_cons_succ] at hp hq
      exact Ways.run l hs.1 i p q hp hq
theorem ways_of (ts first : List Int) (h1 h2 : Int) : Ways ts (heapOfP ts h1 first) (heapOfP ts h2 first) := by
  have a := heapOf_right ts h1 first
  have b := heapOf_right ts h2 first
  exact ⟨a.1, b.1, (a.2.trans b.2.symm).map _⟩
/-- what the three ways tell at a step. -/
theorem three_ways (ts first : List Int) (l : List StepD) {i : Nat} (hi : i < l.length) : ∃ m n k b, (runH ts (heapOfP ts 0 first) l).2[i]? = some (m, b) ∧ (runH ts (heapOfP ts 1 first) l).2[i]? = some (n, b) ∧ (runH ts (heapOfP ts 2 first) l).2[i]? = some (k, b) ∧
    (if b = true then rankOf ts m = rankOf ts n ∧ rankOf ts m = rankOf ts k else m = n ∧ m = k) := by
  have g (h : Int) : ∃ p, (runH ts (heapOfP ts h first) l).2[i]? = some p := ⟨_, List.getElem?_eq_getElem (by rw [runH_len]; exact hi)⟩
  obtain ⟨⟨m, b⟩, e0⟩ := g 0
  obtain ⟨⟨n, b1⟩, e1⟩ := g 1
  obtain ⟨⟨k, b2⟩, e2⟩ := g 2
  have w1 := (ways_of ts first 0 1).run l i _ _ e0 e1
  have w2 := (ways_of ts first 0 2).run l i _ _ e0 e2
  rcases w1 with ⟨m', n', p1, p2, p3⟩ | ⟨n', p1, p2⟩
  · cases p1; cases p2
    rcases w2 with ⟨m', n', p4, p5, p6⟩ | ⟨n', p4, p5⟩
    · cases p4; cases p5
      exact ⟨m, n, k, true, e0, e1, e2, by rw [if_pos rfl]; exact ⟨p3, p6⟩⟩
    · cases p4
  · cases p1; cases p2
    rcases w2 with ⟨m', n', p4, p5, p6⟩ | ⟨n', p4, p5⟩
    · cases p4
    · cases p4; cases p5
      exact ⟨m, m, m, false, e0, e1, e2, by rw [if_neg (by decide)]; exact ⟨rfl, rfl⟩⟩
end Go.Proofs.Ytinajjceojfflaa
