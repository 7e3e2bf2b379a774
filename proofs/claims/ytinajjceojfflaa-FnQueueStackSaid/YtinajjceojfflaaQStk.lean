/- what goes through a queue, and through a stack: the plain law. -/
import Derived.Test.YtinajjceojfflaaQRun
import Derived.Test.YtinajjceojfflaaSRun
namespace Go.Proofs.Ytinajjceojfflaa

def pushD (x : Int) : StepD := ⟨0, 0, x, 0⟩
def popD : StepD := ⟨0, 1, 0, 0⟩
def throughD (ks : List Int) : List StepD := ks.map pushD ++ List.replicate ks.length popD
theorem through_len (ks : List Int) : (throughD ks).length = ks.length + ks.length := by simp [throughD]
theorem through_one (ks : List Int) : OneS (throughD ks) := by
  intro a ha
  unfold throughD at ha
  rcases List.mem_append.1 ha with h | h
  · obtain ⟨x, _, rfl⟩ := List.mem_map.1 h
    exact ⟨rfl, .inl rfl⟩
  · rw [List.eq_of_mem_replicate h]
    exact ⟨rfl, .inr rfl⟩
theorem runQ_append : ∀ (l1 l2 : List StepD) (xs : List Int), runQ xs (l1 ++ l2) = ((runQ (runQ xs l1).1 l2).1, (runQ xs l1).2 ++ (runQ (runQ xs l1).1 l2).2)
  | [], _, _ => rfl
  | a :: l1, l2, xs => by simp only [List.cons_append, runQ, runQ_append l1 l2]
theorem runS_append : ∀ (l1 l2 : List StepD) (xs : List Int), runS xs (l1 ++ l2) = ((runS (runS xs l1).1 l2).1, (runS xs l1).2 ++ (runS (runS xs l1).1 l2).2)
  | [], _, _ => rfl
  | a :: l1, l2, xs => by simp only [List.cons_append, runS, runS_append l1 l2]
theorem runQ_push : ∀ (ks xs : List Int), (runQ xs (ks.map pushD)).1 = xs ++ ks
  | [], xs => by simp [runQ]
  | k :: ks, xs => by
    have : stepQ (pushD k) xs = (xs ++ [k], .none) := by simp [stepQ, pushD]
    simp only [List.map_cons, runQ, this, runQ_push ks]
    simp
theorem runS_push : ∀ (ks xs : List Int), (runS xs (ks.map pushD)).1 = xs ++ ks
  | [], xs => by simp [runS]
  | k :: ks, xs => by
    have : stepS (pushD k) xs = (xs ++ [k], ⟨0, false, [], []⟩) := by simp [stepS, pushD]
    simp only [List.map_cons, runS, this, runS_push ks]
    simp
theorem runQ_pop : ∀ (xs : List Int), (runQ xs (List.replicate xs.length popD)).2 = xs.map fun x => ⟨x, true, [], []⟩
  | [] => rfl
  | x :: xs => by
    have : stepQ popD (x :: xs) = (xs, ⟨x, true, [], []⟩) := by simp [stepQ, popD]
    simp only [List.length_cons, List.replicate_succ, runQ, this, List.map_cons, runQ_pop xs]
theorem runS_pop (n : Nat) : ∀ (xs : List Int), xs.length = n → (runS xs (List.replicate n popD)).2 = xs.reverse.map fun x => ⟨x, false, [], []⟩ := by
  induction n with
  | zero => intro xs h; rw [List.length_eq_zero_iff.1 h]; rfl
  | succ n ih =>
    intro xs h
    rcases List.eq_nil_or_concat xs with rfl | ⟨ys, y, rfl⟩
    · simp at h
    · have hy : ys.length = n := by simpa using h
      have : stepS popD (ys ++ [y]) = (ys, ⟨y, false, [], []⟩) := by simp [stepS, popD, List.getD_eq_getElem?_getD]
      simp only [List.concat_eq_append] at *
      simp only [List.replicate_succ, runS, this, ih ys hy]
      simp
theorem outQ_at (ks : List Int) {k : Nat} (hk : k < ks.length) : (runQ [] (throughD ks)).2[ks.length + k]? = some ⟨ks.getD k 0, true, [], []⟩ := by
  unfold throughD
  rw [runQ_append, runQ_push, List.nil_append, runQ_pop]
  have hl : (runQ [] (ks.map pushD)).2.length = ks.length := by rw [runQ_len, List.length_map]
  show ((runQ [] (ks.map pushD)).2 ++ _)[_]? = _
  rw [List.getElem?_append_right (by omega), hl, Nat.add_sub_cancel_left, List.getElem?_map, getD_get hk]
  rfl
theorem outS_at (ks : List Int) {k : Nat} (hk : k < ks.length) : (runS [] (throughD ks)).2[ks.length + k]? = some ⟨ks.getD (ks.length - 1 - k) 0, false, [], []⟩ := by
  unfold throughD
  rw [runS_append, runS_push, List.nil_append, runS_pop _ _ rfl]
  have hl : (runS [] (ks.map pushD)).2.length = ks.length := by rw [runS_len, List.length_map]
  show ((runS [] (ks.map pushD)).2 ++ _)[_]? = _
  rw [List.getElem?_append_right (by omega), hl, Nat.add_sub_cancel_left, List.getElem?_map, List.getElem?_reverse hk, getD_get (by omega)]
  rfl
end Go.Proofs.Ytinajjceojfflaa
