/- the script that spec.LineFit gives (pure). -/
import Derived.Test.YtinajjceojfflaaLB6
import Derived.Test.YtinajjceojfflaaLS1
namespace Go.Proofs.Ytinajjceojfflaa.Kp
open Go.RowKit

def zi (row : List Nat) : List Int := row.map (fun n : Nat => (n : Int))
theorem zi_mem {row : List Nat} {k : Int} : k ∈ zi row ↔ ∃ n ∈ row, (n : Int) = k := by unfold zi; rw [List.mem_map]
theorem zi_idx {row : List Nat} {n : Nat} : (zi row).idxOf (n : Int) = row.idxOf n := by
  unfold zi
  induction row with
  | nil => rfl
  | cons a row ih =>
    rw [List.map_cons, List.idxOf_cons, List.idxOf_cons, ih]
    by_cases h : a = n
    · subst h; simp
    · have h1 : ((a : Int) == (n : Int)) = false := by rw [beq_eq_false_iff_ne]; omega
      have h2 : (a == n) = false := by simpa using h
      rw [h1, h2]
theorem find_in {xs : List Int} {k : Int} : (0 ≤ findL xs k) ↔ k ∈ xs := by
  unfold findL
  split
  · exact ⟨fun _ => by assumption, fun _ => by omega⟩
  · exact ⟨fun h => absurd h (by omega), fun h => absurd h (by assumption)⟩
theorem mayZ_L (s : LineD) (a : StepD) : mayZ s.vals (zi s.row) a = true ↔ mayL s a := by
  unfold mayZ mayL
  split
  · rw [decide_eq_true_iff, find_in, zi_mem]
  · split
    · simp only [Bool.and_eq_true, Bool.not_eq_true', decide_eq_false_iff_not, decide_eq_true_eq, find_in, zi_mem]
      constructor
      · rintro ⟨h1, h2, h3⟩
        exact ⟨h2, h3, fun h => h1 ⟨_, h, by omega⟩⟩
      · rintro ⟨h2, h3, h1⟩
        refine ⟨?_, h2, h3⟩
        rintro ⟨n, hn, e⟩
        exact h1 (by rw [← e]; simpa using hn)
    · simp
/-- what Do does, on rows of numbers. -/
def doZ (vals row : List Int) (a : StepD) : List Int × List Int :=
  if a.act = 0 then (vals ++ [a.key], row ++ [(vals.length : Int)])
  else if a.act = 1 then (vals ++ [a.key], (vals.length : Int) :: row)
  else if a.act = 2 then (vals, row.take (row.idxOf a.val) ++ row.drop (row.idxOf a.val + 1))
  else if a.act = 3 then (vals, row ++ [a.val])
  else if a.act = 4 then (vals, a.val :: row)
  else if a.act = 9 then (vals ++ [a.key], row)
  else (vals, row)
theorem doZ_L (s : LineD) (a : StepD) (h : mayL s a) : doZ s.vals (zi s.row) a = ((doL s a).vals, zi (doL s a).row) := by
  unfold doZ doL
  by_cases h0 : a.act = 0
  · rw [if_pos h0, if_pos h0]; simp [zi]
  rw [if_neg h0, if_neg h0]
  by_cases h1 : a.act = 1
  · rw [if_pos h1, if_pos h1]; simp [zi]
  rw [if_neg h1, if_neg h1]
  by_cases h2 : a.act = 2
  · rw [if_pos h2, if_pos h2]
    unfold mayL at h
    rw [if_pos (.inl h2)] at h
    obtain ⟨n, hn, e⟩ := h
    rw [← e, zi_idx]
    simp [zi, cutAt, List.map_take, List.map_drop]
  rw [if_neg h2, if_neg h2]
  by_cases h3 : a.act = 3
  · rw [if_pos h3, if_pos h3]
    unfold mayL at h
    rw [if_neg (by omega), if_pos (.inl h3)] at h
    simp [zi]; omega
  rw [if_neg h3, if_neg h3]
  by_cases h4 : a.act = 4
  · rw [if_pos h4, if_pos h4]
    unfold mayL at h
    rw [if_neg (by omega), if_pos (.inr h4)] at h
    simp [zi]; omega
  rw [if_neg h4, if_neg h4]
  by_cases h9 : a.act = 9
  · rw [if_pos h9, if_pos h9]
  · rw [if_neg h9, if_neg h9]
/-- a step as it may be done. -/
def modB (s : LineD) (a : StepD) : StepD :=
  if 0 < s.vals.length ∧ (a.act = 2 ∨ a.act = 3 ∨ a.act = 4 ∨ a.act = 7 ∨ a.act = 8) then ⟨a.on, a.act, a.key, a.val % s.vals.length⟩ else a
def fitB (s : LineD) (a : StepD) : StepD := if mayZ s.vals (zi s.row) (modB s a) then modB s a else ⟨0, 5, 0, 0⟩
theorem fitB_may (s : LineD) (a : StepD) : mayL s (fitB s a) := by
  unfold fitB
  split
  · rename_i h; exact (mayZ_L _ _).1 h
  · unfold mayL; simp
def fitR : List StepD → LineD × List StepD
  | [] => (⟨[], []⟩, [])
  | l => l.foldl (fun p a => (doL p.1 (fitB p.1 a), p.2 ++ [fitB p.1 a])) (⟨[], []⟩, [])
theorem fitR_eq (l : List StepD) : fitR l = l.foldl (fun p a => (doL p.1 (fitB p.1 a), p.2 ++ [fitB p.1 a])) (⟨[], []⟩, []) := by cases l <;> rfl
theorem fitR_snoc (l : List StepD) (a : StepD) : fitR (l ++ [a]) = (doL (fitR l).1 (fitB (fitR l).1 a), (fitR l).2 ++ [fitB (fitR l).1 a]) := by
  rw [fitR_eq, fitR_eq, List.foldl_append]; rfl
theorem okL_snoc {l : List StepD} {a : StepD} (h : OkL l) (ha : mayL (stL l) a) : OkL (l ++ [a]) := by
  intro k b hb
  rcases Nat.lt_or_ge k l.length with hl | hl
  · rw [List.getElem?_append_left hl] at hb
    rw [List.take_append_of_le_length (by omega)]
    exact h k b hb
  · have hkl := (List.getElem?_eq_some_iff.1 hb).1
    simp at hkl
    have : k = l.length := by omega
    subst this
    rw [List.getElem?_append_right (Nat.le_refl _), Nat.sub_self] at hb
    simp at hb
    subst hb
    rw [List.take_append_of_le_length (Nat.le_refl _), List.take_length]
    exact ha
theorem fit_ok (n : Nat) : ∀ l : List StepD, l.length = n → stL (fitR l).2 = (fitR l).1 ∧ OkL (fitR l).2 ∧ (fitR l).2.length = l.length := by
  induction n with
  | zero =>
    intro l h
    rw [List.length_eq_zero_iff.1 h]
    exact ⟨rfl, fun k a hk => by simp [fitR] at hk, rfl⟩
  | succ n ih =>
    intro l h
    rcases List.eq_nil_or_concat l with rfl | ⟨l', a, rfl⟩
    · simp at h
    · rw [List.concat_eq_append] at *
      obtain ⟨h1, h2, h3⟩ := ih l' (by simpa using h)
      rw [fitR_snoc]
      refine ⟨?_, okL_snoc h2 (by rw [h1]; exact fitB_may _ _), by simp [h3]⟩
      rw [stL_snoc, h1]
/-- with the two walks behind it. -/
theorem fit_two (l : List StepD) : OkL ((fitR l).2 ++ [⟨0, 5, 0, 0⟩, ⟨0, 6, 0, 0⟩]) ∧ stL ((fitR l).2 ++ [⟨0, 5, 0, 0⟩]) = stL (fitR l).2 := by
  obtain ⟨h1, h2, h3⟩ := fit_ok _ l rfl
  have e : (fitR l).2 ++ [⟨0, 5, 0, 0⟩, ⟨0, 6, 0, 0⟩] = ((fitR l).2 ++ [⟨0, 5, 0, 0⟩]) ++ [⟨0, 6, 0, 0⟩] := by simp
  rw [e]
  refine ⟨okL_snoc (okL_snoc h2 (by unfold mayL; simp)) (by unfold mayL; simp), ?_⟩
  rw [stL_snoc]; simp [doL]
/-- all nodes of the list have been made. -/
theorem stL_lt (n : Nat) : ∀ l : List StepD, l.length = n → OkL l → ∀ i ∈ (stL l).row, i < (stL l).vals.length := by
  induction n with
  | zero =>
    intro l h _ i hi
    rw [List.length_eq_zero_iff.1 h] at hi
    simp [stL] at hi
  | succ n ih =>
    intro l h ok
    rcases List.eq_nil_or_concat l with rfl | ⟨l', a, rfl⟩
    · simp at h
    · rw [List.concat_eq_append] at *
      have hl : l'.length = n := by simpa using h
      have ok' : OkL l' := fun k b hb => by
        have hkl := (List.getElem?_eq_some_iff.1 hb).1
        have := ok k b (by rw [List.getElem?_append_left hkl]; exact hb)
        rwa [List.take_append_of_le_length (by omega)] at this
      have hi := ih l' hl ok'
      have hm := ok l'.length a (by rw [List.getElem?_append_right (Nat.le_refl _), Nat.sub_self]; rfl)
      rw [List.take_append_of_le_length (Nat.le_refl _), List.take_length] at hm
      rw [stL_snoc]
      generalize stL l' = s at *
      intro i hx
      unfold doL at hx ⊢
      by_cases h0 : a.act = 0
      · rw [if_pos h0] at hx ⊢
        simp at hx ⊢
        rcases hx with hx | rfl
        · have := hi i hx; omega
        · omega
      rw [if_neg h0] at hx ⊢
      by_cases h1 : a.act = 1
      · rw [if_pos h1] at hx ⊢
        simp at hx ⊢
        rcases hx with rfl | hx
        · omega
        · have := hi i hx; omega
      rw [if_neg h1] at hx ⊢
      by_cases h2 : a.act = 2
      · rw [if_pos h2] at hx ⊢
        simp only [cutAt, List.mem_append] at hx
        rcases hx with hx | hx
        · exact hi i (List.mem_of_mem_take hx)
        · exact hi i (List.mem_of_mem_drop hx)
      rw [if_neg h2] at hx ⊢
      by_cases h3 : a.act = 3
      · rw [if_pos h3] at hx ⊢
        unfold mayL at hm
        rw [if_neg (by omega), if_pos (.inl h3)] at hm
        simp at hx ⊢
        rcases hx with hx | rfl
        · exact hi i hx
        · omega
      rw [if_neg h3] at hx ⊢
      by_cases h4 : a.act = 4
      · rw [if_pos h4] at hx ⊢
        unfold mayL at hm
        rw [if_neg (by omega), if_pos (.inr h4)] at hm
        simp at hx ⊢
        rcases hx with rfl | hx
        · omega
        · exact hi i hx
      rw [if_neg h4] at hx ⊢
      by_cases h9 : a.act = 9
      · rw [if_pos h9] at hx ⊢
        have := hi i hx
        simp; omega
      · rw [if_neg h9] at hx ⊢
        exact hi i hx
end Go.Proofs.Ytinajjceojfflaa.Kp
