/- laws.heapTree and spec.BagRows, as they are printed: they hold of a heap, and of rows that are each other's permutation. -/
import Derived.Test.YtinajjceojfflaaHeapA
import Derived.Test.YtinajjceojfflaaHeapY1
namespace Go.Proofs.Ytinajjceojfflaa
open Go.RowKit HeapP PFnHeapDown Go.Proofs.YtinajjceojfflaaW.PrintWords

theorem rank_fD (ts : List Int) (a : Int) (h : ts.length ≤ 4611686018427387903) : spec_Rank.f ts a = some (rankOf ts a) := by
  unfold spec_Rank.f rankOf
  by_cases e : ts = []
  · subst e; simp
  · have hl : 0 < ts.length := List.length_pos_iff.2 e
    rw [if_neg (by omega), if_neg e, mod_math _ _ (by omega) (by omega)]
    have h0 : 0 ≤ a % (ts.length : Int) := Int.emod_nonneg _ (by omega)
    have h1 : a % (ts.length : Int) < (ts.length : Int) := Int.emod_lt_of_pos _ (by omega)
    rw [if_pos h0, if_pos h1]
    rfl
theorem alike_nil (a b : Int) : spec_Alike.f [] a b = some (a == b) := by
  unfold spec_Alike.f
  rw [rank_fD [] a (by simp), rank_fD [] b (by simp)]
  rfl
theorem rdD {xs : List Int} {i : Nat} : rd xs (i : Int) = getI xs i := by
  show xs.getD (i : Int).toNat 0 = _
  rw [Int.toNat_natCast]; rfl
theorem wrD {i : Nat} (h : i ≤ 100000000000) : wrap64 ((i : Int) + 1) = ((i + 1 : Nat) : Int) := by unfold wrap64; omega
theorem count_take {xs : List Int} {v : Int} {j : Nat} (h : j < xs.length) : (xs.take (j + 1)).count v = (xs.take j).count v + if v = getI xs j then 1 else 0 := by
  rw [List.take_succ_eq_append_getElem h, List.count_append, getI_at h]
  congr 1
  rw [List.count_singleton]
  by_cases e : v = xs[j]
  · rw [if_pos e]; simp [e]
  · rw [if_neg e]; simp [Ne.symm e]
theorem cnt_le (xs : List Int) (v : Int) (j : Nat) : (xs.take j).count v ≤ xs.length := Nat.le_trans (List.count_le_length) (by rw [List.length_take]; omega)
theorem bag_in (xs ys : List Int) (hl : xs.length ≤ 10000000000) (hp : xs.Perm ys) (i : Nat) (hi : i < xs.length) (hend : ∃ k, spec_BagRows.l0 k [] xs ys ((i + 1 : Nat) : Int) = some true) :
    ∀ (n j : Nat), j + n = xs.length → ∃ k, spec_BagRows.l1 k [] xs ys i (((xs.take j).count (getI xs i) : Nat) : Int) (((ys.take j).count (getI xs i) : Nat) : Int) j = some true
  | 0, j, hj => by
    obtain ⟨k, hk⟩ := hend
    refine ⟨k + 1, ?_⟩
    unfold spec_BagRows.l1
    have e1 : xs.take j = xs := List.take_of_length_le (by omega)
    have e2 : ys.take j = ys := List.take_of_length_le (by rw [← hp.length_eq]; omega)
    rw [if_neg (by omega), e1, e2, if_pos (by rw [hp.count_eq]), wrD (by omega)]
    exact hk
  | n + 1, j, hj => by
    have hjl : j < xs.length := by omega
    have hjy : j < ys.length := by rw [← hp.length_eq]; exact hjl
    obtain ⟨k, hk⟩ := bag_in xs ys hl hp i hi hend n (j + 1) (by omega)
    have c1 := cnt_le xs (getI xs i) j
    have c2 := cnt_le ys (getI xs i) j
    rw [← hp.length_eq] at c2
    refine ⟨k + 1, ?_⟩
    rw [count_take hjl, count_take hjy] at hk
    unfold spec_BagRows.l1
    rw [if_pos (by omega), if_pos (by omega), if_pos (by omega), if_pos (by omega), alike_nil, Option.bind_some, rdD, rdD, rdD]
    have w0 := wrD (i := j) (by omega)
    have w1 := wrD (i := (xs.take j).count (getI xs i)) (by omega)
    have w2 := wrD (i := (ys.take j).count (getI xs i)) (by omega)
    by_cases a : getI xs i = getI xs j
    · rw [if_pos a] at hk
      rw [if_pos (show (getI xs i == getI xs j) = true by rw [beq_iff_eq]; exact a), if_pos (by omega), alike_nil, Option.bind_some]
      by_cases b : getI xs i = getI ys j
      · rw [if_pos b] at hk
        rw [if_pos (show (getI xs i == getI ys j) = true by rw [beq_iff_eq]; exact b), w0, w1, w2]
        exact hk
      · rw [if_neg b] at hk
        rw [if_neg (show ¬ (getI xs i == getI ys j) = true by rw [beq_iff_eq]; exact b), w0, w1]
        exact hk
    · rw [if_neg a] at hk
      rw [if_neg (show ¬ (getI xs i == getI xs j) = true by rw [beq_iff_eq]; exact a), if_pos (by omega), alike_nil, Option.bind_some]
      by_cases b : getI xs i = getI ys j
      · rw [if_pos b] at hk
        rw [if_pos (show (getI xs i == getI ys j) = true by rw [beq_iff_eq]; exact b), w0, w2]
        exact hk
      · rw [if_neg b] at hk
        rw [if_neg (show ¬ (getI xs i == getI ys j) = true by rw [beq_iff_eq]; exact b), w0]
        exact hk
theorem bag_go (xs ys : List Int) (hl : xs.length ≤ 10000000000) (hp : xs.Perm ys) : ∀ (n i : Nat), i + n = xs.length → ∃ k, spec_BagRows.l0 k [] xs ys i = some true
  | 0, i, hi => by
    refine ⟨1, ?_⟩
    unfold spec_BagRows.l0
    rw [if_neg (by omega)]
  | n + 1, i, hi => by
    have r := bag_go xs ys hl hp n (i + 1) (by omega)
    obtain ⟨k, hk⟩ := bag_in xs ys hl hp i (by omega) r xs.length 0 (by omega)
    refine ⟨k + 1, ?_⟩
    unfold spec_BagRows.l0
    rw [if_pos (by omega)]
    exact hk
theorem bag_f (xs ys : List Int) (hl : xs.length ≤ 10000000000) (hp : xs.Perm ys) : ∃ k, spec_BagRows.f k [] xs ys = some true := by
  obtain ⟨k, hk⟩ := bag_go xs ys hl hp xs.length 0 (by omega)
  refine ⟨k, ?_⟩
  unfold spec_BagRows.f
  rw [if_pos (by rw [hp.length_eq])]
  exact hk
/-- one number made greater, and gone down. -/
theorem down_set (ts : List Int) (xs : List Int) (i : Nat) (x : Int) (hi : i < xs.length) (hH : HeapFrom (rankOf ts) 0 xs) (hx : rankOf ts (getI xs i) ≤ rankOf ts x) :
    HeapFrom (rankOf ts) 0 (downP (rankOf ts) (xs.set i x).length (xs.set i x) i) := by
  refine downP_heap _ _ i (by omega) (Nat.zero_le _) ⟨fun j hj h0 _ hne => ?_, fun j hj h0 hp hk _ => ?_⟩
  · simp at hj
    rw [getI_set hi, getI_set hi, if_neg hne]
    split
    · rename_i e
      subst e
      exact Int.le_trans (hH j hj h0 (Nat.zero_le _)) hx
    · exact hH j hj h0 (Nat.zero_le _)
  · simp at hj
    rw [getI_set hi, getI_set hi, if_neg (by omega), if_neg (by omega)]
    have h1 := hH j hj h0 (Nat.zero_le _)
    have h2 := hH i hi hk (Nat.zero_le _)
    rw [hp] at h1
    exact Int.le_trans h2 h1
end Go.Proofs.Ytinajjceojfflaa
