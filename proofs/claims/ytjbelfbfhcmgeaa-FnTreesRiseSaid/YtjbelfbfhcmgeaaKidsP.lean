/- lists of nodes in which parts stand behind their node: where each part stands; no program in sight. -/
import Derived.Tactics
namespace Go.Proofs.Ytjbelfbfhcmgeaa.Kp

/-- where a list goes on behind the parts that a node has, the first one at n. -/
def go (f : Nat → Option Nat) : List Bool → Nat → Option Nat
  | [], n => some n
  | false :: bs, n => go f bs n
  | true :: bs, n => (f n).bind (go f bs)
def par (has : List (List Bool)) : Nat → Nat → Option Nat
  | 0, _ => none
  | k + 1, i => if i < has.length then go (par has k) (has.getD i []) (i + 1) else none
theorem go_gt {f : Nat → Option Nat} (hf : ∀ n r, f n = some r → n < r) : ∀ (bs : List Bool) (n r : Nat), go f bs n = some r → n ≤ r
  | [], n, r, h => by simp [go] at h; omega
  | false :: bs, n, r, h => go_gt hf bs n r h
  | true :: bs, n, r, h => by
    simp only [go, Option.bind_eq_some_iff] at h
    obtain ⟨m, h1, h2⟩ := h
    have := hf _ _ h1
    have := go_gt hf bs m r h2
    omega
theorem par_gt (has : List (List Bool)) : ∀ (k n r : Nat), par has k n = some r → n < r
  | 0, n, r, h => by simp [par] at h
  | k + 1, n, r, h => by
    simp only [par] at h
    split at h
    · have := go_gt (par_gt has k) _ _ _ h; omega
    · simp at h
theorem go_le {f : Nat → Option Nat} {N : Nat} (hf : ∀ n r, f n = some r → r ≤ N) : ∀ (bs : List Bool) (n r : Nat), n ≤ N → go f bs n = some r → r ≤ N
  | [], n, r, hn, h => by simp [go] at h; omega
  | false :: bs, n, r, hn, h => go_le hf bs n r hn h
  | true :: bs, n, r, hn, h => by
    simp only [go, Option.bind_eq_some_iff] at h
    obtain ⟨m, h1, h2⟩ := h
    exact go_le hf bs m r (hf _ _ h1) h2
theorem par_le (has : List (List Bool)) : ∀ (k n r : Nat), par has k n = some r → r ≤ has.length
  | 0, n, r, h => by simp [par] at h
  | k + 1, n, r, h => by
    simp only [par] at h
    split at h
    · exact go_le (par_le has k) _ _ _ (by omega) h
    · simp at h
theorem go_congr {f g : Nat → Option Nat} {s : Nat} (hf : ∀ n r, f n = some r → n < r) (h : ∀ n, s ≤ n → f n = g n) : ∀ (bs : List Bool) (n : Nat), s ≤ n → go f bs n = go g bs n
  | [], _, _ => rfl
  | false :: bs, n, hn => go_congr hf h bs n hn
  | true :: bs, n, hn => by
    simp only [go]
    rw [h n hn]
    cases hg : g n with
    | none => rfl
    | some m =>
      have := hf n m (by rw [h n hn]; exact hg)
      exact go_congr hf h bs m (by omega)
theorem par_fuel (has : List (List Bool)) : ∀ (k j i : Nat), has.length - i < k → has.length - i < j → par has k i = par has j i
  | 0, _, _, h, _ => by omega
  | k + 1, 0, _, _, h => by omega
  | k + 1, j + 1, i, h1, h2 => by
    simp only [par]
    split
    · exact go_congr (s := i + 1) (par_gt has k) (fun n hn => by
        by_cases hl : has.length ≤ n
        · have e : ∀ m, par has m n = none := fun m => by cases m with
            | zero => rfl
            | succ m => simp only [par]; rw [if_neg (by omega)]
          rw [e, e]
        · exact par_fuel has k j n (by omega) (by omega)) _ _ (Nat.le_refl _)
    · rfl
/-- where the list goes on behind all of the node at a place; none: it is too short. -/
def ends (has : List (List Bool)) (i : Nat) : Option Nat := par has (has.length + 1) i
/-- from a place on: behind the parts of one node. -/
def endsL (has : List (List Bool)) (bs : List Bool) (n : Nat) : Option Nat := go (ends has) bs n
theorem ends_lt {has : List (List Bool)} {i : Nat} (h : i < has.length) : ends has i = endsL has (has.getD i []) (i + 1) := by
  unfold ends endsL
  rw [par, if_pos h]
  exact go_congr (s := i + 1) (par_gt has _) (fun n hn => par_fuel has _ _ n (by omega) (by omega)) _ _ (Nat.le_refl _)
theorem ends_ge {has : List (List Bool)} {i : Nat} (h : has.length ≤ i) : ends has i = none := by
  unfold ends; rw [par, if_neg (by omega)]
theorem ends_gt {has : List (List Bool)} {i r : Nat} (h : ends has i = some r) : i < r ∧ r ≤ has.length := ⟨par_gt _ _ _ _ h, par_le _ _ _ _ h⟩
theorem endsL_ge {has : List (List Bool)} {bs : List Bool} {n r : Nat} (h : endsL has bs n = some r) : n ≤ r := go_gt (fun _ _ h => (ends_gt h).1) _ _ _ h
theorem endsL_le {has : List (List Bool)} {bs : List Bool} {n r : Nat} (hn : n ≤ has.length) (h : endsL has bs n = some r) : r ≤ has.length := go_le (fun _ _ h => (ends_gt h).2) _ _ _ hn h
/-- the places of a node's parts. -/
def kidsL (has : List (List Bool)) : List Bool → Nat → List Int
  | [], _ => []
  | false :: bs, n => -1 :: kidsL has bs n
  | true :: bs, n => (n : Int) :: match ends has n with
    | some m => kidsL has bs m
    | none => []
def kidsAt (has : List (List Bool)) (i : Nat) : List Int := kidsL has (has.getD i []) (i + 1)
theorem endsL_split (has : List (List Bool)) : ∀ (a b : List Bool) (n : Nat), endsL has (a ++ b) n = (endsL has a n).bind (endsL has b)
  | [], b, n => rfl
  | false :: a, b, n => endsL_split has a b n
  | true :: a, b, n => by
    show (ends has n).bind (endsL has (a ++ b)) = ((ends has n).bind (endsL has a)).bind (endsL has b)
    cases ends has n with
    | none => rfl
    | some m => exact endsL_split has a b m
theorem kidsL_snoc (has : List (List Bool)) : ∀ (a : List Bool) (x : Bool) (n m : Nat), endsL has a n = some m → kidsL has (a ++ [x]) n = kidsL has a n ++ [if x then (m : Int) else -1]
  | [], x, n, m, h => by
    simp [endsL, go] at h
    subst h
    cases x
    · rfl
    · simp only [List.nil_append, kidsL, if_true]
      cases ends has n <;> rfl
  | false :: a, x, n, m, h => by
    simp only [List.cons_append, kidsL]
    rw [kidsL_snoc has a x n m h]
  | true :: a, x, n, m, h => by
    have h' : (ends has n).bind (endsL has a) = some m := h
    simp only [List.cons_append, kidsL]
    cases he : ends has n with
    | none => rw [he] at h'; simp at h'
    | some z =>
      rw [he] at h'
      simp only
      rw [kidsL_snoc has a x z m h']
theorem kidsL_len (has : List (List Bool)) : ∀ (bs : List Bool) (n : Nat), (kidsL has bs n).length ≤ bs.length
  | [], _ => by simp [kidsL]
  | false :: bs, n => by simp [kidsL]; exact kidsL_len has bs n
  | true :: bs, n => by
    simp only [kidsL, List.length_cons]
    cases ends has n with
    | none => simp
    | some m => simp only; have := kidsL_len has bs m; omega
theorem kidsL_len_eq (has : List (List Bool)) : ∀ (bs : List Bool) (n r : Nat), endsL has bs n = some r → (kidsL has bs n).length = bs.length
  | [], _, _, _ => by simp [kidsL]
  | false :: bs, n, r, h => by simp [kidsL]; exact kidsL_len_eq has bs n r h
  | true :: bs, n, r, h => by
    have h' : (ends has n).bind (endsL has bs) = some r := h
    simp only [kidsL, List.length_cons]
    cases he : ends has n with
    | none => rw [he] at h'; simp at h'
    | some m => rw [he] at h'; simp only; rw [kidsL_len_eq has bs m r h']
/-- a place that is told lies behind the node. -/
theorem kidsL_mem (has : List (List Bool)) : ∀ (bs : List Bool) (n : Nat) (z : Int), z ∈ kidsL has bs n → z = -1 ∨ (n : Int) ≤ z
  | [], _, _, h => by simp [kidsL] at h
  | false :: bs, n, z, h => by
    simp only [kidsL, List.mem_cons] at h
    rcases h with rfl | h
    · exact .inl rfl
    · exact kidsL_mem has bs n z h
  | true :: bs, n, z, h => by
    simp only [kidsL, List.mem_cons] at h
    rcases h with rfl | h
    · exact .inr (Int.le_refl _)
    · cases he : ends has n with
      | none => rw [he] at h; simp at h
      | some m =>
        rw [he] at h
        have := (ends_gt he).1
        rcases kidsL_mem has bs m z h with h | h
        · exact .inl h
        · exact .inr (by omega)
/-- of a list that is one tree, a node's part ends within it, and so does each node between. -/
theorem ends_all (has : List (List Bool)) : ∀ (d i r : Nat), has.length - i ≤ d → ends has i = some r → ∀ j, i ≤ j → j < r → ∃ s, ends has j = some s ∧ s ≤ r := by
  intro d
  induction d with
  | zero =>
    intro i r hd h
    rw [ends_ge (by omega)] at h
    simp at h
  | succ d ih =>
    intro i r hd h j hij hjr
    have hi : i < has.length := by
      by_cases hi : i < has.length
      · exact hi
      · rw [ends_ge (by omega)] at h; simp at h
    rcases Nat.eq_or_lt_of_le hij with rfl | hlt
    · exact ⟨r, h, Nat.le_refl _⟩
    · rw [ends_lt hi] at h
      have key : ∀ (bs : List Bool) (n : Nat), i < n → endsL has bs n = some r → n ≤ j → ∃ s, ends has j = some s ∧ s ≤ r := by
        intro bs
        induction bs with
        | nil => intro n _ h hj; simp [endsL, go] at h; omega
        | cons b bs ihb =>
          intro n hn h hj
          cases b with
          | false => exact ihb n hn h hj
          | true =>
            have h' : (ends has n).bind (endsL has bs) = some r := h
            cases he : ends has n with
            | none => rw [he] at h'; simp at h'
            | some m =>
              rw [he] at h'
              have hm := endsL_ge h'
              by_cases hjm : j < m
              · obtain ⟨s, h1, h2⟩ := ih n m (by omega) he j hj hjm
                exact ⟨s, h1, by omega⟩
              · exact ihb m (by have := (ends_gt he).1; omega) h' (by omega)
      exact key _ _ (Nat.lt_succ_self i) h hlt
end Go.Proofs.Ytjbelfbfhcmgeaa.Kp
