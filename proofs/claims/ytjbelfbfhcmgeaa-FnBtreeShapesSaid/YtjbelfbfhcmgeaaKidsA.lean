/- lists of nodes in which parts stand behind their node: where each part stands; no program in sight. trees with two parts at each node, as lists: their places, levels, order; no program in sight. -/
import Derived.Tactics
namespace Go.Proofs.Ytjbelfbfhcmgeaa.Kp

/-- where a list goes on behind the parts that a node has, the first one at n. -/
def go (f : Nat → Option Nat) : List Bool → Nat → Option Nat
  | [], n => some n
  | false :: bs, n => go f bs n
  | true :: bs, n => (f n).bind (go f bs)
def par (has : List (List Bool)) : Nat → Nat → Option Nat
  | 0, _ => none
  | k + 1, i => if i < has.length then go (par has k) (has.getD i []) (i + 1) else none
theorem go_gt {f : Nat → Option Nat} (hf : ∀ n r, f n = some r → n < r) : ∀ (bs : List Bool) (n r : Nat), go f bs n = some r → n ≤ r
  | [], n, r, h => by simp [go] at h; omega
  | false :: bs, n, r, h => go_gt hf bs n r h
  | true :: bs, n, r, h => by
    simp only [go, Option.bind_eq_some_iff] at h
    obtain ⟨m, h1, h2⟩ := h
    have := hf _ _ h1
    have := go_gt hf bs m r h2
    omega
theorem par_gt (has : List (List Bool)) : ∀ (k n r : Nat), par has k n = some r → n < r
  | 0, n, r, h => by simp [par] at h
  | k + 1, n, r, h => by
    simp only [par] at h
    split at h
    · have := go_gt (par_gt has k) _ _ _ h; omega
    · simp at h
theorem go_le {f : Nat → Option Nat} {N : Nat} (hf : ∀ n r, f n = some r → r ≤ N) : ∀ (bs : List Bool) (n r : Nat), n ≤ N → go f bs n = some r → r ≤ N
  | [], n, r, hn, h => by simp [go] at h; omega
  | false :: bs, n, r, hn, h => go_le hf bs n r hn h
  | true :: bs, n, r, hn, h => by
    simp only [go, Option.bind_eq_some_iff] at h
    obtain ⟨m, h1, h2⟩ := h
    exact go_le hf bs m r (hf _ _ h1) h2
theorem par_le (has : List (List Bool)) : ∀ (k n r : Nat), par has k n = some r → r ≤ has.length
  | 0, n, r, h => by simp [par] at h
  | k + 1, n, r, h => by
    simp only [par] at h
    split at h
    · exact go_le (par_le has k) _ _ _ (by omega) h
    · simp at h
theorem go_congr {f g : Nat → Option Nat} {s : Nat} (hf : ∀ n r, f n = some r → n < r) (h : ∀ n, s ≤ n → f n = g n) : ∀ (bs : List Bool) (n : Nat), s ≤ n → go f bs n = go g bs n
  | [], _, _ => rfl
  | false :: bs, n, hn => go_congr hf h bs n hn
  | true :: bs, n, hn => by
    simp only [go]
    rw [h n hn]
    cases hg : g n with
    | none => rfl
    | some m =>
      have := hf n m (by rw [h n hn]; exact hg)
      exact go_congr hf h bs m (by omega)
theorem par_fuel (has : List (List Bool)) : ∀ (k j i : Nat), has.length - i < k → has.length - i < j → par has k i = par has j i
  | 0, _, _, h, _ => by omega
  | k + 1, 0, _, _, h => by omega
  | k + 1, j + 1, i, h1, h2 => by
    simp only [par]
    split
    · exact go_congr (s := i + 1) (par_gt has k) (fun n hn => by
        by_cases hl : has.length ≤ n
        · have e : ∀ m, par has m n = none := fun m => by cases m with
            | zero => rfl
            | succ m => simp only [par]; rw [if_neg (by omega)]
          rw [e, e]
        · exact par_fuel has k j n (by omega) (by omega)) _ _ (Nat.le_refl _)
    · rfl
/-- where the list goes on behind all of the node at a place; none: it is too short. -/
def ends (has : List (List Bool)) (i : Nat) : Option Nat := par has (has.length + 1) i
/-- from a place on: behind the parts of one node. -/
def endsL (has : List (List Bool)) (bs : List Bool) (n : Nat) : Option Nat := go (ends has) bs n
theorem ends_lt {has : List (List Bool)} {i : Nat} (h : i < has.length) : ends has i = endsL has (has.getD i []) (i + 1) := by
  unfold ends endsL
  rw [par, if_pos h]
  exact go_congr (s := i + 1) (par_gt has _) (fun n hn => par_fuel has _ _ n (by omega) (by omega)) _ _ (Nat.le_refl _)
theorem ends_ge {has : List (List Bool)} {i : Nat} (h : has.length ≤ i) : ends has i = none := by
  unfold ends; rw [par, if_neg (by omega)]
theorem ends_gt {has : List (List Bool)} {i r : Nat} (h : ends has i = some r) : i < r ∧ r ≤ has.length := ⟨par_gt _ _ _ _ h, par_le _ _ _ _ h⟩
theorem endsL_ge {has : List (List Bool)} {bs : List Bool} {n r : Nat} (h : endsL has bs n = some r) : n ≤ r := go_gt (fun _ _ h => (ends_gt h).1) _ _ _ h
theorem endsL_le {has : List (List Bool)} {bs : List Bool} {n r : Nat} (hn : n ≤ has.length) (h : endsL has bs n = some r) : r ≤ has.length := go_le (fun _ _ h => (ends_gt h).2) _ _ _ hn h
/-- the places of a node's parts. -/
def kidsL (has : List (List Bool)) : List Bool → Nat → List Int
  | [], _ => []
  | false :: bs, n => -1 :: kidsL has bs n
  | true :: bs, n => (n : Int) :: match ends has n with
    | some m => kidsL has bs m
    | none => []
def kidsAt (has : List (List Bool)) (i : Nat) : List Int := kidsL has (has.getD i []) (i + 1)
theorem endsL_split (has : List (List Bool)) : ∀ (a b : List Bool) (n : Nat), endsL has (a ++ b) n = (endsL has a n).bind (endsL has b)
  | [], b, n => rfl
  | false :: a, b, n => endsL_split has a b n
  | true :: a, b, n => by
    show (ends has n).bind (endsL has (a ++ b)) = ((ends has n).bind (endsL has a)).bind (endsL has b)
    cases ends has n with
    | none => rfl
    | some m => exact endsL_split has a b m
theorem kidsL_snoc (has : List (List Bool)) : ∀ (a : List Bool) (x : Bool) (n m : Nat), endsL has a n = some m → kidsL has (a ++ [x]) n = kidsL has a n ++ [if x then (m : Int) else -1]
  | [], x, n, m, h => by
    simp [endsL, go] at h
    subst h
    cases x
    · rfl
    · simp only [List.nil_append, kidsL, if_true]
      cases ends has n <;> rfl
  | false :: a, x, n, m, h => by
    simp only [List.cons_append, kidsL]
    rw [kidsL_snoc has a x n m h]
  | true :: a, x, n, m, h => by
    have h' : (ends has n).bind (endsL has a) = some m := h
    simp only [List.cons_append, kidsL]
    cases he : ends has n with
    | none => rw [he] at h'; simp at h'
    | some z =>
      rw [he] at h'
      simp only
      rw [kidsL_snoc has a x z m h']
theorem kidsL_len (has : List (List Bool)) : ∀ (bs : List Bool) (n : Nat), (kidsL has bs n).length ≤ bs.length
  | [], _ => by simp [kidsL]
  | false :: bs, n => by simp [kidsL]; exact kidsL_len has bs n
  | true :: bs, n => by
    simp only [kidsL, List.length_cons]
    cases ends has n with
    | none => simp
    | some m => simp only; have := kidsL_len has bs m; omega
theorem kidsL_len_eq (has : List (List Bool)) : ∀ (bs : List Bool) (n r : Nat), endsL has bs n = some r → (kidsL has bs n).length = bs.length
  | [], _, _, _ => by simp [kidsL]
  | false :: bs, n, r, h => by simp [kidsL]; exact kidsL_len_eq has bs n r h
  | true :: bs, n, r, h => by
    have h' : (ends has n).bind (endsL has bs) = some r := h
    simp only [kidsL, List.length_cons]
    cases he : ends has n with
    | none => rw [he] at h'; simp at h'
    | some m => rw [he] at h'; simp only; rw [kidsL_len_eq has bs m r h']
/-- a place that is told lies behind the node. -/
theorem kidsL_mem (has : List (List Bool)) : ∀ (bs : List Bool) (n : Nat) (z : Int), z ∈ kidsL has bs n → z = -1 ∨ (n : Int) ≤ z
  | [], _, _, h => by simp [kidsL] at h
  | false :: bs, n, z, h => by
    simp only [kidsL, List.mem_cons] at h
    rcases h with rfl | h
    · exact .inl rfl
    · exact kidsL_mem has bs n z h
  | true :: bs, n, z, h => by
    simp only [kidsL, List.mem_cons] at h
    rcases h with rfl | h
    · exact .inr (Int.le_refl _)
    · cases he : ends has n with
      | none => rw [he] at h; simp at h
      | some m =>
        rw [he] at h
        have := (ends_gt he).1
        rcases kidsL_mem has bs m z h with h | h
        · exact .inl h
        · exact .inr (by omega)
/-- of a list that is one tree, a node's part ends within it, and so does each node between. -/
theorem ends_all (has : List (List Bool)) : ∀ (d i r : Nat), has.length - i ≤ d → ends has i = some r → ∀ j, i ≤ j → j < r → ∃ s, ends has j = some s ∧ s ≤ r := by
  intro d
  induction d with
  | zero =>
    intro i r hd h
    rw [ends_ge (by omega)] at h
    simp at h
  | succ d ih =>
    intro i r hd h j hij hjr
    have hi : i < has.length := by
      by_cases hi : i < has.length
      · exact hi
      · rw [ends_ge (by omega)] at h; simp at h
    rcases Nat.eq_or_lt_of_le hij with rfl | hlt
    · exact ⟨r, h, Nat.le_refl _⟩
    · rw [ends_lt hi] at h
      have key : ∀ (bs : List Bool) (n : Nat), i < n → endsL has bs n = some r → n ≤ j → ∃ s, ends has j = some s ∧ s ≤ r := by
        intro bs
        induction bs with
        | nil => intro n _ h hj; simp [endsL, go] at h; omega
        | cons b bs ihb =>
          intro n hn h hj
          cases b with
          | false => exact ihb n hn h hj
          | true =>
            have h' : (ends has n).bind (endsL has bs) = some r := h
            cases he : ends has n with
            | none => rw [he] at h'; simp at h'
            | some m =>
              rw [he] at h'
              have hm := endsL_ge h'
              by_cases hjm : j < m
              · obtain ⟨s, h1, h2⟩ := ih n m (by omega) he j hj hjm
                exact ⟨s, h1, by omega⟩
              · exact ihb m (by have := (ends_gt he).1; omega) h' (by omega)
      exact key _ _ (Nat.lt_succ_self i) h hlt
end Go.Proofs.Ytjbelfbfhcmgeaa.Kp
namespace Go.Proofs.Ytjbelfbfhcmgeaa.Kp

inductive BT where
  | nil
  | node (l r : BT)
def BT.size : BT → Nat
  | .nil => 0
  | .node l r => 1 + l.size + r.size
def BT.is : BT → Bool
  | .nil => false
  | .node _ _ => true
def BT.flags : BT → List (List Bool)
  | .nil => []
  | .node l r => [l.is, r.is] :: (l.flags ++ r.flags)
theorem BT.flags_len : ∀ t : BT, t.flags.length = t.size
  | .nil => rfl
  | .node l r => by simp [BT.flags, BT.size, flags_len l, flags_len r]; omega
def BT.tall : BT → Int
  | .nil => 0
  | .node l r => max l.tall r.tall + 1
def BT.even : BT → Bool
  | .nil => true
  | .node l r => decide (l.tall - r.tall ≤ 1) && decide (r.tall - l.tall ≤ 1) && l.even && r.even
def BT.betw (p : Nat) : BT → List Int
  | .nil => []
  | .node l r => l.betw (p + 1) ++ (p : Int) :: r.betw (p + 1 + l.size)
theorem BT.betw_len : ∀ (t : BT) (p : Nat), (t.betw p).length = t.size
  | .nil, _ => rfl
  | .node l r, p => by simp [BT.betw, BT.size, betw_len l, betw_len r]; omega
theorem BT.tall_bd : ∀ t : BT, 0 ≤ t.tall ∧ t.tall ≤ t.size
  | .nil => by simp [BT.tall, BT.size]
  | .node l r => by have := tall_bd l; have := tall_bd r; simp only [BT.tall, BT.size]; omega
theorem BT.not_is {t : BT} (h : t.is = false) : t = .nil := by cases t <;> simp_all [BT.is]
/-- where a part stands; -1: it is not there. -/
def BT.at_ (t : BT) (p : Nat) : Int := if t.is then (p : Int) else -1
/-- a tree stands at a place of a list. -/
def Stands (has : List (List Bool)) (p : Nat) (t : BT) : Prop := ∃ a b, has = a ++ t.flags ++ b ∧ a.length = p
theorem Stands.all (t : BT) : Stands t.flags 0 t := ⟨[], [], by simp, rfl⟩
theorem Stands.left {has : List (List Bool)} {p : Nat} {l r : BT} (h : Stands has p (.node l r)) : Stands has (p + 1) l := by
  obtain ⟨a, b, e, rfl⟩ := h
  exact ⟨a ++ [[l.is, r.is]], r.flags ++ b, by rw [e]; simp [BT.flags], by simp⟩
theorem Stands.right {has : List (List Bool)} {p : Nat} {l r : BT} (h : Stands has p (.node l r)) : Stands has (p + 1 + l.size) r := by
  obtain ⟨a, b, e, rfl⟩ := h
  exact ⟨a ++ [[l.is, r.is]] ++ l.flags, b, by rw [e]; simp [BT.flags], by simp [BT.flags_len]; omega⟩
theorem Stands.le {has : List (List Bool)} {p : Nat} {t : BT} (h : Stands has p t) : p + t.size ≤ has.length := by
  obtain ⟨a, b, e, rfl⟩ := h
  rw [e]; simp [BT.flags_len]
theorem Stands.row {has : List (List Bool)} {p : Nat} {l r : BT} (h : Stands has p (.node l r)) : has.getD p [] = [l.is, r.is] := by
  obtain ⟨a, b, e, rfl⟩ := h
  rw [e, List.getD_eq_getElem?_getD, List.append_assoc, List.getElem?_append_right (Nat.le_refl _)]
  simp [BT.flags]
theorem Stands.ends {has : List (List Bool)} : ∀ {t : BT} {p : Nat}, Stands has p t → t.is = true → ends has p = some (p + t.size)
  | .nil, _, _, h => by simp [BT.is] at h
  | .node l r, p, h, _ => by
    have hle := h.le
    simp only [BT.size] at hle
    rw [ends_lt (by omega), h.row]
    have hr : endsL has [r.is] (p + 1 + l.size) = some (p + (BT.node l r).size) := by
      cases hr : r.is with
      | false => have := BT.not_is hr; subst this; simp [endsL, go, BT.size]; omega
      | true =>
        have e : endsL has [true] (p + 1 + l.size) = Kp.ends has (p + 1 + l.size) := by
          show (Kp.ends has (p + 1 + l.size)).bind _ = _
          cases Kp.ends has (p + 1 + l.size) <;> rfl
        rw [e, Stands.ends h.right hr]
        simp only [BT.size]; congr 1; omega
    cases hl : l.is with
    | false =>
      have := BT.not_is hl; subst this
      exact hr
    | true =>
      show (Kp.ends has (p + 1)).bind _ = _
      rw [Stands.ends h.left hl]
      exact hr
theorem Stands.kids {has : List (List Bool)} {p : Nat} {l r : BT} (h : Stands has p (.node l r)) : kidsAt has p = [l.at_ (p + 1), r.at_ (p + 1 + l.size)] := by
  unfold kidsAt
  rw [h.row]
  have hr : kidsL has [r.is] (p + 1 + l.size) = [r.at_ (p + 1 + l.size)] := by
    unfold BT.at_
    cases r.is with
    | false => rfl
    | true => simp only [kidsL, if_true]; cases Kp.ends has (p + 1 + l.size) <;> rfl
  cases hl : l.is with
  | false =>
    have := BT.not_is hl; subst this
    simp only [kidsL]
    rw [show kidsL has [r.is] (p + 1) = _ from hr]
    rfl
  | true =>
    simp only [kidsL]
    rw [h.left.ends hl]
    simp only
    rw [hr]
    simp [BT.at_, hl]
/-- a list of nodes with two parts that is one tree. -/
theorem ends_tree (has : List (List Bool)) (h2 : ∀ x ∈ has, ∃ a b, x = [a, b]) : ∀ (d i r : Nat), has.length - i ≤ d → ends has i = some r → ∃ t : BT, t.is = true ∧ (has.drop i).take (r - i) = t.flags ∧ t.size = r - i := by
  intro d
  induction d with
  | zero => intro i r hd h; rw [ends_ge (by omega)] at h; simp at h
  | succ d ih =>
    intro i r hd h
    have hi : i < has.length := by
      by_cases hi : i < has.length
      · exact hi
      · rw [ends_ge (by omega)] at h; simp at h
    obtain ⟨a, b, hab⟩ := h2 (has[i]) (List.getElem_mem hi)
    have hrow : has.getD i [] = [a, b] := by rw [List.getD_eq_getElem?_getD, List.getElem?_eq_getElem hi]; exact hab
    have hlt := ends_gt h
    rw [ends_lt hi, hrow] at h
    -- the left part
    have hL : ∃ (l : BT) (m : Nat), l.is = a ∧ i + 1 ≤ m ∧ (has.drop (i + 1)).take (m - (i + 1)) = l.flags ∧ l.size = m - (i + 1) ∧ endsL has [b] m = some r := by
      cases a with
      | false => exact ⟨.nil, i + 1, rfl, Nat.le_refl _, by simp [BT.flags], by simp [BT.size], h⟩
      | true =>
        have h' : (ends has (i + 1)).bind (endsL has [b]) = some r := h
        cases he : ends has (i + 1) with
        | none => rw [he] at h'; simp at h'
        | some m =>
          rw [he] at h'
          obtain ⟨t, t1, t2, t3⟩ := ih (i + 1) m (by omega) he
          exact ⟨t, m, t1, by have := (ends_gt he).1; omega, t2, t3, h'⟩
    obtain ⟨l, m, l1, l0, l2, l3, hR⟩ := hL
    have hR : ∃ (u : BT), u.is = b ∧ m ≤ r ∧ (has.drop m).take (r - m) = u.flags ∧ u.size = r - m := by
      cases b with
      | false =>
        simp [endsL, go] at hR
        subst hR
        exact ⟨.nil, rfl, Nat.le_refl _, by simp [BT.flags], by simp [BT.size]⟩
      | true =>
        have hR' : (ends has m).bind (endsL has []) = some r := hR
        cases he : ends has m with
        | none => rw [he] at hR'; simp at hR'
        | some z =>
          rw [he] at hR'
          have : z = r := by simpa [endsL, go] using hR'
          subst this
          obtain ⟨t, t1, t2, t3⟩ := ih m z (by omega) he
          exact ⟨t, t1, by have := (ends_gt he).1; omega, t2, t3⟩
    obtain ⟨u, u1, u0, u2, u3⟩ := hR
    refine ⟨.node l u, rfl, ?_, by simp only [BT.size]; omega⟩
    simp only [BT.flags, l1, u1, ← hab, ← l2, ← u2]
    rw [List.drop_eq_getElem_cons hi]
    rw [show r - i = (m - (i + 1) + (r - m)) + 1 by omega, List.take_succ_cons, List.take_add]
    congr 2
    rw [List.drop_drop]
    congr 2
    omega
theorem tree_of {has : List (List Bool)} (h2 : ∀ x ∈ has, ∃ a b, x = [a, b]) (h : ends has 0 = some has.length) : ∃ t : BT, t.is = true ∧ t.flags = has := by
  obtain ⟨t, h1, h3, _⟩ := ends_tree has h2 _ 0 _ (Nat.le_refl _) h
  exact ⟨t, h1, by rw [← h3]; simp⟩
end Go.Proofs.Ytjbelfbfhcmgeaa.Kp
