/- trees with two parts at each node, as lists: their places, levels, order; no program in sight. -/
import Derived.Test.YtjbelfbfhcmgeaaKidsP
namespace Go.Proofs.Ytjbelfbfhcmgeaa.Kp

inductive BT where
  | nil
  | node (l r : BT)
def BT.size : BT → Nat
  | .nil => 0
  | .node l r => 1 + l.size + r.size
def BT.is : BT → Bool
  | .nil => false
  | .node _ _ => true
def BT.flags : BT → List (List Bool)
  | .nil => []
  | .node l r => [l.is, r.is] :: (l.flags ++ r.flags)
theorem BT.flags_len : ∀ t : BT, t.flags.length = t.size
  | .nil => rfl
  | .node l r => by simp [BT.flags, BT.size, flags_len l, flags_len r]; omega
def BT.tall : BT → Int
  | .nil => 0
  | .node l r => max l.tall r.tall + 1
def BT.even : BT → Bool
  | .nil => true
  | .node l r => decide (l.tall - r.tall ≤ 1) && decide (r.tall - l.tall ≤ 1) && l.even && r.even
def BT.betw (p : Nat) : BT → List Int
  | .nil => []
  | .node l r => l.betw (p + 1) ++ (p : Int) :: r.betw (p + 1 + l.size)
theorem BT.betw_len : ∀ (t : BT) (p : Nat), (t.betw p).length = t.size
  | .nil, _ => rfl
  | .node l r, p => by simp [BT.betw, BT.size, betw_len l, betw_len r]; omega
theorem BT.tall_bd : ∀ t : BT, 0 ≤ t.tall ∧ t.tall ≤ t.size
  | .nil => by simp [BT.tall, BT.size]
  | .node l r => by have := tall_bd l; have := tall_bd r; simp only [BT.tall, BT.size]; omega
theorem BT.not_is {t : BT} (h : t.is = false) : t = .nil := by cases t <;> simp_all [BT.is]
/-- where a part stands; -1: it is not there. -/
def BT.at_ (t : BT) (p : Nat) : Int := if t.is then (p : Int) else -1
/-- a tree stands at a place of a list. -/
def Stands (has : List (List Bool)) (p : Nat) (t : BT) : Prop := ∃ a b, has = a ++ t.flags ++ b ∧ a.length = p
theorem Stands.all (t : BT) : Stands t.flags 0 t := ⟨[], [], by simp, rfl⟩
theorem Stands.left {has : List (List Bool)} {p : Nat} {l r : BT} (h : Stands has p (.node l r)) : Stands has (p + 1) l := by
  obtain ⟨a, b, e, rfl⟩ := h
  exact ⟨a ++ [[l.is, r.is]], r.flags ++ b, by rw [e]; simp [BT.flags], by simp⟩
theorem Stands.right {has : List (List Bool)} {p : Nat} {l r : BT} (h : Stands has p (.node l r)) : Stands has (p + 1 + l.size) r := by
  obtain ⟨a, b, e, rfl⟩ := h
  exact ⟨a ++ [[l.is, r.is]] ++ l.flags, b, by rw [e]; simp [BT.flags], by simp [BT.flags_len]; omega⟩
theorem Stands.le {has : List (List Bool)} {p : Nat} {t : BT} (h : Stands has p t) : p + t.size ≤ has.length := by
  obtain ⟨a, b, e, rfl⟩ := h
  rw [e]; simp [BT.flags_len]
theorem Stands.row {has : List (List Bool)} {p : Nat} {l r : BT} (h : Stands has p (.node l r)) : has.getD p [] = [l.is, r.is] := by
  obtain ⟨a, b, e, rfl⟩ := h
  rw [e, List.getD_eq_getElem?_getD, List.append_assoc, List.getElem?_append_right (Nat.le_refl _)]
  simp [BT.flags]
theorem Stands.ends {has : List (List Bool)} : ∀ {t : BT} {p : Nat}, Stands has p t → t.is = true → ends has p = some (p + t.size)
  | .nil, _, _, h => by simp [BT.is] at h
  | .node l r, p, h, _ => by
    have hle := h.le
    simp only [BT.size] at hle
    rw [ends_lt (by omega), h.row]
    have hr : endsL has [r.is] (p + 1 + l.size) = some (p + (BT.node l r).size) := by
      cases hr : r.is with
      | false => have := BT.not_is hr; subst this; simp [endsL, go, BT.size]; omega
      | true =>
        have e : endsL has [true] (p + 1 + l.size) = Kp.ends has (p + 1 + l.size) := by
          show (Kp.ends has (p + 1 + l.size)).bind _ = _
          cases Kp.ends has (p + 1 + l.size) <;> rfl
        rw [e, Stands.ends h.right hr]
        simp only [BT.size]; congr 1; omega
    cases hl : l.is with
    | false =>
      have := BT.not_is hl; subst this
      exact hr
    | true =>
      show (Kp.ends has (p + 1)).bind _ = _
      rw [Stands.ends h.left hl]
      exact hr
theorem Stands.kids {has : List (List Bool)} {p : Nat} {l r : BT} (h : Stands has p (.node l r)) : kidsAt has p = [l.at_ (p + 1), r.at_ (p + 1 + l.size)] := by
  unfold kidsAt
  rw [h.row]
  have hr : kidsL has [r.is] (p + 1 + l.size) = [r.at_ (p + 1 + l.size)] := by
    unfold BT.at_
    cases r.is with
    | false => rfl
    | true => simp only [kidsL, if_true]; cases Kp.ends has (p + 1 + l.size) <;> rfl
  cases hl : l.is with
  | false =>
    have := BT.not_is hl; subst this
    simp only [kidsL]
    rw [show kidsL has [r.is] (p + 1) = _ from hr]
    rfl
  | true =>
    simp only [kidsL]
    rw [h.left.ends hl]
    simp only
    rw [hr]
    simp [BT.at_, hl]
/-- a list of nodes with two parts that is one tree. -/
theorem ends_tree (has : List (List Bool)) (h2 : ∀ x ∈ has, ∃ a b, x = [a, b]) : ∀ (d i r : Nat), has.length - i ≤ d → ends has i = some r → ∃ t : BT, t.is = true ∧ (has.drop i).take (r - i) = t.flags ∧ t.size = r - i := by
  intro d
  induction d with
  | zero => intro i r hd h; rw [ends_ge (by omega)] at h; simp at h
  | succ d ih =>
    intro i r hd h
    have hi : i < has.length := by
      by_cases hi : i < has.length
      · exact hi
      · rw [ends_ge (by omega)] at h; simp at h
    obtain ⟨a, b, hab⟩ := h2 (has[i]) (List.getElem_mem hi)
    have hrow : has.getD i [] = [a, b] := by rw [List.getD_eq_getElem?_getD, List.getElem?_eq_getElem hi]; exact hab
    have hlt := ends_gt h
    rw [ends_lt hi, hrow] at h
    -- the left part
    have hL : ∃ (l : BT) (m : Nat), l.is = a ∧ i + 1 ≤ m ∧ (has.drop (i + 1)).take (m - (i + 1)) = l.flags ∧ l.size = m - (i + 1) ∧ endsL has [b] m = some r := by
      cases a with
      | false => exact ⟨.nil, i + 1, rfl, Nat.le_refl _, by simp [BT.flags], by simp [BT.size], h⟩
      | true =>
        have h' : (ends has (i + 1)).bind (endsL has [b]) = some r := h
        cases he : ends has (i + 1) with
        | none => rw [he] at h'; simp at h'
        | some m =>
          rw [he] at h'
          obtain ⟨t, t1, t2, t3⟩ := ih (i + 1) m (by omega) he
          exact ⟨t, m, t1, by have := (ends_gt he).1; omega, t2, t3, h'⟩
    obtain ⟨l, m, l1, l0, l2, l3, hR⟩ := hL
    have hR : ∃ (u : BT), u.is = b ∧ m ≤ r ∧ (has.drop m).take (r - m) = u.flags ∧ u.size = r - m := by
      cases b with
      | false =>
        simp [endsL, go] at hR
        subst hR
        exact ⟨.nil, rfl, Nat.le_refl _, by simp [BT.flags], by simp [BT.size]⟩
      | true =>
        have hR' : (ends has m).bind (endsL has []) = some r := hR
        cases he : ends has m with
        | none => rw [he] at hR'; simp at hR'
        | some z =>
          rw [he] at hR'
          have : z = r := by simpa [endsL, go] using hR'
          subst this
          obtain ⟨t, t1, t2, t3⟩ := ih m z (by omega) he
          exact ⟨t, t1, by have := (ends_gt he).1; omega, t2, t3⟩
    obtain ⟨u, u1, u0, u2, u3⟩ := hR
    refine ⟨.node l u, rfl, ?_, by simp only [BT.size]; omega⟩
    simp only [BT.flags, l1, u1, ← hab, ← l2, ← u2]
    rw [List.drop_eq_getElem_cons hi]
    rw [show r - i = (m - (i + 1) + (r - m)) + 1 by omega, List.take_succ_cons, List.take_add]
    congr 2
    rw [List.drop_drop]
    congr 2
    omega
theorem tree_of {has : List (List Bool)} (h2 : ∀ x ∈ has, ∃ a b, x = [a, b]) (h : ends has 0 = some has.length) : ∃ t : BT, t.is = true ∧ t.flags = has := by
  obtain ⟨t, h1, h3, _⟩ := ends_tree has h2 _ 0 _ (Nat.le_refl _) h
  exact ⟨t, h1, by rw [← h3]; simp⟩
end Go.Proofs.Ytjbelfbfhcmgeaa.Kp
