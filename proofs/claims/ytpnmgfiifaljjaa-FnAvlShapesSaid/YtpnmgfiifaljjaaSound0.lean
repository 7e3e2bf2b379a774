/- the nodes of an AVL tree as data: places, levels, order; no program in sight. -/
import Derived.Test.YtpnmgfiifaljjaaBack0
import Derived.Test.YtpnmgfiifaljjaaAvlO
namespace Go.Proofs.Ytpnmgfiifaljjaa.Kp
open Om

def _root_.Go.Proofs.Ytpnmgfiifaljjaa.AT.bt : AT → BT
  | .nil => .nil
  | .node _ _ _ _ l r => .node l.bt r.bt
theorem bt_is : ∀ t : AT, t.bt.is = t.ptr.isSome
  | .nil => rfl
  | .node .. => rfl
theorem bt_size : ∀ t : AT, t.bt.size = t.ids.length
  | .nil => rfl
  | .node _ _ _ _ l r => by simp [AT.bt, BT.size, AT.ids, bt_size l, bt_size r]; omega
theorem bt_flags : ∀ t : AT, hasB t.shape = t.bt.flags
  | .nil => rfl
  | .node _ _ _ _ l r => by
    simp only [AT.shape, AT.bt, BT.flags, bt_is]
    unfold hasB has2
    rw [List.map_cons, List.map_append]
    have h1 := bt_flags l
    have h2 := bt_flags r
    unfold hasB has2 at h1 h2
    rw [h1, h2]
theorem bt_tall : ∀ t : AT, t.Ok → t.ht = t.bt.tall
  | .nil, _ => rfl
  | .node _ _ _ h l r, ok => by
    have e := ok.1.1
    simp only [AT.ht, AT.bt, BT.tall]
    rw [e]; unfold htOf
    rw [bt_tall l ok.2.1, bt_tall r ok.2.2]; omega
theorem bt_talls : ∀ t : AT, t.Ok → t.shape.map BrD.ht = t.bt.talls
  | .nil, _ => rfl
  | .node b k v h l r, ok => by
    have e := bt_tall (.node b k v h l r) ok
    simp only [AT.ht, AT.bt, BT.tall] at e
    simp only [AT.shape, AT.bt, BT.talls, List.map_cons, List.map_append]
    rw [bt_talls l ok.2.1, bt_talls r ok.2.2, e]
theorem bt_even : ∀ t : AT, t.Ok → t.bt.even = true
  | .nil, _ => rfl
  | .node b k v h l r, ok => by
    have h1 := bt_tall l ok.2.1
    have h2 := bt_tall r ok.2.2
    have h3 := ok.1.2
    simp only [AT.bt, BT.even, bt_even l ok.2.1, bt_even r ok.2.2, Bool.and_true, Bool.and_eq_true, decide_eq_true_eq]
    omega
theorem bt_betw : ∀ (t : AT) (L : List BrD) (p : Nat), (∃ a b, L = a ++ t.shape ++ b ∧ a.length = p) → ∀ (j : Nat) (q : Int), (t.bt.betw p)[j]? = some q → ∃ (i : Nat) (x : BrD), q = (i : Int) ∧ L[i]? = some x ∧ t.prs[j]? = some (x.key, x.val)
  | .nil, _, _, _, j, q, h => by simp [AT.bt, BT.betw] at h
  | .node b k v h l r, L, p, ⟨a, c, e, hp⟩, j, q, hj => by
    simp only [AT.shape] at e
    have hl := bt_betw l L (p + 1) ⟨a ++ [⟨k, valI v, h, l.ptr.isSome, r.ptr.isSome⟩], r.shape ++ c, by rw [e]; simp, by simp [hp]⟩
    have hr := bt_betw r L (p + 1 + l.bt.size) ⟨a ++ [⟨k, valI v, h, l.ptr.isSome, r.ptr.isSome⟩] ++ l.shape, c, by rw [e]; simp, by simp [hp, AT.shape_len, bt_size]; omega⟩
    simp only [AT.bt, BT.betw] at hj
    simp only [AT.prs]
    have ll : (l.bt.betw (p + 1)).length = l.prs.length := by
      rw [BT.betw_len, bt_size, ← AT.keys_len, AT.keys_prs, List.length_map]
    by_cases c1 : j < (l.bt.betw (p + 1)).length
    · rw [List.getElem?_append_left c1] at hj
      obtain ⟨i, x, h1, h2, h3⟩ := hl j q hj
      exact ⟨i, x, h1, h2, by rw [List.getElem?_append_left (by omega)]; exact h3⟩
    · rw [List.getElem?_append_right (by omega)] at hj
      obtain ⟨n, hn⟩ : ∃ n, j = (l.bt.betw (p + 1)).length + n := ⟨j - (l.bt.betw (p + 1)).length, by omega⟩
      subst hn
      rw [Nat.add_sub_cancel_left] at hj
      rw [ll, List.getElem?_append_right (by omega), Nat.add_sub_cancel_left]
      cases n with
      | zero =>
        simp at hj
        subst hj
        refine ⟨p, ⟨k, valI v, h, l.ptr.isSome, r.ptr.isSome⟩, rfl, ?_, rfl⟩
        rw [e, List.append_assoc, List.getElem?_append_right (by omega), hp, Nat.sub_self]; rfl
      | succ n =>
        simp only [List.getElem?_cons_succ] at hj ⊢
        exact hr n q hj
end Go.Proofs.Ytpnmgfiifaljjaa.Kp
