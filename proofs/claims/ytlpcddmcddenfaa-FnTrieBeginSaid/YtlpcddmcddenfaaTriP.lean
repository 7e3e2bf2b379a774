/- tries as data: what is put, removed and found; no program in sight. -/
import Derived.Tactics
namespace Go.Proofs.Ytlpcddmcddenfaa.Tri

abbrev Txt := List UInt8
/-- a trie. -/
inductive Tr where
  | nil
  | node (c : UInt8) (l m r : Tr) (v : Int) (b : Bool)
def Tr.isNil : Tr → Bool
  | .nil => true
  | .node .. => false
/-- the node at a text's end. -/
def Tr.get : Tr → Txt → Tr
  | .nil, _ => .nil
  | .node _ _ _ _ _ _, [] => .nil
  | .node c l m r v b, a :: k => if a.toNat < c.toNat then l.get (a :: k) else if c.toNat < a.toNat then r.get (a :: k) else if k = [] then .node c l m r v b else m.get k
def Tr.val : Tr → Option Int
  | .nil => none
  | .node _ _ _ _ v b => if b then some v else none
def Tr.mid : Tr → Tr
  | .nil => .nil
  | .node _ _ m _ _ _ => m
/-- a text's value. -/
def Tr.look (t : Tr) (k : Txt) : Option Int := (t.get k).val
/-- what put makes of a part, of a text that is not empty. -/
def Tr.put : Tr → Txt → Int → Tr
  | t, [], _ => t
  | .nil, a :: k, v => if k = [] then .node a .nil .nil .nil v true else .node a .nil (Tr.put .nil k v) .nil 0 false
  | .node c l m r v0 b, a :: k, v => if a.toNat < c.toNat then .node c (l.put (a :: k) v) m r v0 b else if c.toNat < a.toNat then .node c l m (r.put (a :: k) v) v0 b else if k = [] then .node c l m r v true else .node c l (m.put k v) r v0 b
termination_by t k => (k.length, t)
/-- the first node. -/
def Tr.minC : Tr → Tr
  | .nil => .nil
  | .node c l m r v b => match l with
    | .nil => .node c .nil m r v b
    | .node .. => l.minC
def Tr.delMin : Tr → Tr
  | .nil => .nil
  | .node c l m r v b => match l with
    | .nil => r
    | .node .. => .node c l.delMin m r v b
/-- a node's parts without it. -/
def Tr.del : Tr → Tr
  | .nil => .nil
  | .node _ l _ r _ _ => match r with
    | .nil => l
    | .node .. => match l with
      | .nil => r
      | .node .. => match r.minC with
        | .nil => .nil
        | .node c' _ m' _ v' b' => .node c' l m' r.delMin v' b'
def Tr.unused : Tr → Bool
  | .nil => false
  | .node _ _ m _ _ b => !b && m.isNil
def Tr.clean (t : Tr) : Tr := if t.unused then t.del else t
def Tr.rem : Tr → Txt → Tr
  | .nil, _ => .nil
  | .node c l m r v b, [] => .node c l m r v b
  | .node c l m r v b, a :: k => (if a.toNat < c.toNat then Tr.node c (l.rem (a :: k)) m r v b else if c.toNat < a.toNat then .node c l m (r.rem (a :: k)) v b else if k = [] then .node c l m r 0 false else .node c l (m.rem k) r v b).clean
/-- texts and values, from left to right. -/
def Tr.ent : Tr → List (Txt × Int)
  | .nil => []
  | .node c l m r v b => l.ent ++ (if b then [([c], v)] else []) ++ m.ent.map (fun e => (c :: e.1, e.2)) ++ r.ent
/-- how long the longest text is that a text begins with; 0: there is none. -/
def Tr.long : Tr → Txt → Nat
  | .nil, _ => 0
  | .node _ _ _ _ _ _, [] => 0
  | .node c l m r _ b, a :: k => if a.toNat < c.toNat then l.long (a :: k) else if c.toNat < a.toNat then r.long (a :: k) else if 0 < m.long k then m.long k + 1 else if b then 1 else 0
/-- the letters on a level. -/
def Tr.chs : Tr → List UInt8
  | .nil => []
  | .node c l _ r _ _ => l.chs ++ c :: r.chs
def Tr.Wf : Tr → Prop
  | .nil => True
  | .node c l m r _ _ => l.Wf ∧ m.Wf ∧ r.Wf ∧ (∀ x ∈ l.chs, x.toNat < c.toNat) ∧ (∀ x ∈ r.chs, c.toNat < x.toNat)
theorem nat_eq {a c : UInt8} (h1 : ¬ a.toNat < c.toNat) (h2 : ¬ c.toNat < a.toNat) : a = c := UInt8.toNat_inj.1 (by omega)
/-! longest -/
theorem long_le : ∀ (t : Tr) (k : Txt), t.long k ≤ k.length
  | .nil, _ => by simp [Tr.long]
  | .node .., [] => by simp [Tr.long]
  | .node c l m r v b, a :: k => by
    have h1 := long_le l (a :: k)
    have h2 := long_le r (a :: k)
    have h3 := long_le m k
    simp only [Tr.long, List.length_cons] at *
    split
    · exact h1
    · split
      · exact h2
      · split
        · omega
        · split <;> omega
theorem look_nil (t : Tr) : t.look [] = none := by cases t <;> rfl
theorem long_some : ∀ (t : Tr) (k : Txt) (n : Nat), 0 < n → n ≤ k.length → (t.look (k.take n)).isSome = true → n ≤ t.long k
  | .nil, _, _, _, _, h => by simp [Tr.look, Tr.get, Tr.val] at h
  | .node .., [], n, h0, h1, _ => by simp at h1; omega
  | .node c l m r v b, a :: k, 0, h0, _, _ => by omega
  | .node c l m r v b, a :: k, n + 1, h0, h1, h => by
    rw [List.take_succ_cons] at h
    unfold Tr.look at h
    simp only [Tr.get] at h
    simp only [Tr.long]
    split at h
    · rename_i c1
      rw [if_pos c1]
      exact long_some l (a :: k) (n + 1) (by omega) h1 (by rw [List.take_succ_cons]; exact h)
    · rename_i c1
      rw [if_neg c1]
      split at h
      · rename_i c2
        rw [if_pos c2]
        exact long_some r (a :: k) (n + 1) (by omega) h1 (by rw [List.take_succ_cons]; exact h)
      · rename_i c2
        rw [if_neg c2]
        simp only [List.length_cons] at h1
        cases n with
        | zero =>
          simp [Tr.val] at h
          subst h
          split
          · omega
          · simp
        | succ n =>
          have hk : ¬ k.take (n + 1) = [] := by
            intro e
            have := congrArg List.length e
            rw [List.length_take, List.length_nil] at this; omega
          rw [if_neg hk] at h
          have := long_some m k (n + 1) (by omega) (by omega) h
          rw [if_pos (by omega)]
          omega
theorem long_is : ∀ (t : Tr) (k : Txt), 0 < t.long k → (t.look (k.take (t.long k))).isSome = true
  | .nil, _, h => by simp [Tr.long] at h
  | .node .., [], h => by simp [Tr.long] at h
  | .node c l m r v b, a :: k, h => by
    simp only [Tr.long] at h ⊢
    have key : ∀ n, 0 < n → (a :: k).take n = a :: k.take (n - 1) := fun n hn => by
      obtain ⟨n, rfl⟩ : ∃ j, n = j + 1 := ⟨n - 1, by omega⟩
      rfl
    split at h
    · rename_i c1
      rw [if_pos c1]
      have := long_is l (a :: k) h
      rw [key _ h] at this ⊢
      unfold Tr.look at this ⊢
      simp only [Tr.get]
      rw [if_pos c1]; exact this
    · rename_i c1
      rw [if_neg c1]
      split at h
      · rename_i c2
        rw [if_pos c2]
        have := long_is r (a :: k) h
        rw [key _ h] at this ⊢
        unfold Tr.look at this ⊢
        simp only [Tr.get]
        rw [if_neg c1, if_pos c2]; exact this
      · rename_i c2
        rw [if_neg c2]
        split at h
        · rename_i c3
          rw [if_pos c3, key _ (by omega)]
          have := long_is m k c3
          have hle := long_le m k
          unfold Tr.look at this ⊢
          simp only [Tr.get]
          rw [if_neg c1, if_neg c2, Nat.add_sub_cancel, if_neg]
          · exact this
          · intro e
            have := congrArg List.length e
            rw [List.length_take, List.length_nil] at this; omega
        · rename_i c3
          rw [if_neg c3]
          cases b with
          | false => simp at h
          | true =>
            simp only [if_true]
            unfold Tr.look
            simp [Tr.get, c1, c2, Tr.val]
/-- the longest one hangs on what is there alone. -/
theorem long_look {t u : Tr} (k : Txt) (h : ∀ n, (t.look (k.take n)).isSome = (u.look (k.take n)).isSome) : t.long k = u.long k := by
  have key : ∀ (t u : Tr), (∀ n, (t.look (k.take n)).isSome = (u.look (k.take n)).isSome) → t.long k ≤ u.long k := by
    intro t u h
    rcases Nat.eq_zero_or_pos (t.long k) with e | e
    · omega
    · exact long_some u k _ e (long_le t k) (by rw [← h]; exact long_is t k e)
  exact Nat.le_antisymm (key t u h) (key u t fun n => (h n).symm)
end Go.Proofs.Ytlpcddmcddenfaa.Tri
