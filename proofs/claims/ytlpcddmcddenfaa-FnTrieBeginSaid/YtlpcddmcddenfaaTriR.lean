/- tries as data: the texts from left to right; no program in sight. -/
import Derived.Test.YtlpcddmcddenfaaTriQ
import Derived.Laws.Strings
namespace Go.Proofs.Ytlpcddmcddenfaa.Tri

abbrev less (a b : Txt) : Bool := Op.bytesLess a b
theorem u8_lt (a b : UInt8) : decide (a < b) = decide (a.toNat < b.toNat) := decide_eq_decide.2 UInt8.lt_iff_toNat_lt
theorem less_cons (a b : UInt8) (x y : Txt) : less (a :: x) (b :: y) = (decide (a.toNat < b.toNat) || (a == b && less x y)) := by
  show (decide (a < b) || _) = _
  rw [u8_lt]
theorem less_irr : ∀ a : Txt, less a a = false
  | [] => rfl
  | a :: x => by rw [less_cons, less_irr x]; simp
theorem less_asymm : ∀ a b : Txt, less a b = true → less b a = false
  | [], [], h => by cases h
  | [], _ :: _, _ => rfl
  | _ :: _, [], h => by cases h
  | a :: x, b :: y, h => by
    rw [less_cons] at h ⊢
    simp only [Bool.or_eq_true, Bool.and_eq_true, decide_eq_true_eq, beq_iff_eq] at h
    rcases h with h | ⟨rfl, h⟩
    · have h1 : ¬ b.toNat < a.toNat := by omega
      have h2 : (b == a) = false := by rw [beq_eq_false_iff_ne]; intro e; subst e; omega
      rw [decide_eq_false h1, h2]; rfl
    · rw [less_asymm x y h]; simp
theorem ent_head : ∀ (t : Tr) (e : Txt × Int), e ∈ t.ent → ∃ a k, e.1 = a :: k ∧ a ∈ t.chs
  | .nil, _, h => by cases h
  | .node c l m r v b, e, h => by
    simp only [Tr.ent, List.mem_append, List.mem_map] at h
    simp only [Tr.chs, List.mem_append, List.mem_cons]
    rcases h with ((h | h) | ⟨e', _, rfl⟩) | h
    · obtain ⟨a, k, h1, h2⟩ := ent_head l e h
      exact ⟨a, k, h1, .inl h2⟩
    · split at h
      · rw [List.mem_singleton] at h; subst h
        exact ⟨c, [], rfl, .inr (.inl rfl)⟩
      · cases h
    · exact ⟨c, e'.1, rfl, .inr (.inl rfl)⟩
    · obtain ⟨a, k, h1, h2⟩ := ent_head r e h
      exact ⟨a, k, h1, .inr (.inr h2)⟩
theorem mem_ent : ∀ (t : Tr) (k : Txt) (v : Int), t.Wf → ((k, v) ∈ t.ent ↔ t.look k = some v)
  | .nil, k, v, _ => by rw [look_none_nil]; simp [Tr.ent]
  | .node c l m r v0 b, [], v, _ => by
    rw [look_nil]
    constructor
    · intro h
      obtain ⟨_, _, h1, _⟩ := ent_head _ _ h
      cases h1
    · intro h; cases h
  | .node c l m r v0 b, a :: k, v, ⟨h1, h2, h3, h4, h5⟩ => by
    rw [look_node]
    simp only [Tr.ent, List.mem_append, List.mem_map]
    have il := mem_ent l (a :: k) v h1
    have ir := mem_ent r (a :: k) v h3
    have im := mem_ent m k v h2
    have nl : ¬ a.toNat < c.toNat → ¬ (a :: k, v) ∈ l.ent := fun hc h => by
      obtain ⟨a', k', e, hm⟩ := ent_head _ _ h
      cases e; exact hc (h4 _ hm)
    have nr : ¬ c.toNat < a.toNat → ¬ (a :: k, v) ∈ r.ent := fun hc h => by
      obtain ⟨a', k', e, hm⟩ := ent_head _ _ h
      cases e; exact hc (h5 _ hm)
    have nb : a ≠ c → ¬ (a :: k, v) ∈ (if b then [([c], v0)] else []) := fun hc h => by
      split at h
      · rw [List.mem_singleton] at h; cases h; exact hc rfl
      · cases h
    have nm : a ≠ c → ¬ ∃ e, e ∈ m.ent ∧ (c :: e.1, e.2) = (a :: k, v) := fun hc ⟨e, _, h⟩ => by cases h; exact hc rfl
    by_cases q1 : a.toNat < c.toNat
    · have hne : a ≠ c := fun e => by subst e; omega
      rw [if_pos q1, ← il]
      constructor
      · rintro (((h | h) | h) | h)
        · exact h
        · exact absurd h (nb hne)
        · exact absurd h (nm hne)
        · exact absurd h (nr (by omega))
      · intro h; exact .inl (.inl (.inl h))
    · rw [if_neg q1]
      by_cases q2 : c.toNat < a.toNat
      · have hne : a ≠ c := fun e => by subst e; omega
        rw [if_pos q2, ← ir]
        constructor
        · rintro (((h | h) | h) | h)
          · exact absurd h (nl q1)
          · exact absurd h (nb hne)
          · exact absurd h (nm hne)
          · exact h
        · intro h; exact .inr h
      · rw [if_neg q2]
        have := nat_eq q1 q2
        subst this
        by_cases hk : k = []
        · subst hk
          rw [if_pos rfl]
          constructor
          · rintro (((h | h) | ⟨e, h, he⟩) | h)
            · exact absurd h (nl q1)
            · split at h
              · rename_i hb; rw [List.mem_singleton] at h; cases h; rw [if_pos hb]
              · cases h
            · obtain ⟨a', k', e1, _⟩ := ent_head _ _ h
              have h0 := (List.cons.inj (Prod.mk.inj he).1).2
              rw [e1] at h0; cases h0
            · exact absurd h (nr q2)
          · intro h
            split at h
            · rename_i hb; cases h; exact .inl (.inl (.inr (by rw [if_pos hb]; exact List.mem_singleton.2 rfl)))
            · cases h
        · rw [if_neg hk, ← im]
          constructor
          · rintro (((h | h) | ⟨e, h, he⟩) | h)
            · exact absurd h (nl q1)
            · split at h
              · rw [List.mem_singleton] at h; cases h; exact absurd rfl hk
              · cases h
            · cases he; exact h
            · exact absurd h (nr q2)
          · intro h; exact .inl (.inr ⟨(k, v), h, rfl⟩)
/-- texts rise. -/
def Up (l : List Txt) : Prop := l.Pairwise fun a b => less a b = true
theorem keys_up : ∀ (t : Tr), t.Wf → Up (t.ent.map Prod.fst)
  | .nil, _ => List.Pairwise.nil
  | .node c l m r v b, ⟨h1, h2, h3, h4, h5⟩ => by
    have il := keys_up l h1
    have im := keys_up m h2
    have ir := keys_up r h3
    have hl : ∀ x ∈ l.ent.map Prod.fst, ∃ a k, x = a :: k ∧ a.toNat < c.toNat := fun x hx => by
      obtain ⟨e, he, rfl⟩ := List.mem_map.1 hx
      obtain ⟨a, k, e1, e2⟩ := ent_head _ _ he
      exact ⟨a, k, e1, h4 a e2⟩
    have hr : ∀ x ∈ r.ent.map Prod.fst, ∃ a k, x = a :: k ∧ c.toNat < a.toNat := fun x hx => by
      obtain ⟨e, he, rfl⟩ := List.mem_map.1 hx
      obtain ⟨a, k, e1, e2⟩ := ent_head _ _ he
      exact ⟨a, k, e1, h5 a e2⟩
    have hm : ∀ x ∈ m.ent.map Prod.fst, x ≠ [] := fun x hx => by
      obtain ⟨e, he, rfl⟩ := List.mem_map.1 hx
      obtain ⟨a, k, e1, e2⟩ := ent_head _ _ he
      rw [e1]; simp
    have lt1 : ∀ (a c : UInt8) (x y : Txt), a.toNat < c.toNat → less (a :: x) (c :: y) = true := fun a c x y h => by rw [less_cons, decide_eq_true h]; rfl
    have e0 : (Tr.node c l m r v b).ent.map Prod.fst = l.ent.map Prod.fst ++ ((if b then [[c]] else []) ++ ((m.ent.map Prod.fst).map (c :: ·) ++ r.ent.map Prod.fst)) := by
      simp only [Tr.ent, List.map_append, List.append_assoc, List.map_map]
      cases b <;> rfl
    unfold Up at *
    rw [e0, List.pairwise_append, List.pairwise_append, List.pairwise_append]
    refine ⟨il, ⟨?_, ⟨?_, ir, ?_⟩, ?_⟩, ?_⟩
    · split
      · exact List.pairwise_singleton _ _
      · exact List.Pairwise.nil
    · refine List.pairwise_map.2 (im.imp fun h => ?_)
      rw [less_cons, h]; simp
    · intro x hx y hy
      obtain ⟨x', _, rfl⟩ := List.mem_map.1 hx
      obtain ⟨a, k, rfl, ha⟩ := hr y hy
      exact lt1 _ _ _ _ ha
    · intro x hx y hy
      split at hx
      · rw [List.mem_singleton] at hx
        subst hx
        rcases List.mem_append.1 hy with hy | hy
        · obtain ⟨y', hy', rfl⟩ := List.mem_map.1 hy
          have := hm y' hy'
          obtain ⟨q, k, rfl⟩ : ∃ q k, y' = q :: k := by cases y' with
            | nil => exact absurd rfl this
            | cons q k => exact ⟨q, k, rfl⟩
          rw [less_cons]; simp [less, Op.bytesLess]
        · obtain ⟨a, k, rfl, ha⟩ := hr y hy
          exact lt1 _ _ _ _ ha
      · cases hx
    · intro x hx y hy
      obtain ⟨a, k, rfl, ha⟩ := hl x hx
      rcases List.mem_append.1 hy with hy | hy
      · split at hy
        · rw [List.mem_singleton] at hy; subst hy; exact lt1 _ _ _ _ ha
        · cases hy
      · rcases List.mem_append.1 hy with hy | hy
        · obtain ⟨y', _, rfl⟩ := List.mem_map.1 hy
          exact lt1 _ _ _ _ ha
        · obtain ⟨a', k', rfl, ha'⟩ := hr y hy
          exact lt1 _ _ _ _ (by omega)
/-- rows that rise and have the same texts are the same. -/
theorem up_ext {α : Type} {f : α → Txt} : ∀ (a b : List α), (∀ x ∈ a, ∀ y ∈ b, f x = f y → x = y) → a.Pairwise (fun x y => less (f x) (f y) = true) → b.Pairwise (fun x y => less (f x) (f y) = true) → (∀ x, x ∈ a ↔ x ∈ b) → a = b
  | [], [], _, _, _, _ => rfl
  | [], y :: b, _, _, _, h => by have := (h y).2 (List.mem_cons_self ..); cases this
  | x :: a, [], _, _, _, h => by have := (h x).1 (List.mem_cons_self ..); cases this
  | x :: a, y :: b, hf, ha, hb, h => by
    have hxy : x = y := by
      rcases List.mem_cons.1 ((h x).1 (List.mem_cons_self ..)) with e | hx
      · exact e
      · rcases List.mem_cons.1 ((h y).2 (List.mem_cons_self ..)) with e | hy
        · exact e.symm
        · have h1 := (List.pairwise_cons.1 ha).1 y hy
          have h2 := (List.pairwise_cons.1 hb).1 x hx
          rw [less_asymm _ _ h1] at h2; cases h2
    subst hxy
    have na : x ∉ a := fun hx => by have := (List.pairwise_cons.1 ha).1 x hx; rw [less_irr] at this; cases this
    have nb : x ∉ b := fun hx => by have := (List.pairwise_cons.1 hb).1 x hx; rw [less_irr] at this; cases this
    rw [up_ext a b (fun p hp q hq => hf p (List.mem_cons_of_mem _ hp) q (List.mem_cons_of_mem _ hq)) (List.pairwise_cons.1 ha).2 (List.pairwise_cons.1 hb).2 fun z => by
      have := h z
      simp only [List.mem_cons] at this
      constructor
      · intro hz
        rcases this.1 (.inr hz) with e | e
        · subst e; exact absurd hz na
        · exact e
      · intro hz
        rcases this.2 (.inr hz) with e | e
        · subst e; exact absurd hz nb
        · exact e]
theorem ent_ext {t u : Tr} (ht : t.Wf) (hu : u.Wf) (h : ∀ k, t.look k = u.look k) : t.ent = u.ent := by
  refine up_ext (f := Prod.fst) _ _ ?_ (List.pairwise_map.1 (keys_up t ht)) (List.pairwise_map.1 (keys_up u hu)) ?_
  · rintro ⟨k, v⟩ h1 ⟨k', v'⟩ h2 (rfl : k = k')
    rw [mem_ent t k v ht, h] at h1
    rw [mem_ent u k v' hu, h1] at h2
    cases h2; rfl
  · rintro ⟨k, v⟩
    rw [mem_ent t k v ht, mem_ent u k v hu, h]
/-- the texts that begin with one. -/
def Tr.keys (t : Tr) : List Txt := t.ent.map Prod.fst
def Tr.pre (t : Tr) (h : Txt) : List Txt := match t.get h with
  | .nil => []
  | .node _ _ m _ _ b => (if b then [h] else []) ++ m.keys.map (h ++ ·)
def kwp (t : Tr) (h : Txt) : List Txt := if h = [] then t.keys else t.pre h
theorem keys_node (c : UInt8) (l m r : Tr) (v : Int) (b : Bool) : (Tr.node c l m r v b).keys = l.keys ++ ((if b then [[c]] else []) ++ (m.keys.map (c :: ·) ++ r.keys)) := by
  unfold Tr.keys
  simp only [Tr.ent, List.map_append, List.append_assoc, List.map_map]
  cases b <;> rfl
theorem keys_head {t : Tr} {x : Txt} (h : x ∈ t.keys) : ∃ a k, x = a :: k ∧ a ∈ t.chs := by
  obtain ⟨e, he, rfl⟩ := List.mem_map.1 h
  exact ent_head _ _ he
theorem pre_is : ∀ (t : Tr) (a : UInt8) (k : Txt), t.Wf → t.pre (a :: k) = t.keys.filter (fun x => (a :: k).isPrefixOf x)
  | .nil, _, _, _ => rfl
  | .node c l m r v b, a, k, ⟨h1, h2, h3, h4, h5⟩ => by
    have il := pre_is l a k h1
    have ir := pre_is r a k h3
    have fl : ¬ a.toNat < c.toNat → l.keys.filter (fun x => (a :: k).isPrefixOf x) = [] := fun hc => by
      rw [List.filter_eq_nil_iff]
      intro x hx h
      obtain ⟨a', k', rfl, hm⟩ := keys_head hx
      simp only [List.isPrefixOf, Bool.and_eq_true, beq_iff_eq] at h
      obtain ⟨rfl, _⟩ := h
      exact hc (h4 _ hm)
    have fr : ¬ c.toNat < a.toNat → r.keys.filter (fun x => (a :: k).isPrefixOf x) = [] := fun hc => by
      rw [List.filter_eq_nil_iff]
      intro x hx h
      obtain ⟨a', k', rfl, hm⟩ := keys_head hx
      simp only [List.isPrefixOf, Bool.and_eq_true, beq_iff_eq] at h
      obtain ⟨rfl, _⟩ := h
      exact hc (h5 _ hm)
    have fb : a ≠ c → (if b then [[c]] else []).filter (fun x => (a :: k).isPrefixOf x) = [] := fun hc => by
      cases b with
      | false => rfl
      | true => simp [List.filter_cons, List.isPrefixOf, hc]
    have fm : a ≠ c → (m.keys.map (c :: ·)).filter (fun x => (a :: k).isPrefixOf x) = [] := fun hc => by
      rw [List.filter_eq_nil_iff]
      intro x hx h
      obtain ⟨y, _, rfl⟩ := List.mem_map.1 hx
      simp only [List.isPrefixOf, Bool.and_eq_true, beq_iff_eq] at h
      exact hc h.1
    rw [keys_node, List.filter_append, List.filter_append, List.filter_append]
    unfold Tr.pre
    simp only [Tr.get]
    by_cases q1 : a.toNat < c.toNat
    · have hne : a ≠ c := fun e => by subst e; omega
      rw [if_pos q1, fb hne, fm hne, fr (by omega)]
      simp only [List.append_nil]
      exact il
    · rw [if_neg q1, fl q1]
      by_cases q2 : c.toNat < a.toNat
      · have hne : a ≠ c := fun e => by subst e; omega
        rw [if_pos q2, fb hne, fm hne]
        simp only [List.nil_append]
        exact ir
      · rw [if_neg q2, fr q2]
        have := nat_eq q1 q2
        subst this
        by_cases hk : k = []
        · subst hk
          simp only [if_true, List.nil_append, List.append_nil]
          congr 1
          · cases b <;> simp [List.filter_cons, List.isPrefixOf]
          · rw [List.filter_eq_self.2]
            · rfl
            · intro x hx
              obtain ⟨y, _, rfl⟩ := List.mem_map.1 hx
              simp [List.isPrefixOf]
        · rw [if_neg hk]
          obtain ⟨a1, k1, rfl⟩ : ∃ a1 k1, k = a1 :: k1 := by cases k with
            | nil => exact absurd rfl hk
            | cons a1 k1 => exact ⟨a1, k1, rfl⟩
          have im := pre_is m a1 k1 h2
          have e1 : (if b then [[a]] else []).filter (fun x => (a :: a1 :: k1).isPrefixOf x) = [] := by
            cases b <;> simp [List.filter_cons, List.isPrefixOf]
          have e2 : (m.keys.map (a :: ·)).filter (fun x => (a :: a1 :: k1).isPrefixOf x) = (m.keys.filter (fun x => (a1 :: k1).isPrefixOf x)).map (a :: ·) := by
            rw [List.filter_map]
            congr 1
            apply List.filter_congr
            intro x _
            simp [List.isPrefixOf]
          rw [e1, e2, ← im]
          simp only [List.nil_append, List.append_nil]
          unfold Tr.pre
          cases m.get (a1 :: k1) with
          | nil => rfl
          | node c' l' m' r' v' b' =>
            simp only [List.map_append, List.map_map]
            congr 1
            · cases b' <;> rfl
theorem kwp_is {t : Tr} (h : Txt) (hw : t.Wf) : kwp t h = t.keys.filter (fun x => h.isPrefixOf x) := by
  unfold kwp
  cases h with
  | nil => rw [if_pos rfl, List.filter_eq_self.2]; intro x _; rfl
  | cons a k => rw [if_neg (by simp)]; exact pre_is t a k hw
end Go.Proofs.Ytlpcddmcddenfaa.Tri
