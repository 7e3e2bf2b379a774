/- tries as data: put and removed texts, the order of what is told; no program in sight. -/
import Derived.Test.YtlpcddmcddenfaaTriP
namespace Go.Proofs.Ytlpcddmcddenfaa.Tri

def put0 (k : Txt) (v : Int) : Tr → Tr := fun t => t.put k v
theorem put_nil_eq (a : UInt8) (k : Txt) (v : Int) : Tr.put .nil (a :: k) v = if k = [] then .node a .nil .nil .nil v true else .node a .nil (Tr.put .nil k v) .nil 0 false := by rw [Tr.put]
theorem put_node_eq (c : UInt8) (l m r : Tr) (v0 : Int) (b : Bool) (a : UInt8) (k : Txt) (v : Int) : Tr.put (.node c l m r v0 b) (a :: k) v = if a.toNat < c.toNat then .node c (l.put (a :: k) v) m r v0 b else if c.toNat < a.toNat then .node c l m (r.put (a :: k) v) v0 b else if k = [] then .node c l m r v true else .node c l (m.put k v) r v0 b := by rw [Tr.put]
theorem look_node (c : UInt8) (l m r : Tr) (v : Int) (b : Bool) (a : UInt8) (k : Txt) : (Tr.node c l m r v b).look (a :: k) = if a.toNat < c.toNat then l.look (a :: k) else if c.toNat < a.toNat then r.look (a :: k) else if k = [] then (if b then some v else none) else m.look k := by
  unfold Tr.look
  simp only [Tr.get]
  split
  · rfl
  · split
    · rfl
    · split <;> rfl
theorem cons_ne {a a' : UInt8} {k k' : Txt} (h : a'.toNat ≠ a.toNat) : ¬ (a' :: k' = a :: k) := fun e => h (by rw [(List.cons.inj e).1])
theorem look_none_nil (k : Txt) : Tr.nil.look k = none := rfl
/-- a letter that stands on no node of a level leads nowhere. -/
theorem look_far : ∀ (t : Tr) (a : UInt8) (k : Txt), (∀ x ∈ t.chs, x ≠ a) → t.look (a :: k) = none
  | .nil, _, _, _ => rfl
  | .node c l m r v b, a, k, h => by
    rw [look_node]
    simp only [Tr.chs, List.mem_append, List.mem_cons] at h
    split
    · exact look_far l a k fun x hx => h x (.inl hx)
    · split
      · exact look_far r a k fun x hx => h x (.inr (.inr hx))
      · rename_i h1 h2
        exact absurd (nat_eq h1 h2).symm (h c (.inr (.inl rfl)))
theorem look_put_nil (v : Int) : ∀ (k k' : Txt), k ≠ [] → (Tr.put .nil k v).look k' = if k' = k then some v else none
  | [], _, h => absurd rfl h
  | a :: k, [], _ => by rw [look_nil]; simp
  | a :: k, a' :: k', _ => by
    rw [put_nil_eq]
    by_cases hk : k = []
    · subst hk
      rw [if_pos rfl, look_node]
      split
      · rename_i h1; rw [if_neg (cons_ne (by omega))]; rfl
      · split
        · rename_i h1; rw [if_neg (cons_ne (by omega))]; rfl
        · rename_i h1 h2
          have := nat_eq h1 h2
          subst this
          by_cases hk' : k' = []
          · subst hk'; simp
          · rw [if_neg hk', if_neg (fun e => hk' (List.cons.inj e).2)]; rfl
    · rw [if_neg hk, look_node]
      split
      · rename_i h1; rw [if_neg (cons_ne (by omega))]; rfl
      · split
        · rename_i h1; rw [if_neg (cons_ne (by omega))]; rfl
        · rename_i h1 h2
          have := nat_eq h1 h2
          subst this
          by_cases hk' : k' = []
          · subst hk'; rw [if_pos rfl, if_neg (fun e => hk (List.cons.inj e).2.symm)]; rfl
          · rw [if_neg hk', look_put_nil v k k' hk]
            simp
theorem look_put (v : Int) : ∀ (t : Tr) (k k' : Txt), k ≠ [] → (t.put k v).look k' = if k' = k then some v else t.look k'
  | _, [], _, h => absurd rfl h
  | .nil, a :: k, k', h => by rw [look_put_nil v _ _ h]; rfl
  | .node c l m r v0 b, a :: k, [], _ => by rw [look_nil, look_nil]; simp
  | .node c l m r v0 b, a :: k, a' :: k', _ => by
    rw [put_node_eq, look_node]
    split
    · rename_i h1
      rw [look_node, look_put v l (a :: k) (a' :: k') (by simp)]
      split
      · rfl
      · rename_i h2; rw [if_neg (cons_ne (by omega))]
    · rename_i h1
      split
      · rename_i h2
        rw [look_node, look_put v r (a :: k) (a' :: k') (by simp)]
        split
        · rename_i h3; rw [if_neg (cons_ne (by omega))]
        · split
          · rfl
          · rename_i h3 h4; rw [if_neg (cons_ne (by omega))]
      · rename_i h2
        have := nat_eq h1 h2
        subst this
        split
        · rename_i hk
          subst hk
          rw [look_node]
          split
          · rename_i h3; rw [if_neg (cons_ne (by omega))]
          · split
            · rename_i h3; rw [if_neg (cons_ne (by omega))]
            · rename_i h3 h4
              have := nat_eq h3 h4
              subst this
              by_cases hk' : k' = []
              · subst hk'; simp
              · rw [if_neg hk', if_neg (fun e => hk' (List.cons.inj e).2), if_neg hk']
        · rename_i hk
          rw [look_node]
          split
          · rename_i h3; rw [if_neg (cons_ne (by omega))]
          · split
            · rename_i h3; rw [if_neg (cons_ne (by omega))]
            · rename_i h3 h4
              have := nat_eq h3 h4
              subst this
              by_cases hk' : k' = []
              · subst hk'
                rw [if_pos rfl, if_neg (fun e => hk (List.cons.inj e).2.symm), if_pos rfl]
              · rw [if_neg hk', look_put v m k k' hk, if_neg hk']
                simp
termination_by t k => (k.length, t)
theorem chs_put (v : Int) : ∀ (t : Tr) (a : UInt8) (k : Txt), ∀ x ∈ (t.put (a :: k) v).chs, x ∈ t.chs ∨ x = a
  | .nil, a, k, x, h => by
    rw [put_nil_eq] at h
    split at h <;> · simp [Tr.chs] at h; exact .inr h
  | .node c l m r v0 b, a, k, x, h => by
    rw [put_node_eq] at h
    simp only [Tr.chs, List.mem_append, List.mem_cons]
    split at h
    · simp only [Tr.chs, List.mem_append, List.mem_cons] at h
      rcases h with h | h
      · rcases chs_put v l a k x h with h | h
        · exact .inl (.inl h)
        · exact .inr h
      · exact .inl (.inr h)
    · split at h
      · simp only [Tr.chs, List.mem_append, List.mem_cons] at h
        rcases h with h | h | h
        · exact .inl (.inl h)
        · exact .inl (.inr (.inl h))
        · rcases chs_put v r a k x h with h | h
          · exact .inl (.inr (.inr h))
          · exact .inr h
      · split at h <;> · simp only [Tr.chs, List.mem_append, List.mem_cons] at h; exact .inl h
theorem wf_put (v : Int) : ∀ (t : Tr) (k : Txt), t.Wf → (t.put k v).Wf
  | t, [], h => by cases t <;> (rw [Tr.put]; exact h)
  | .nil, a :: k, _ => by
    rw [put_nil_eq]
    split
    · exact ⟨trivial, trivial, trivial, (fun _ h => by cases h), (fun _ h => by cases h)⟩
    · exact ⟨trivial, wf_put v .nil k trivial, trivial, (fun _ h => by cases h), (fun _ h => by cases h)⟩
  | .node c l m r v0 b, a :: k, ⟨h1, h2, h3, h4, h5⟩ => by
    rw [put_node_eq]
    split
    · rename_i c1
      exact ⟨wf_put v l (a :: k) h1, h2, h3, fun x hx => (chs_put v l a k x hx).elim (h4 x) (fun e => by subst e; exact c1), h5⟩
    · split
      · rename_i c2
        exact ⟨h1, h2, wf_put v r (a :: k) h3, h4, fun x hx => (chs_put v r a k x hx).elim (h5 x) (fun e => by subst e; exact c2)⟩
      · split
        · exact ⟨h1, h2, h3, h4, h5⟩
        · exact ⟨h1, wf_put v m k h2, h3, h4, h5⟩
termination_by t k => (k.length, t)
/-! taking nodes away -/
theorem min_is : ∀ (t : Tr), t.isNil = false → t.Wf → ∃ c m r v b, t.minC = .node c .nil m r v b ∧ c ∈ t.chs ∧ m.Wf ∧ t.delMin.Wf ∧ (∀ x ∈ t.delMin.chs, c.toNat < x.toNat ∧ x ∈ t.chs) ∧ (∀ x ∈ t.chs, c.toNat ≤ x.toNat) ∧
    (∀ k, t.look (c :: k) = if k = [] then (if b then some v else none) else m.look k) ∧ (∀ a k, c.toNat < a.toNat → t.delMin.look (a :: k) = t.look (a :: k))
  | .nil, h, _ => by cases h
  | .node c .nil m r v b, _, ⟨_, h2, h3, _, h5⟩ => by
    refine ⟨c, m, r, v, b, rfl, by simp [Tr.chs], h2, h3, fun x hx => ⟨h5 x hx, by simp only [Tr.chs]; simp; exact .inr hx⟩, fun x hx => ?_, fun k => ?_, fun a k ha => ?_⟩
    · simp only [Tr.chs, List.nil_append, List.mem_cons] at hx
      rcases hx with rfl | hx
      · exact Nat.le_refl _
      · exact Nat.le_of_lt (h5 x hx)
    · rw [look_node, if_neg (Nat.lt_irrefl _), if_neg (Nat.lt_irrefl _)]
    · rw [look_node, if_neg (by omega), if_pos ha]; rfl
  | .node c (.node c1 l1 m1 r1 v1 b1) m r v b, _, ⟨h1, h2, h3, h4, h5⟩ => by
    obtain ⟨c', m', r', v', b', g1, g2, g3, g4, g5, g6, g7, g8⟩ := min_is (.node c1 l1 m1 r1 v1 b1) rfl h1
    have hc' := h4 c' g2
    refine ⟨c', m', r', v', b', g1, by simp only [Tr.chs] at g2 ⊢; simp only [List.mem_append, List.mem_cons] at g2 ⊢; exact .inl g2, g3, ?_, fun x hx => ?_, fun x hx => ?_, fun k => ?_, fun a k ha => ?_⟩
    · exact ⟨g4, h2, h3, fun x hx => h4 x (g5 x hx).2, h5⟩
    · have hx' : x ∈ (Tr.delMin (.node c1 l1 m1 r1 v1 b1)).chs ++ c :: r.chs := hx
      rw [List.mem_append, List.mem_cons] at hx'
      show _ ∧ x ∈ (Tr.node c1 l1 m1 r1 v1 b1).chs ++ c :: r.chs
      rw [List.mem_append, List.mem_cons]
      rcases hx' with h | rfl | h
      · exact ⟨(g5 x h).1, .inl (g5 x h).2⟩
      · exact ⟨hc', .inr (.inl rfl)⟩
      · exact ⟨by have := h5 x h; omega, .inr (.inr h)⟩
    · have hx' : x ∈ (Tr.node c1 l1 m1 r1 v1 b1).chs ++ c :: r.chs := hx
      rw [List.mem_append, List.mem_cons] at hx'
      rcases hx' with h | rfl | h
      · exact g6 x h
      · omega
      · have := h5 x h; omega
    · rw [look_node, if_pos hc']; exact g7 k
    · show (Tr.node c (Tr.delMin (.node c1 l1 m1 r1 v1 b1)) m r v b).look _ = _
      rw [look_node, look_node]
      split
      · exact g8 a k ha
      · rfl
theorem del_is (c : UInt8) (l r : Tr) (v : Int) (h : (Tr.node c l .nil r v false).Wf) : (Tr.del (.node c l .nil r v false)).Wf ∧ (∀ x ∈ (Tr.del (.node c l .nil r v false)).chs, x ∈ l.chs ∨ x ∈ r.chs) ∧ ∀ k, (Tr.del (.node c l .nil r v false)).look k = (Tr.node c l .nil r v false).look k := by
  obtain ⟨h1, _, h3, h4, h5⟩ := h
  cases r with
  | nil =>
    refine ⟨h1, fun x hx => .inl hx, fun k => ?_⟩
    cases k with
    | nil => rw [look_nil, look_nil]
    | cons a k =>
      show l.look (a :: k) = _
      rw [look_node]
      split
      · rfl
      · rename_i c1
        have hf : l.look (a :: k) = none := look_far l a k fun x hx e => by subst e; exact c1 (h4 _ hx)
        rw [hf]
        split
        · rfl
        · split <;> rfl
  | node c2 l2 m2 r2 v2 b2 =>
    cases l with
    | nil =>
      refine ⟨h3, fun x hx => .inr hx, fun k => ?_⟩
      cases k with
      | nil => rw [look_nil, look_nil]
      | cons a k =>
        show (Tr.node c2 l2 m2 r2 v2 b2).look (a :: k) = _
        rw [look_node c]
        have hf : ¬ c.toNat < a.toNat → (Tr.node c2 l2 m2 r2 v2 b2).look (a :: k) = none := fun hc => look_far _ a k fun x hx e => by subst e; exact hc (h5 _ hx)
        split
        · rw [hf (by omega)]; rfl
        · split
          · rfl
          · rename_i c1 c2
            rw [hf c2]
            split <;> rfl
    | node c1 l1 m1 r1 v1 b1 =>
      obtain ⟨c', m', r', v', b', g1, g2, g3, g4, g5, g6, g7, g8⟩ := min_is (.node c2 l2 m2 r2 v2 b2) rfl h3
      have e : Tr.del (.node c (.node c1 l1 m1 r1 v1 b1) .nil (.node c2 l2 m2 r2 v2 b2) v false) = .node c' (.node c1 l1 m1 r1 v1 b1) m' (Tr.delMin (.node c2 l2 m2 r2 v2 b2)) v' b' := by
        show (match (Tr.node c2 l2 m2 r2 v2 b2).minC with
          | .nil => Tr.nil
          | .node c' _ m' _ v' b' => .node c' (.node c1 l1 m1 r1 v1 b1) m' (Tr.delMin (.node c2 l2 m2 r2 v2 b2)) v' b') = _
        rw [g1]
      rw [e]
      have hcc := h5 c' g2
      generalize hL : Tr.node c1 l1 m1 r1 v1 b1 = L at *
      generalize hR : Tr.node c2 l2 m2 r2 v2 b2 = Rr at *
      refine ⟨⟨h1, g3, g4, fun x hx => by have := h4 x hx; omega, fun x hx => (g5 x hx).1⟩, fun x hx => ?_, fun k => ?_⟩
      · simp only [Tr.chs, List.mem_append, List.mem_cons] at hx
        rcases hx with h | rfl | h
        · exact .inl h
        · exact .inr g2
        · exact .inr (g5 x h).2
      · cases k with
        | nil => rw [look_nil, look_nil]
        | cons a k =>
          rw [look_node, look_node]
          have hfl : ¬ a.toNat < c.toNat → L.look (a :: k) = none := fun hc => look_far _ a k fun x hx e => by subst e; exact hc (h4 _ hx)
          have hfr : a.toNat < c'.toNat → Rr.look (a :: k) = none := fun hc => look_far _ a k fun x hx e => by subst e; have := g6 _ hx; omega
          by_cases q1 : a.toNat < c'.toNat
          · rw [if_pos q1]
            by_cases q2 : a.toNat < c.toNat
            · rw [if_pos q2]
            · rw [if_neg q2, hfl q2, hfr q1]
              split
              · rfl
              · split <;> rfl
          · rw [if_neg q1, if_neg (show ¬ a.toNat < c.toNat by omega), if_pos (show c.toNat < a.toNat by omega)]
            by_cases q2 : c'.toNat < a.toNat
            · rw [if_pos q2]; exact g8 a k q2
            · rw [if_neg q2]
              have := nat_eq q1 q2
              subst this
              exact (g7 k).symm
theorem clean_is {t : Tr} (h : t.Wf) : t.clean.Wf ∧ (∀ x ∈ t.clean.chs, x ∈ t.chs) ∧ ∀ k, t.clean.look k = t.look k := by
  unfold Tr.clean
  cases t with
  | nil => exact ⟨h, fun _ h => h, fun _ => rfl⟩
  | node c l m r v b =>
    cases b with
    | true => exact ⟨h, fun _ h => h, fun _ => rfl⟩
    | false =>
      rcases m with _ | ⟨c1, l1, m1, r1, v1, b1⟩
      · obtain ⟨h1, h2, h3⟩ := del_is c l r v h
        exact ⟨h1, fun x hx => by simp only [Tr.chs, List.mem_append, List.mem_cons]; exact (h2 x hx).imp id .inr, h3⟩
      · exact ⟨h, fun _ h => h, fun _ => rfl⟩
theorem rem_is : ∀ (t : Tr) (k : Txt), t.Wf → (t.rem k).Wf ∧ (∀ x ∈ (t.rem k).chs, x ∈ t.chs) ∧ ∀ k', (t.rem k).look k' = if k' = k then none else t.look k'
  | .nil, k, _ => ⟨trivial, fun _ h => h, fun k' => by show none = _; split <;> rfl⟩
  | .node c l m r v b, [], h => ⟨h, fun _ h => h, fun k' => by
      show (Tr.node c l m r v b).look k' = _
      split
      · rename_i e; subst e; exact look_nil _
      · rfl⟩
  | .node c l m r v b, a :: k, ⟨h1, h2, h3, h4, h5⟩ => by
    have fin : ∀ t' : Tr, t'.Wf → (∀ x ∈ t'.chs, x ∈ (Tr.node c l m r v b).chs) → (∀ k', t'.look k' = if k' = a :: k then none else (Tr.node c l m r v b).look k') → t'.clean.Wf ∧ (∀ x ∈ t'.clean.chs, x ∈ (Tr.node c l m r v b).chs) ∧ ∀ k', t'.clean.look k' = if k' = a :: k then none else (Tr.node c l m r v b).look k' := fun t' q1 q2 q3 => by
      obtain ⟨p1, p2, p3⟩ := clean_is q1
      exact ⟨p1, fun x hx => q2 x (p2 x hx), fun k' => (p3 k').trans (q3 k')⟩
    simp only [Tr.rem]
    apply fin
    · split
      · obtain ⟨p1, p2, _⟩ := rem_is l (a :: k) h1
        exact ⟨p1, h2, h3, fun x hx => h4 x (p2 x hx), h5⟩
      · split
        · obtain ⟨p1, p2, _⟩ := rem_is r (a :: k) h3
          exact ⟨h1, h2, p1, h4, fun x hx => h5 x (p2 x hx)⟩
        · split
          · exact ⟨h1, h2, h3, h4, h5⟩
          · exact ⟨h1, (rem_is m k h2).1, h3, h4, h5⟩
    · intro x hx
      split at hx
      · simp only [Tr.chs, List.mem_append, List.mem_cons] at hx ⊢
        exact hx.imp ((rem_is l (a :: k) h1).2.1 x) id
      · split at hx
        · simp only [Tr.chs, List.mem_append, List.mem_cons] at hx ⊢
          exact hx.imp id (Or.imp id ((rem_is r (a :: k) h3).2.1 x))
        · split at hx <;> exact hx
    · intro k'
      cases k' with
      | nil => rw [look_nil, look_nil]; simp
      | cons a' k' =>
        split
        · rename_i q1
          rw [look_node, look_node, (rem_is l (a :: k) h1).2.2]
          split
          · rfl
          · rename_i q2; rw [if_neg (cons_ne (by omega))]
        · rename_i q1
          split
          · rename_i q2
            rw [look_node, look_node, (rem_is r (a :: k) h3).2.2]
            split
            · rename_i q3; rw [if_neg (cons_ne (by omega))]
            · split
              · rfl
              · rename_i q3 q4; rw [if_neg (cons_ne (by omega))]
          · rename_i q2
            have := nat_eq q1 q2
            subst this
            split
            · rename_i hk
              subst hk
              rw [look_node, look_node]
              split
              · rename_i q3; rw [if_neg (cons_ne (by omega))]
              · split
                · rename_i q3; rw [if_neg (cons_ne (by omega))]
                · rename_i q3 q4
                  have := nat_eq q3 q4
                  subst this
                  by_cases hk' : k' = []
                  · subst hk'; simp
                  · rw [if_neg hk', if_neg (fun e => hk' (List.cons.inj e).2), if_neg hk']
            · rename_i hk
              rw [look_node, look_node]
              split
              · rename_i q3; rw [if_neg (cons_ne (by omega))]
              · split
                · rename_i q3; rw [if_neg (cons_ne (by omega))]
                · rename_i q3 q4
                  have := nat_eq q3 q4
                  subst this
                  by_cases hk' : k' = []
                  · subst hk'; rw [if_pos rfl, if_neg (fun e => hk (List.cons.inj e).2.symm), if_pos rfl]
                  · rw [if_neg hk', (rem_is m k h2).2.2, if_neg hk']; simp
end Go.Proofs.Ytlpcddmcddenfaa.Tri
