/- AVL trees in memory: rebalancing. -/
import Derived.Test.YtjbelfbfhcmgeaaAvl1
namespace Go.Proofs.Ytjbelfbfhcmgeaa
open Go.RowKit

def AT.Hb : AT → Prop
  | .nil => True
  | .node _ _ _ h l r => (0 ≤ h ∧ h ≤ 20000000000) ∧ l.Hb ∧ r.Hb
theorem ht_node (b : Nat) (k : Int) (v : Value) (h : Int) (l r : AT) : (AT.node b k v h l r).ht = h := rfl
theorem AT.Hb.ht : ∀ {t : AT}, t.Hb → 0 ≤ t.ht ∧ t.ht ≤ 20000000000
  | .nil, _ => by simp [AT.ht]
  | .node .., h => h.1
theorem AT.Hb.ok {t : AT} (h : t.Hb) : Hok t := by have := h.ht; unfold Hok; omega
def fixR : AT → AT
  | .node c k v h l r => if r.ht < l.ht then rotR (.node c k v h l r) else .node c k v h l r
  | t => t
def fixL : AT → AT
  | .node c k v h l r => if l.ht < r.ht then rotL (.node c k v h l r) else .node c k v h l r
  | t => t
def reb : AT → AT
  | .node b k v _ l r => if l.ht - r.ht ≤ -2 then rotL (.node b k v (htOf l r) l (fixR r)) else if 2 ≤ l.ht - r.ht then rotR (.node b k v (htOf l r) (fixL l) r) else mkN b k v l r
  | t => t
theorem fixR_ids (t : AT) : (fixR t).ids.Perm t.ids := by
  unfold fixR; split
  · split
    · exact rotR_ids _
    · exact List.Perm.refl _
  · exact List.Perm.refl _
theorem fixL_ids (t : AT) : (fixL t).ids.Perm t.ids := by
  unfold fixL; split
  · split
    · exact rotL_ids _
    · exact List.Perm.refl _
  · exact List.Perm.refl _
theorem reb_ids (t : AT) : (reb t).ids.Perm t.ids := by
  unfold reb; split
  · rename_i b k v h l r
    split
    · refine (rotL_ids _).trans ?_
      simp only [AT.ids]
      exact List.Perm.cons _ (List.Perm.append_left _ (fixR_ids r))
    · split
      · refine (rotR_ids _).trans ?_
        simp only [AT.ids]
        exact List.Perm.cons _ (List.Perm.append_right _ (fixL_ids l))
      · exact List.Perm.refl _
  · exact List.Perm.refl _
theorem getHeight_quiet (t : AT) (w : World) (hi : t.In w) (n : Nat) : Calls Try.prog 68 #[.pointer t.ptr] (w.drewN n) fun e w' => e = .returned (.int .i64 t.ht) ∧ ∃ m, w' = w.drewN m :=
  (getHeight_calls t _ rfl _ (hi.drewN n).top).mono (fun _ _ h => ⟨h.1, n, h.2.symm⟩)
theorem getHeight_quietN {b : Nat} {k h : Int} {v : Value} {l r : AT} (w : World) (hi : (AT.node b k v h l r).In w) (n : Nat) : Calls Try.prog 68 #[.pointer (some ⟨b, 0, none⟩)] (w.drewN n) fun e w' => e = .returned (.int .i64 h) ∧ ∃ m, w' = w.drewN m := getHeight_quiet (.node b k v h l r) w hi n
set_option maxHeartbeats 1000000 in
theorem reb_mid (b : Nat) (k h : Int) (v : Value) (l r : AT) (w : World) (hi : (AT.node b k v h l r).In w) (hn : (AT.node b k v h l r).ids.Nodup) (hl : l.Hb) (hr : r.Hb) (c1 : ¬ l.ht - r.ht ≤ -2) (c2 : ¬ 2 ≤ l.ht - r.ht) :
    Calls Try.prog 71 #[.pointer (some ⟨b, 0, none⟩)] w fun e w' => e = .returned (.pointer (reb (.node b k v h l r)).ptr) ∧ Turned w w' (.node b k v h l r) (reb (.node b k v h l r)) := by
  have e : reb (.node b k v h l r) = mkN b k v l r := by simp only [reb]; rw [if_neg c1, if_neg c2]
  rw [e]
  have hl0 := hl.ht
  have hr0 := hr.ht
  obtain ⟨hb, il, ir⟩ := hi
  have nb : b ∉ l.ids ∧ b ∉ r.ids := by simp only [AT.ids] at hn; grind
  have F1 : Fr (AT.node b k v h l r).ids w (w.setCell ⟨b, 2, none⟩ (.int .i64 (htOf l r))) := Fr.setCell w b 2 _ (by simp [AT.ids])
  go_enter Try.func71, Try.ntmps71
  go_wp2_with fail
  refine (recalc_calls b k v h l r w hb il ir (by omega) (by omega)).mono ?_
  rintro e w1 ⟨rfl, n, rfl⟩
  have B1 := (set_h hb (htOf l r)).drewN n
  have L1 := (il.set 2 (.int .i64 (htOf l r)) nb.1).drewN n
  have R1 := (ir.set 2 (.int .i64 (htOf l r)) nb.2).drewN n
  have F1' := F1.comp (Fr.drewN (AT.node b k v h l r).ids (w.setCell ⟨b, 2, none⟩ (.int .i64 (htOf l r))) n)
  obtain ⟨⟨p0, p1, p2, p3, p4⟩, pf⟩ := node_cells B1
  clear hb il ir F1 hn
  generalize (w.setCell ⟨b, 2, none⟩ (.int .i64 (htOf l r))).drewN n = w1 at *
  have d1 : decide (l.ht - r.ht ≤ -2) = false := decide_eq_false (by omega)
  have d2 : decide (l.ht - r.ht ≥ 2) = false := decide_eq_false (by omega)
  have d3 : decide (2 ≤ l.ht - r.ht) = false := decide_eq_false (by omega)
  go_wp2_with fail
  go_quiet ((first | (go_at_call_of 68 (l.ptr); exact getHeight_quiet l w1 L1 _) | (go_at_call_of 68 (r.ptr); exact getHeight_quiet r w1 R1 _)))
  go_wp2
  go_ret
  exact ⟨rfl, ⟨B1.drewN _, L1.drewN _, R1.drewN _⟩, F1'.comp (Fr.drewN _ _ _)⟩
set_option maxHeartbeats 1000000 in
theorem reb_left0 (b c : Nat) (k h k2 h2 : Int) (v v2 : Value) (l l2 r2 : AT) (w : World) (hi : (AT.node b k v h l (AT.node c k2 v2 h2 l2 r2)).In w) (hn : (AT.node b k v h l (AT.node c k2 v2 h2 l2 r2)).ids.Nodup) (hl : l.Hb) (hs : (AT.node c k2 v2 h2 l2 r2).Hb) (c1 : l.ht - h2 ≤ -2) (c2 : ¬ r2.ht < l2.ht) :
    Calls Try.prog 71 #[.pointer (some ⟨b, 0, none⟩)] w fun e w' => e = .returned (.pointer (reb (AT.node b k v h l (AT.node c k2 v2 h2 l2 r2))).ptr) ∧ Turned w w' (AT.node b k v h l (AT.node c k2 v2 h2 l2 r2)) (reb (AT.node b k v h l (AT.node c k2 v2 h2 l2 r2))) := by
  have e : reb (AT.node b k v h l (AT.node c k2 v2 h2 l2 r2)) = rotL (.node b k v (htOf l (AT.node c k2 v2 h2 l2 r2)) l (AT.node c k2 v2 h2 l2 r2)) := (if_pos (show l.ht - (AT.node c k2 v2 h2 l2 r2).ht ≤ -2 from c1)).trans (congrArg (fun z => rotL (.node b k v (htOf l (AT.node c k2 v2 h2 l2 r2)) l z)) (if_neg c2))
  rw [e]
  have ho0 := hl.ht
  have hs0 := hs.ht
  simp only [ht_node] at hs0
  have hl20 := hs.2.1.ht
  have hr20 := hs.2.2.ht
  obtain ⟨hb, il, ir⟩ := hi
  have nb : b ∉ l.ids ∧ b ∉ (AT.node c k2 v2 h2 l2 r2).ids := by simp only [AT.ids] at hn ⊢; grind
  have F1 : Fr (AT.node b k v h l (AT.node c k2 v2 h2 l2 r2)).ids w (w.setCell ⟨b, 2, none⟩ (.int .i64 (htOf l (AT.node c k2 v2 h2 l2 r2)))) := Fr.setCell w b 2 _ (by simp [AT.ids])
  go_enter Try.func71, Try.ntmps71
  go_wp2_with fail
  refine (recalc_calls b k v h _ _ w hb il ir (by simp only [ht_node]; omega) (by simp only [ht_node]; omega)).mono ?_
  rintro e w1 ⟨rfl, n, rfl⟩
  have B1 := (set_h hb (htOf l (AT.node c k2 v2 h2 l2 r2))).drewN n
  have L1 := (il.set 2 (.int .i64 (htOf l (AT.node c k2 v2 h2 l2 r2))) nb.1).drewN n
  have R1 := (ir.set 2 (.int .i64 (htOf l (AT.node c k2 v2 h2 l2 r2))) nb.2).drewN n
  have F1' := F1.comp (Fr.drewN (AT.node b k v h l (AT.node c k2 v2 h2 l2 r2)).ids (w.setCell ⟨b, 2, none⟩ (.int .i64 (htOf l (AT.node c k2 v2 h2 l2 r2)))) n)
  obtain ⟨⟨p0, p1, p2, p3, p4⟩, pf⟩ := node_cells B1
  obtain ⟨⟨q0, q1, q2, q3, q4⟩, qf⟩ := node_cells R1.1
  simp only [AT.ptr] at p4
  clear hb il ir F1
  generalize (w.setCell ⟨b, 2, none⟩ (.int .i64 (htOf l (AT.node c k2 v2 h2 l2 r2)))).drewN n = w1 at *
  have hw : wrap64 (l.ht - h2) = l.ht - h2 := by unfold wrap64; omega
  have d1 : decide (l.ht - h2 ≤ -2) = true := by simp; omega
  have d2 : decide (l2.ht > r2.ht) = false := by simp; omega
  have d3 : decide (r2.ht < l2.ht) = false := by simp; omega
  go_wp2_with fail
  go_quiet ((first | (go_at_call_of 68 (l.ptr); exact getHeight_quiet l w1 L1 _) | (go_at_call 68; exact getHeight_quietN w1 R1 _)))
  have B2 := B1.drewN nq
  have L2 := L1.drewN nq
  have R2 := R1.drewN nq
  have F2 := F1'.comp (Fr.drewN _ _ nq)
  clear p0 p1 p2 p3 p4 pf q0 q1 q2 q3 q4 qf
  obtain ⟨⟨p0, p1, p2, p3, p4⟩, pf⟩ := node_cells B2
  obtain ⟨⟨q0, q1, q2, q3, q4⟩, qf⟩ := node_cells R2.1
  simp only [AT.ptr] at p4
  clear B1 L1 R1 F1'
  generalize w1.drewN nq = w2 at *
  go_wp2_with fail
  go_quiet ((first | (go_at_call_of 68 (l2.ptr); exact getHeight_quiet l2 w2 R2.2.1 _) | (go_at_call 68; exact getHeight_quiet r2 w2 R2.2.2 _)))
  go_wp2_with fail
  refine (rotL_calls b c k k2 _ h2 v v2 l l2 r2 _ ⟨B2.drewN nq, L2.drewN nq, R2.drewN nq⟩ hn hl.ok hs.2.1.ok hs.2.2.ok).mono ?_
  rintro e w3 ⟨rfl, ht⟩
  go_wp2
  go_ret
  exact ⟨rfl, ht.lies, F2.comp ((Fr.drewN _ _ nq).comp ht.frame)⟩
set_option maxHeartbeats 1000000 in
theorem reb_left1 (b c d : Nat) (k h k2 h2 k3 h3 : Int) (v v2 v3 : Value) (l l3 r3 r2 : AT) (w : World) (hi : (AT.node b k v h l (AT.node c k2 v2 h2 (.node d k3 v3 h3 l3 r3) r2)).In w) (hn : (AT.node b k v h l (AT.node c k2 v2 h2 (.node d k3 v3 h3 l3 r3) r2)).ids.Nodup) (hl : l.Hb) (hs : (AT.node c k2 v2 h2 (.node d k3 v3 h3 l3 r3) r2).Hb) (c1 : l.ht - h2 ≤ -2) (c2 : r2.ht < h3) :
    Calls Try.prog 71 #[.pointer (some ⟨b, 0, none⟩)] w fun e w' => e = .returned (.pointer (reb (AT.node b k v h l (AT.node c k2 v2 h2 (.node d k3 v3 h3 l3 r3) r2))).ptr) ∧ Turned w w' (AT.node b k v h l (AT.node c k2 v2 h2 (.node d k3 v3 h3 l3 r3) r2)) (reb (AT.node b k v h l (AT.node c k2 v2 h2 (.node d k3 v3 h3 l3 r3) r2))) := by
  have e : reb (AT.node b k v h l (AT.node c k2 v2 h2 (.node d k3 v3 h3 l3 r3) r2)) = rotL (.node b k v (htOf l (AT.node c k2 v2 h2 (.node d k3 v3 h3 l3 r3) r2)) l (rotR (AT.node c k2 v2 h2 (.node d k3 v3 h3 l3 r3) r2))) := (if_pos (show l.ht - (AT.node c k2 v2 h2 (.node d k3 v3 h3 l3 r3) r2).ht ≤ -2 from c1)).trans (congrArg (fun z => rotL (.node b k v (htOf l (AT.node c k2 v2 h2 (.node d k3 v3 h3 l3 r3) r2)) l z)) (if_pos c2))
  rw [e]
  have ho0 := hl.ht
  have hs0 := hs.ht
  simp only [ht_node] at hs0
  have hl20 := hs.2.1.ht
  have hr20 := hs.2.2.ht
  simp only [ht_node] at hl20 hr20
  obtain ⟨hb, il, ir⟩ := hi
  have nb : b ∉ l.ids ∧ b ∉ (AT.node c k2 v2 h2 (.node d k3 v3 h3 l3 r3) r2).ids := by simp only [AT.ids] at hn ⊢; grind
  have F1 : Fr (AT.node b k v h l (AT.node c k2 v2 h2 (.node d k3 v3 h3 l3 r3) r2)).ids w (w.setCell ⟨b, 2, none⟩ (.int .i64 (htOf l (AT.node c k2 v2 h2 (.node d k3 v3 h3 l3 r3) r2)))) := Fr.setCell w b 2 _ (by simp [AT.ids])
  go_enter Try.func71, Try.ntmps71
  go_wp2_with fail
  refine (recalc_calls b k v h _ _ w hb il ir (by simp only [ht_node]; omega) (by simp only [ht_node]; omega)).mono ?_
  rintro e w1 ⟨rfl, n, rfl⟩
  have B1 := (set_h hb (htOf l (AT.node c k2 v2 h2 (.node d k3 v3 h3 l3 r3) r2))).drewN n
  have L1 := (il.set 2 (.int .i64 (htOf l (AT.node c k2 v2 h2 (.node d k3 v3 h3 l3 r3) r2))) nb.1).drewN n
  have R1 := (ir.set 2 (.int .i64 (htOf l (AT.node c k2 v2 h2 (.node d k3 v3 h3 l3 r3) r2))) nb.2).drewN n
  have F1' := F1.comp (Fr.drewN (AT.node b k v h l (AT.node c k2 v2 h2 (.node d k3 v3 h3 l3 r3) r2)).ids (w.setCell ⟨b, 2, none⟩ (.int .i64 (htOf l (AT.node c k2 v2 h2 (.node d k3 v3 h3 l3 r3) r2)))) n)
  obtain ⟨⟨p0, p1, p2, p3, p4⟩, pf⟩ := node_cells B1
  obtain ⟨⟨q0, q1, q2, q3, q4⟩, qf⟩ := node_cells R1.1
  simp only [AT.ptr] at p4
  simp only [AT.ptr] at q3
  clear hb il ir F1
  generalize (w.setCell ⟨b, 2, none⟩ (.int .i64 (htOf l (AT.node c k2 v2 h2 (.node d k3 v3 h3 l3 r3) r2)))).drewN n = w1 at *
  have hw : wrap64 (l.ht - h2) = l.ht - h2 := by unfold wrap64; omega
  have d1 : decide (l.ht - h2 ≤ -2) = true := by simp; omega
  go_wp2_with fail
  go_quiet ((first | (go_at_call_of 68 (l.ptr); exact getHeight_quiet l w1 L1 _) | (go_at_call 68; exact getHeight_quietN w1 R1 _)))
  have B2 := B1.drewN nq
  have L2 := L1.drewN nq
  have R2 := R1.drewN nq
  have F2 := F1'.comp (Fr.drewN _ _ nq)
  clear p0 p1 p2 p3 p4 pf q0 q1 q2 q3 q4 qf
  obtain ⟨⟨p0, p1, p2, p3, p4⟩, pf⟩ := node_cells B2
  obtain ⟨⟨q0, q1, q2, q3, q4⟩, qf⟩ := node_cells R2.1
  simp only [AT.ptr] at p4
  simp only [AT.ptr] at q3
  clear B1 L1 R1 F1'
  generalize w1.drewN nq = w2 at *
  go_wp2_with fail
  go_quiet ((first | (go_at_call_of 68 (r2.ptr); exact getHeight_quiet r2 w2 R2.2.2 _) | (go_at_call 68; exact getHeight_quietN w2 R2.2.1 _)))
  have B3 := B2.drewN nq
  have L3 := L2.drewN nq
  have R3 := R2.drewN nq
  have F3 := F2.comp (Fr.drewN _ _ nq)
  clear p0 p1 p2 p3 p4 pf q0 q1 q2 q3 q4 qf
  obtain ⟨⟨p0, p1, p2, p3, p4⟩, pf⟩ := node_cells B3
  simp only [AT.ptr] at p4
  clear B2 L2 R2 F2
  generalize w2.drewN nq = w3 at *
  have hn2 : (AT.node c k2 v2 h2 (.node d k3 v3 h3 l3 r3) r2).ids.Nodup := by simp only [AT.ids] at hn ⊢; grind
  have hdis : ∀ x ∈ l.ids, x ∉ (AT.node c k2 v2 h2 (.node d k3 v3 h3 l3 r3) r2).ids := by simp only [AT.ids] at hn ⊢; grind
  have hsub : ∀ x ∈ (AT.node c k2 v2 h2 (.node d k3 v3 h3 l3 r3) r2).ids, x ∈ (AT.node b k v h l (AT.node c k2 v2 h2 (.node d k3 v3 h3 l3 r3) r2)).ids ∨ w3.heap.size ≤ x := by simp only [AT.ids]; grind
  go_wp2_with fail
  refine (rotR_calls c d k2 k3 h2 h3 v2 v3 l3 r3 r2 w3 R3 hn2 hs.2.2.ok hs.2.1.2.1.ok hs.2.1.2.2.ok).mono ?_
  rintro e w4 ⟨rfl, ht⟩
  have B4 := B3.fr ht.frame nb.2
  have O4 := L3.fr ht.frame hdis
  have F4 := F3.comp (ht.frame.mono hsub)
  have hi4 := ht.lies
  have hp := (rotR_ids (AT.node c k2 v2 h2 (.node d k3 v3 h3 l3 r3) r2))
  have nb4 : b ∉ (rotR (AT.node c k2 v2 h2 (.node d k3 v3 h3 l3 r3) r2)).ids := fun hx => nb.2 (hp.mem_iff.1 hx)
  clear p0 p1 p2 p3 p4 pf
  obtain ⟨⟨p0, p1, p2, p3, p4⟩, pf⟩ := node_cells B4
  have B5 := set_r B4 (rotR (AT.node c k2 v2 h2 (.node d k3 v3 h3 l3 r3) r2)) (some ⟨d, 0, none⟩) rfl
  have O5 := O4.set 4 (.pointer (some ⟨d, 0, none⟩)) nb.1
  have S5 := hi4.set 4 (.pointer (some ⟨d, 0, none⟩)) nb4
  have F5 := F4.comp (Fr.setCell (S := (AT.node b k v h l (AT.node c k2 v2 h2 (.node d k3 v3 h3 l3 r3) r2)).ids) w4 b 4 (.pointer (some ⟨d, 0, none⟩)) (by simp [AT.ids]))
  have hn5 : (AT.node b k v (htOf l (AT.node c k2 v2 h2 (.node d k3 v3 h3 l3 r3) r2)) l (rotR (AT.node c k2 v2 h2 (.node d k3 v3 h3 l3 r3) r2))).ids.Nodup := by
    refine (List.Perm.nodup_iff ?_).2 hn
    simp only [AT.ids]
    exact List.Perm.cons _ (List.Perm.append_left _ hp)
  have hsub5 : ∀ x ∈ (AT.node b k v (htOf l (AT.node c k2 v2 h2 (.node d k3 v3 h3 l3 r3) r2)) l (rotR (AT.node c k2 v2 h2 (.node d k3 v3 h3 l3 r3) r2))).ids, x ∈ (AT.node b k v h l (AT.node c k2 v2 h2 (.node d k3 v3 h3 l3 r3) r2)).ids ∨ w.heap.size ≤ x := by
    intro x hx
    refine Or.inl ((List.Perm.mem_iff ?_).1 hx)
    simp only [AT.ids]
    exact List.Perm.cons _ (List.Perm.append_left _ hp)
  clear hi4 ht B4 O4 F4 F3 hdis hsub hn hp
  go_wp2_with fail
  generalize (w4.setCell ⟨b, 4, none⟩ (.pointer (some ⟨d, 0, none⟩))) = w5 at *
  refine (rotL_calls b d k k3 _ _ v v3 l l3 (mkN c k2 v2 r3 r2) _ ⟨B5, O5, S5⟩ hn5 hl.ok hs.2.1.2.1.ok (by have q1 := hs.2.1.2.2.ht; have q2 := hs.2.2.ht; simp only [Hok, mkN, ht_node, htOf]; omega)).mono ?_
  rintro e w6 ⟨rfl, ht⟩
  go_wp2
  go_ret
  exact ⟨rfl, ht.lies, F5.trans ht.frame (fun _ h => .inl h) hsub5⟩
set_option maxHeartbeats 1000000 in
theorem reb_right0 (b c : Nat) (k h k2 h2 : Int) (v v2 : Value) (l2 r2 r : AT) (w : World) (hi : (AT.node b k v h (AT.node c k2 v2 h2 l2 r2) r).In w) (hn : (AT.node b k v h (AT.node c k2 v2 h2 l2 r2) r).ids.Nodup) (hr : r.Hb) (hs : (AT.node c k2 v2 h2 l2 r2).Hb) (c1 : 2 ≤ h2 - r.ht) (c2 : ¬ l2.ht < r2.ht) :
    Calls Try.prog 71 #[.pointer (some ⟨b, 0, none⟩)] w fun e w' => e = .returned (.pointer (reb (AT.node b k v h (AT.node c k2 v2 h2 l2 r2) r)).ptr) ∧ Turned w w' (AT.node b k v h (AT.node c k2 v2 h2 l2 r2) r) (reb (AT.node b k v h (AT.node c k2 v2 h2 l2 r2) r)) := by
  have e : reb (AT.node b k v h (AT.node c k2 v2 h2 l2 r2) r) = rotR (.node b k v (htOf (AT.node c k2 v2 h2 l2 r2) r) (AT.node c k2 v2 h2 l2 r2) r) := (if_neg (show ¬ (AT.node c k2 v2 h2 l2 r2).ht - r.ht ≤ -2 by rw [ht_node]; omega)).trans ((if_pos (show 2 ≤ (AT.node c k2 v2 h2 l2 r2).ht - r.ht from c1)).trans (congrArg (fun z => rotR (.node b k v (htOf (AT.node c k2 v2 h2 l2 r2) r) z r)) (if_neg c2)))
  rw [e]
  have ho0 := hr.ht
  have hs0 := hs.ht
  simp only [ht_node] at hs0
  have hl20 := hs.2.1.ht
  have hr20 := hs.2.2.ht
  obtain ⟨hb, il, ir⟩ := hi
  have nb : b ∉ r.ids ∧ b ∉ (AT.node c k2 v2 h2 l2 r2).ids := by simp only [AT.ids] at hn ⊢; grind
  have F1 : Fr (AT.node b k v h (AT.node c k2 v2 h2 l2 r2) r).ids w (w.setCell ⟨b, 2, none⟩ (.int .i64 (htOf (AT.node c k2 v2 h2 l2 r2) r))) := Fr.setCell w b 2 _ (by simp [AT.ids])
  go_enter Try.func71, Try.ntmps71
  go_wp2_with fail
  refine (recalc_calls b k v h _ _ w hb il ir (by simp only [ht_node]; omega) (by simp only [ht_node]; omega)).mono ?_
  rintro e w1 ⟨rfl, n, rfl⟩
  have B1 := (set_h hb (htOf (AT.node c k2 v2 h2 l2 r2) r)).drewN n
  have L1 := (il.set 2 (.int .i64 (htOf (AT.node c k2 v2 h2 l2 r2) r)) nb.2).drewN n
  have R1 := (ir.set 2 (.int .i64 (htOf (AT.node c k2 v2 h2 l2 r2) r)) nb.1).drewN n
  have F1' := F1.comp (Fr.drewN (AT.node b k v h (AT.node c k2 v2 h2 l2 r2) r).ids (w.setCell ⟨b, 2, none⟩ (.int .i64 (htOf (AT.node c k2 v2 h2 l2 r2) r))) n)
  obtain ⟨⟨p0, p1, p2, p3, p4⟩, pf⟩ := node_cells B1
  obtain ⟨⟨q0, q1, q2, q3, q4⟩, qf⟩ := node_cells L1.1
  simp only [AT.ptr] at p3
  clear hb il ir F1
  generalize (w.setCell ⟨b, 2, none⟩ (.int .i64 (htOf (AT.node c k2 v2 h2 l2 r2) r))).drewN n = w1 at *
  have hw : wrap64 (h2 - r.ht) = h2 - r.ht := by unfold wrap64; omega
  have d1 : decide (h2 - r.ht ≤ -2) = false := by simp; omega
  have d4 : decide (h2 - r.ht ≥ 2) = true := by simp; omega
  have d5 : decide (2 ≤ h2 - r.ht) = true := by simp; omega
  have d2 : decide (r2.ht > l2.ht) = false := by simp; omega
  have d3 : decide (l2.ht < r2.ht) = false := by simp; omega
  go_wp2_with fail
  go_quiet ((first | (go_at_call_of 68 (r.ptr); exact getHeight_quiet r w1 R1 _) | (go_at_call 68; exact getHeight_quietN w1 L1 _)))
  have B2 := B1.drewN nq
  have L2 := L1.drewN nq
  have R2 := R1.drewN nq
  have F2 := F1'.comp (Fr.drewN _ _ nq)
  clear p0 p1 p2 p3 p4 pf q0 q1 q2 q3 q4 qf
  obtain ⟨⟨p0, p1, p2, p3, p4⟩, pf⟩ := node_cells B2
  obtain ⟨⟨q0, q1, q2, q3, q4⟩, qf⟩ := node_cells L2.1
  simp only [AT.ptr] at p3
  clear B1 L1 R1 F1'
  generalize w1.drewN nq = w2 at *
  go_wp2_with fail
  go_quiet ((first | (go_at_call_of 68 (l2.ptr); exact getHeight_quiet l2 w2 L2.2.1 _) | (go_at_call 68; exact getHeight_quiet r2 w2 L2.2.2 _)))
  go_wp2_with fail
  refine (rotR_calls b c k k2 _ h2 v v2 l2 r2 r _ ⟨B2.drewN nq, L2.drewN nq, R2.drewN nq⟩ hn hr.ok hs.2.1.ok hs.2.2.ok).mono ?_
  rintro e w3 ⟨rfl, ht⟩
  go_wp2
  go_ret
  exact ⟨rfl, ht.lies, F2.comp ((Fr.drewN _ _ nq).comp ht.frame)⟩
set_option maxHeartbeats 1000000 in
theorem reb_right1 (b c d : Nat) (k h k2 h2 k3 h3 : Int) (v v2 v3 : Value) (l2 l3 r3 r : AT) (w : World) (hi : (AT.node b k v h (AT.node c k2 v2 h2 l2 (.node d k3 v3 h3 l3 r3)) r).In w) (hn : (AT.node b k v h (AT.node c k2 v2 h2 l2 (.node d k3 v3 h3 l3 r3)) r).ids.Nodup) (hr : r.Hb) (hs : (AT.node c k2 v2 h2 l2 (.node d k3 v3 h3 l3 r3)).Hb) (c1 : 2 ≤ h2 - r.ht) (c2 : l2.ht < h3) :
    Calls Try.prog 71 #[.pointer (some ⟨b, 0, none⟩)] w fun e w' => e = .returned (.pointer (reb (AT.node b k v h (AT.node c k2 v2 h2 l2 (.node d k3 v3 h3 l3 r3)) r)).ptr) ∧ Turned w w' (AT.node b k v h (AT.node c k2 v2 h2 l2 (.node d k3 v3 h3 l3 r3)) r) (reb (AT.node b k v h (AT.node c k2 v2 h2 l2 (.node d k3 v3 h3 l3 r3)) r)) := by
  have e : reb (AT.node b k v h (AT.node c k2 v2 h2 l2 (.node d k3 v3 h3 l3 r3)) r) = rotR (.node b k v (htOf (AT.node c k2 v2 h2 l2 (.node d k3 v3 h3 l3 r3)) r) (rotL (AT.node c k2 v2 h2 l2 (.node d k3 v3 h3 l3 r3))) r) := (if_neg (show ¬ (AT.node c k2 v2 h2 l2 (.node d k3 v3 h3 l3 r3)).ht - r.ht ≤ -2 by rw [ht_node]; omega)).trans ((if_pos (show 2 ≤ (AT.node c k2 v2 h2 l2 (.node d k3 v3 h3 l3 r3)).ht - r.ht from c1)).trans (congrArg (fun z => rotR (.node b k v (htOf (AT.node c k2 v2 h2 l2 (.node d k3 v3 h3 l3 r3)) r) z r)) (if_pos c2)))
  rw [e]
  have ho0 := hr.ht
  have hs0 := hs.ht
  simp only [ht_node] at hs0
  have hl20 := hs.2.1.ht
  have hr20 := hs.2.2.ht
  simp only [ht_node] at hl20 hr20
  obtain ⟨hb, il, ir⟩ := hi
  have nb : b ∉ r.ids ∧ b ∉ (AT.node c k2 v2 h2 l2 (.node d k3 v3 h3 l3 r3)).ids := by simp only [AT.ids] at hn ⊢; grind
  have F1 : Fr (AT.node b k v h (AT.node c k2 v2 h2 l2 (.node d k3 v3 h3 l3 r3)) r).ids w (w.setCell ⟨b, 2, none⟩ (.int .i64 (htOf (AT.node c k2 v2 h2 l2 (.node d k3 v3 h3 l3 r3)) r))) := Fr.setCell w b 2 _ (by simp [AT.ids])
  go_enter Try.func71, Try.ntmps71
  go_wp2_with fail
  refine (recalc_calls b k v h _ _ w hb il ir (by simp only [ht_node]; omega) (by simp only [ht_node]; omega)).mono ?_
  rintro e w1 ⟨rfl, n, rfl⟩
  have B1 := (set_h hb (htOf (AT.node c k2 v2 h2 l2 (.node d k3 v3 h3 l3 r3)) r)).drewN n
  have L1 := (il.set 2 (.int .i64 (htOf (AT.node c k2 v2 h2 l2 (.node d k3 v3 h3 l3 r3)) r)) nb.2).drewN n
  have R1 := (ir.set 2 (.int .i64 (htOf (AT.node c k2 v2 h2 l2 (.node d k3 v3 h3 l3 r3)) r)) nb.1).drewN n
  have F1' := F1.comp (Fr.drewN (AT.node b k v h (AT.node c k2 v2 h2 l2 (.node d k3 v3 h3 l3 r3)) r).ids (w.setCell ⟨b, 2, none⟩ (.int .i64 (htOf (AT.node c k2 v2 h2 l2 (.node d k3 v3 h3 l3 r3)) r))) n)
  obtain ⟨⟨p0, p1, p2, p3, p4⟩, pf⟩ := node_cells B1
  obtain ⟨⟨q0, q1, q2, q3, q4⟩, qf⟩ := node_cells L1.1
  simp only [AT.ptr] at p3
  simp only [AT.ptr] at q4
  clear hb il ir F1
  generalize (w.setCell ⟨b, 2, none⟩ (.int .i64 (htOf (AT.node c k2 v2 h2 l2 (.node d k3 v3 h3 l3 r3)) r))).drewN n = w1 at *
  have hw : wrap64 (h2 - r.ht) = h2 - r.ht := by unfold wrap64; omega
  have d1 : decide (h2 - r.ht ≤ -2) = false := by simp; omega
  have d4 : decide (h2 - r.ht ≥ 2) = true := by simp; omega
  have d5 : decide (2 ≤ h2 - r.ht) = true := by simp; omega
  go_wp2_with fail
  go_quiet ((first | (go_at_call_of 68 (r.ptr); exact getHeight_quiet r w1 R1 _) | (go_at_call 68; exact getHeight_quietN w1 L1 _)))
  have B2 := B1.drewN nq
  have L2 := L1.drewN nq
  have R2 := R1.drewN nq
  have F2 := F1'.comp (Fr.drewN _ _ nq)
  clear p0 p1 p2 p3 p4 pf q0 q1 q2 q3 q4 qf
  obtain ⟨⟨p0, p1, p2, p3, p4⟩, pf⟩ := node_cells B2
  obtain ⟨⟨q0, q1, q2, q3, q4⟩, qf⟩ := node_cells L2.1
  simp only [AT.ptr] at p3
  simp only [AT.ptr] at q4
  clear B1 L1 R1 F1'
  generalize w1.drewN nq = w2 at *
  go_wp2_with fail
  go_quiet ((first | (go_at_call_of 68 (l2.ptr); exact getHeight_quiet l2 w2 L2.2.1 _) | (go_at_call 68; exact getHeight_quietN w2 L2.2.2 _)))
  have B3 := B2.drewN nq
  have L3 := L2.drewN nq
  have R3 := R2.drewN nq
  have F3 := F2.comp (Fr.drewN _ _ nq)
  clear p0 p1 p2 p3 p4 pf q0 q1 q2 q3 q4 qf
  obtain ⟨⟨p0, p1, p2, p3, p4⟩, pf⟩ := node_cells B3
  simp only [AT.ptr] at p3
  clear B2 L2 R2 F2
  generalize w2.drewN nq = w3 at *
  have hn2 : (AT.node c k2 v2 h2 l2 (.node d k3 v3 h3 l3 r3)).ids.Nodup := by simp only [AT.ids] at hn ⊢; grind
  have hdis : ∀ x ∈ r.ids, x ∉ (AT.node c k2 v2 h2 l2 (.node d k3 v3 h3 l3 r3)).ids := by simp only [AT.ids] at hn ⊢; grind
  have hsub : ∀ x ∈ (AT.node c k2 v2 h2 l2 (.node d k3 v3 h3 l3 r3)).ids, x ∈ (AT.node b k v h (AT.node c k2 v2 h2 l2 (.node d k3 v3 h3 l3 r3)) r).ids ∨ w3.heap.size ≤ x := by simp only [AT.ids]; grind
  go_wp2_with fail
  refine (rotL_calls c d k2 k3 h2 h3 v2 v3 l2 l3 r3 w3 L3 hn2 hs.2.1.ok hs.2.2.2.1.ok hs.2.2.2.2.ok).mono ?_
  rintro e w4 ⟨rfl, ht⟩
  have B4 := B3.fr ht.frame nb.2
  have O4 := R3.fr ht.frame hdis
  have F4 := F3.comp (ht.frame.mono hsub)
  have hi4 := ht.lies
  have hp := (rotL_ids (AT.node c k2 v2 h2 l2 (.node d k3 v3 h3 l3 r3)))
  have nb4 : b ∉ (rotL (AT.node c k2 v2 h2 l2 (.node d k3 v3 h3 l3 r3))).ids := fun hx => nb.2 (hp.mem_iff.1 hx)
  clear p0 p1 p2 p3 p4 pf
  obtain ⟨⟨p0, p1, p2, p3, p4⟩, pf⟩ := node_cells B4
  have B5 := set_l B4 (rotL (AT.node c k2 v2 h2 l2 (.node d k3 v3 h3 l3 r3))) (some ⟨d, 0, none⟩) rfl
  have O5 := O4.set 3 (.pointer (some ⟨d, 0, none⟩)) nb.1
  have S5 := hi4.set 3 (.pointer (some ⟨d, 0, none⟩)) nb4
  have F5 := F4.comp (Fr.setCell (S := (AT.node b k v h (AT.node c k2 v2 h2 l2 (.node d k3 v3 h3 l3 r3)) r).ids) w4 b 3 (.pointer (some ⟨d, 0, none⟩)) (by simp [AT.ids]))
  have hn5 : (AT.node b k v (htOf (AT.node c k2 v2 h2 l2 (.node d k3 v3 h3 l3 r3)) r) (rotL (AT.node c k2 v2 h2 l2 (.node d k3 v3 h3 l3 r3))) r).ids.Nodup := by
    refine (List.Perm.nodup_iff ?_).2 hn
    simp only [AT.ids]
    exact List.Perm.cons _ (List.Perm.append_right _ hp)
  have hsub5 : ∀ x ∈ (AT.node b k v (htOf (AT.node c k2 v2 h2 l2 (.node d k3 v3 h3 l3 r3)) r) (rotL (AT.node c k2 v2 h2 l2 (.node d k3 v3 h3 l3 r3))) r).ids, x ∈ (AT.node b k v h (AT.node c k2 v2 h2 l2 (.node d k3 v3 h3 l3 r3)) r).ids ∨ w.heap.size ≤ x := by
    intro x hx
    refine Or.inl ((List.Perm.mem_iff ?_).1 hx)
    simp only [AT.ids]
    exact List.Perm.cons _ (List.Perm.append_right _ hp)
  clear hi4 ht B4 O4 F4 F3 hdis hsub hn hp
  go_wp2_with fail
  generalize (w4.setCell ⟨b, 3, none⟩ (.pointer (some ⟨d, 0, none⟩))) = w5 at *
  refine (rotR_calls b d k k3 _ _ v v3 (mkN c k2 v2 l2 l3) r3 r _ ⟨B5, S5, O5⟩ hn5 hr.ok (by have q1 := hs.2.2.2.1.ht; have q2 := hs.2.1.ht; simp only [Hok, mkN, ht_node, htOf]; omega) hs.2.2.2.2.ok).mono ?_
  rintro e w6 ⟨rfl, ht⟩
  go_wp2
  go_ret
  exact ⟨rfl, ht.lies, F5.trans ht.frame (fun _ h => .inl h) hsub5⟩
/-- rebalanceTree at a node whose parts' heights are in their bounds. -/
theorem reb_calls (b : Nat) (k h : Int) (v : Value) (l r : AT) (w : World) (hi : (AT.node b k v h l r).In w) (hn : (AT.node b k v h l r).ids.Nodup) (hl : l.Hb) (hr : r.Hb) :
    Calls Try.prog 71 #[.pointer (some ⟨b, 0, none⟩)] w fun e w' => e = .returned (.pointer (reb (.node b k v h l r)).ptr) ∧ Turned w w' (.node b k v h l r) (reb (.node b k v h l r)) := by
  have hl0 := hl.ht
  have hr0 := hr.ht
  by_cases c1 : l.ht - r.ht ≤ -2
  · cases r with
    | nil => simp only [AT.ht] at *; omega
    | node c k2 v2 h2 l2 r2 =>
      rw [ht_node] at c1
      by_cases c2 : r2.ht < l2.ht
      · cases l2 with
        | nil => have := hr.2.2.ht; simp only [AT.ht] at *; omega
        | node d k3 v3 h3 l3 r3 => exact reb_left1 b c d k h k2 h2 k3 h3 v v2 v3 l l3 r3 r2 w hi hn hl hr c1 c2
      · exact reb_left0 b c k h k2 h2 v v2 l l2 r2 w hi hn hl hr c1 c2
  · by_cases c3 : 2 ≤ l.ht - r.ht
    · cases l with
      | nil => simp only [AT.ht] at *; omega
      | node c k2 v2 h2 l2 r2 =>
        rw [ht_node] at c3
        by_cases c2 : l2.ht < r2.ht
        · cases r2 with
          | nil => have := hl.2.1.ht; simp only [AT.ht] at *; omega
          | node d k3 v3 h3 l3 r3 => exact reb_right1 b c d k h k2 h2 k3 h3 v v2 v3 l2 l3 r3 r w hi hn hr hl c3 c2
        · exact reb_right0 b c k h k2 h2 v v2 l2 r2 r w hi hn hr hl c3 c2
    · exact reb_mid b k h v l r w hi hn hl hr c1 c3
end Go.Proofs.Ytjbelfbfhcmgeaa
