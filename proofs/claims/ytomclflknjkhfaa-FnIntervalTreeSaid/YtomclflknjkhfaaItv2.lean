/- interval trees in memory: rebalancing (printed by gen_itv2.py). -/
import Derived.Test.YtomclflknjkhfaaItv1
namespace Go.Proofs.Ytomclflknjkhfaa
open Go.RowKit ItP

def _root_.Go.Proofs.Ytomclflknjkhfaa.ItP.IT.Hb : IT → Prop
  | .nil => True
  | .node _ _ h _ l r => (0 ≤ h ∧ h ≤ 20000000000) ∧ l.Hb ∧ r.Hb
theorem ht_node (b : Nat) (s : Sp) (h m : Int) (l r : IT) : (IT.node b s h m l r).ht = h := rfl
theorem IT.Hb.ht : ∀ {t : IT}, t.Hb → 0 ≤ t.ht ∧ t.ht ≤ 20000000000
  | .nil, _ => by simp [IT.ht]
  | .node .., h => h.1
theorem IT.Hb.ok {t : IT} (h : t.Hb) : Hok t := by have := IT.Hb.ht h; unfold Hok; omega
theorem getHeight_quiet (t : IT) (w : World) (hi : t.In w) (n : Nat) : Calls Try.prog 107 #[.pointer t.ptr] (w.drewN n) fun e w' => e = .returned (.int .i64 t.ht) ∧ ∃ m, w' = w.drewN m :=
  (getHeight_calls t _ rfl _ (IT.In.top (IT.In.drewN n hi))).mono (fun _ _ h => ⟨h.1, n, h.2.symm⟩)
theorem getHeight_quietN {b : Nat} {s : Sp} {h m : Int} {l r : IT} (w : World) (hi : (IT.node b s h m l r).In w) (n : Nat) : Calls Try.prog 107 #[.pointer (some ⟨b, 0, none⟩)] (w.drewN n) fun e w' => e = .returned (.int .i64 h) ∧ ∃ m, w' = w.drewN m := getHeight_quiet (.node b s h m l r) w hi n
/-- the start of rebalanceTree: both numbers anew. -/
theorem start_calls (b : Nat) (s : Sp) (h m : Int) (l r : IT) (w : World) (hi : (IT.node b s h m l r).In w) (nl : b ∉ l.ids) (nr : b ∉ r.ids) (hl : l.Hb) (hr : r.Hb) :
    Calls Try.prog 127 #[.pointer (some ⟨b, 0, none⟩)] w fun e w' => e = .returned (.tuple #[]) ∧ 
      Calls Try.prog 128 #[.pointer (some ⟨b, 0, none⟩)] w' fun e w2 => e = .returned (.tuple #[]) ∧ (IT.node b s (htOf l r) (mxOf s.hi l r) l r).In w2 ∧ Fr (IT.node b s h m l r).ids w w2 := by
  have hl0 := IT.Hb.ht hl
  have hr0 := IT.Hb.ht hr
  refine (both_calls b s h m l r w hi.1 hi.2.1 hi.2.2 nl nr (by omega) (by omega)).mono ?_
  rintro e w1 ⟨rfl, _, _, K⟩
  refine ⟨rfl, K.mono ?_⟩
  rintro e w2 ⟨rfl, F, B⟩
  have nin : ∀ {t : IT}, b ∉ t.ids → ∀ x ∈ t.ids, x ∉ [b] := fun hb x hx e => hb (by rw [← List.mem_singleton.1 e]; exact hx)
  exact ⟨rfl, ⟨B, IT.In.fr F hi.2.1 (nin nl), IT.In.fr F hi.2.2 (nin nr)⟩, F.mono (fun x hx => .inl (by rw [List.mem_singleton.1 hx]; simp [IT.ids]))⟩
set_option maxHeartbeats 1000000 in
theorem reb_mid (b : Nat) (s : Sp) (h m : Int) (l r : IT) (w : World) (hi : (IT.node b s h m l r).In w) (hn : (IT.node b s h m l r).ids.Nodup) (hl : l.Hb) (hr : r.Hb) (c1 : ¬ l.ht - r.ht ≤ -2) (c2 : ¬ 2 ≤ l.ht - r.ht) :
    Calls Try.prog 119 #[.pointer (some ⟨b, 0, none⟩)] w fun e w' => e = .returned (.pointer (reb (.node b s h m l r)).ptr) ∧ Turned w w' (.node b s h m l r) (reb (.node b s h m l r)) := by
  have e : reb (.node b s h m l r) = mkN b s l r := by simp only [reb]; rw [if_neg c1, if_neg c2]
  rw [e]
  have hl0 := IT.Hb.ht hl
  have hr0 := IT.Hb.ht hr
  have nb : b ∉ l.ids ∧ b ∉ r.ids := by simp only [IT.ids] at hn; grind
  have HS := Lib.hid (start_calls b s h m l r w hi nb.1 nb.2 hl hr)
  clear hi hn
  go_enter Try.func119, Try.ntmps119
  go_wp2_with fail
  refine HS.out.mono ?_
  rintro e w0 ⟨rfl, K⟩
  have HK := Lib.hid K
  clear K HS
  go_wp2_with fail
  refine HK.out.mono ?_
  rintro e w1 ⟨rfl, I1, F1⟩
  obtain ⟨⟨p0, p1, p2, p3, p4, p5, p6⟩, pf⟩ := node_cells I1.1
  clear HK
  have d1 : decide (l.ht - r.ht ≤ -2) = false := decide_eq_false (by omega)
  have d2 : decide (l.ht - r.ht ≥ 2) = false := decide_eq_false (by omega)
  have d3 : decide (2 ≤ l.ht - r.ht) = false := decide_eq_false (by omega)
  go_wp2_with fail
  go_quiet ((first | (go_at_call_of 107 (l.ptr); exact getHeight_quiet l w1 I1.2.1 _) | (go_at_call_of 107 (r.ptr); exact getHeight_quiet r w1 I1.2.2 _)))
  go_wp2
  go_ret
  exact ⟨rfl, ⟨IT.In.drewN (t := mkN b s l r) _ I1, F1.comp (Fr.drewN _ _ _)⟩⟩
set_option maxHeartbeats 1000000 in
theorem reb_left0 (b c : Nat) (s s2 : Sp) (h m h2 m2 : Int) (l l2 r2 : IT) (w : World) (hi : (IT.node b s h m l (IT.node c s2 h2 m2 l2 r2)).In w) (hn : (IT.node b s h m l (IT.node c s2 h2 m2 l2 r2)).ids.Nodup) (hl : l.Hb) (hs : (IT.node c s2 h2 m2 l2 r2).Hb) (c1 : l.ht - h2 ≤ -2) (c2 : ¬ r2.ht < l2.ht) :
    Calls Try.prog 119 #[.pointer (some ⟨b, 0, none⟩)] w fun e w' => e = .returned (.pointer (reb (IT.node b s h m l (IT.node c s2 h2 m2 l2 r2))).ptr) ∧ Turned w w' (IT.node b s h m l (IT.node c s2 h2 m2 l2 r2)) (reb (IT.node b s h m l (IT.node c s2 h2 m2 l2 r2))) := by
  have e : reb (IT.node b s h m l (IT.node c s2 h2 m2 l2 r2)) = rotL (.node b s (htOf l (IT.node c s2 h2 m2 l2 r2)) (mxOf s.hi l (IT.node c s2 h2 m2 l2 r2)) l (IT.node c s2 h2 m2 l2 r2)) := (if_pos (show l.ht - (IT.node c s2 h2 m2 l2 r2).ht ≤ -2 from c1)).trans (congrArg (fun z => rotL (.node b s (htOf l (IT.node c s2 h2 m2 l2 r2)) (mxOf s.hi l (IT.node c s2 h2 m2 l2 r2)) l z)) (if_neg c2))
  rw [e]
  have ho0 := IT.Hb.ht hl
  have hs0 := IT.Hb.ht hs
  simp only [ht_node] at hs0
  have hl20 := IT.Hb.ht hs.2.1
  have hr20 := IT.Hb.ht hs.2.2
  have nb : b ∉ l.ids ∧ b ∉ (IT.node c s2 h2 m2 l2 r2).ids := by simp only [IT.ids] at hn ⊢; grind
  have HS := Lib.hid (start_calls b s h m l (IT.node c s2 h2 m2 l2 r2) w hi nb.1 nb.2 hl hs)
  clear hi
  go_enter Try.func119, Try.ntmps119
  go_wp2_with fail
  refine HS.out.mono ?_
  rintro e w0 ⟨rfl, K⟩
  have HK := Lib.hid K
  clear K HS
  go_wp2_with fail
  refine HK.out.mono ?_
  rintro e w1 ⟨rfl, I1, F1⟩
  clear HK
  obtain ⟨B1, L1, R1⟩ := I1
  obtain ⟨⟨p0, p1, p2, p3, p4, p5, p6⟩, pf⟩ := node_cells B1
  obtain ⟨⟨q0, q1, q2, q3, q4, q5, q6⟩, qf⟩ := node_cells R1.1
  simp only [IT.ptr] at p5
  have hw : wrap64 (l.ht - h2) = l.ht - h2 := by unfold wrap64; omega
  have d1 : decide (l.ht - h2 ≤ -2) = true := by simp; omega
  have d2 : decide (l2.ht > r2.ht) = false := by simp; omega
  have d3 : decide (r2.ht < l2.ht) = false := by simp; omega
  go_wp2_with fail
  go_quiet ((first | (go_at_call_of 107 (l.ptr); exact getHeight_quiet l w1 L1 _) | (go_at_call 107; exact getHeight_quietN w1 R1 _)))
  have B2 := B1.drewN nq
  have L2 := IT.In.drewN nq L1
  have R2 := IT.In.drewN nq R1
  have F2 := F1.comp (Fr.drewN _ _ nq)
  clear p0 p1 p2 p3 p4 p5 p6 pf q0 q1 q2 q3 q4 q5 q6 qf
  obtain ⟨⟨p0, p1, p2, p3, p4, p5, p6⟩, pf⟩ := node_cells B2
  obtain ⟨⟨q0, q1, q2, q3, q4, q5, q6⟩, qf⟩ := node_cells R2.1
  simp only [IT.ptr] at p5
  clear B1 L1 R1 F1
  generalize w1.drewN nq = w2 at *
  go_wp2_with fail
  go_quiet ((first | (go_at_call_of 107 (l2.ptr); exact getHeight_quiet l2 w2 R2.2.1 _) | (go_at_call 107; exact getHeight_quiet r2 w2 R2.2.2 _)))
  go_wp2_with fail
  refine (rotL_calls b c s s2 _ _ h2 m2 l l2 r2 _ ⟨B2.drewN nq, IT.In.drewN nq L2, IT.In.drewN nq R2⟩ hn (IT.Hb.ok hl) (IT.Hb.ok hs.2.1) (IT.Hb.ok hs.2.2)).mono ?_
  rintro e w3 ⟨rfl, ht⟩
  go_wp2
  go_ret
  exact ⟨rfl, ht.lies, F2.comp ((Fr.drewN _ _ nq).comp ht.frame)⟩
set_option maxHeartbeats 1000000 in
theorem reb_left1 (b c d : Nat) (s s2 s3 : Sp) (h m h2 m2 h3 m3 : Int) (l l3 r3 r2 : IT) (w : World) (hi : (IT.node b s h m l (IT.node c s2 h2 m2 (.node d s3 h3 m3 l3 r3) r2)).In w) (hn : (IT.node b s h m l (IT.node c s2 h2 m2 (.node d s3 h3 m3 l3 r3) r2)).ids.Nodup) (hl : l.Hb) (hs : (IT.node c s2 h2 m2 (.node d s3 h3 m3 l3 r3) r2).Hb) (c1 : l.ht - h2 ≤ -2) (c2 : r2.ht < h3) :
    Calls Try.prog 119 #[.pointer (some ⟨b, 0, none⟩)] w fun e w' => e = .returned (.pointer (reb (IT.node b s h m l (IT.node c s2 h2 m2 (.node d s3 h3 m3 l3 r3) r2))).ptr) ∧ Turned w w' (IT.node b s h m l (IT.node c s2 h2 m2 (.node d s3 h3 m3 l3 r3) r2)) (reb (IT.node b s h m l (IT.node c s2 h2 m2 (.node d s3 h3 m3 l3 r3) r2))) := by
  have e : reb (IT.node b s h m l (IT.node c s2 h2 m2 (.node d s3 h3 m3 l3 r3) r2)) = rotL (.node b s (htOf l (IT.node c s2 h2 m2 (.node d s3 h3 m3 l3 r3) r2)) (mxOf s.hi l (IT.node c s2 h2 m2 (.node d s3 h3 m3 l3 r3) r2)) l (rotR (IT.node c s2 h2 m2 (.node d s3 h3 m3 l3 r3) r2))) := (if_pos (show l.ht - (IT.node c s2 h2 m2 (.node d s3 h3 m3 l3 r3) r2).ht ≤ -2 from c1)).trans (congrArg (fun z => rotL (.node b s (htOf l (IT.node c s2 h2 m2 (.node d s3 h3 m3 l3 r3) r2)) (mxOf s.hi l (IT.node c s2 h2 m2 (.node d s3 h3 m3 l3 r3) r2)) l z)) (if_pos c2))
  rw [e]
  have ho0 := IT.Hb.ht hl
  have hs0 := IT.Hb.ht hs
  simp only [ht_node] at hs0
  have hl20 := IT.Hb.ht hs.2.1
  have hr20 := IT.Hb.ht hs.2.2
  simp only [ht_node] at hl20 hr20
  have nb : b ∉ l.ids ∧ b ∉ (IT.node c s2 h2 m2 (.node d s3 h3 m3 l3 r3) r2).ids := by simp only [IT.ids] at hn ⊢; grind
  have HS := Lib.hid (start_calls b s h m l (IT.node c s2 h2 m2 (.node d s3 h3 m3 l3 r3) r2) w hi nb.1 nb.2 hl hs)
  clear hi
  go_enter Try.func119, Try.ntmps119
  go_wp2_with fail
  refine HS.out.mono ?_
  rintro e w0 ⟨rfl, K⟩
  have HK := Lib.hid K
  clear K HS
  go_wp2_with fail
  refine HK.out.mono ?_
  rintro e w1 ⟨rfl, I1, F1⟩
  clear HK
  obtain ⟨B1, L1, R1⟩ := I1
  obtain ⟨⟨p0, p1, p2, p3, p4, p5, p6⟩, pf⟩ := node_cells B1
  obtain ⟨⟨q0, q1, q2, q3, q4, q5, q6⟩, qf⟩ := node_cells R1.1
  simp only [IT.ptr] at p5
  simp only [IT.ptr] at q4
  have hw : wrap64 (l.ht - h2) = l.ht - h2 := by unfold wrap64; omega
  have d1 : decide (l.ht - h2 ≤ -2) = true := by simp; omega
  go_wp2_with fail
  go_quiet ((first | (go_at_call_of 107 (l.ptr); exact getHeight_quiet l w1 L1 _) | (go_at_call 107; exact getHeight_quietN w1 R1 _)))
  have B2 := B1.drewN nq
  have L2 := IT.In.drewN nq L1
  have R2 := IT.In.drewN nq R1
  have F2 := F1.comp (Fr.drewN _ _ nq)
  clear p0 p1 p2 p3 p4 p5 p6 pf q0 q1 q2 q3 q4 q5 q6 qf
  obtain ⟨⟨p0, p1, p2, p3, p4, p5, p6⟩, pf⟩ := node_cells B2
  obtain ⟨⟨q0, q1, q2, q3, q4, q5, q6⟩, qf⟩ := node_cells R2.1
  simp only [IT.ptr] at p5
  simp only [IT.ptr] at q4
  clear B1 L1 R1 F1
  generalize w1.drewN nq = w2 at *
  go_wp2_with fail
  go_quiet ((first | (go_at_call_of 107 (r2.ptr); exact getHeight_quiet r2 w2 R2.2.2 _) | (go_at_call 107; exact getHeight_quietN w2 R2.2.1 _)))
  have B3 := B2.drewN nq
  have L3 := IT.In.drewN nq L2
  have R3 := IT.In.drewN nq R2
  have F3 := F2.comp (Fr.drewN _ _ nq)
  clear p0 p1 p2 p3 p4 p5 p6 pf q0 q1 q2 q3 q4 q5 q6 qf
  obtain ⟨⟨p0, p1, p2, p3, p4, p5, p6⟩, pf⟩ := node_cells B3
  simp only [IT.ptr] at p5
  clear B2 L2 R2 F2
  generalize w2.drewN nq = w3 at *
  have hn2 : (IT.node c s2 h2 m2 (.node d s3 h3 m3 l3 r3) r2).ids.Nodup := by simp only [IT.ids] at hn ⊢; grind
  have hdis : ∀ x ∈ l.ids, x ∉ (IT.node c s2 h2 m2 (.node d s3 h3 m3 l3 r3) r2).ids := by simp only [IT.ids] at hn ⊢; grind
  have hsub : ∀ x ∈ (IT.node c s2 h2 m2 (.node d s3 h3 m3 l3 r3) r2).ids, x ∈ (IT.node b s h m l (IT.node c s2 h2 m2 (.node d s3 h3 m3 l3 r3) r2)).ids ∨ w3.heap.size ≤ x := by simp only [IT.ids]; grind
  go_wp2_with fail
  refine (rotR_calls c d s2 s3 h2 m2 h3 m3 l3 r3 r2 w3 R3 hn2 (IT.Hb.ok hs.2.2) (IT.Hb.ok hs.2.1.2.1) (IT.Hb.ok hs.2.1.2.2)).mono ?_
  rintro e w4 ⟨rfl, ht⟩
  have B4 := B3.fr ht.frame nb.2
  have O4 := IT.In.fr ht.frame L3 hdis
  have F4 := F3.comp (ht.frame.mono hsub)
  have hi4 := ht.lies
  have hp := (rotR_ids (IT.node c s2 h2 m2 (.node d s3 h3 m3 l3 r3) r2))
  have nb4 : b ∉ (rotR (IT.node c s2 h2 m2 (.node d s3 h3 m3 l3 r3) r2)).ids := fun hx => nb.2 (hp.mem_iff.1 hx)
  clear p0 p1 p2 p3 p4 p5 p6 pf
  obtain ⟨⟨p0, p1, p2, p3, p4, p5, p6⟩, pf⟩ := node_cells B4
  have B5 := set_r B4 (rotR (IT.node c s2 h2 m2 (.node d s3 h3 m3 l3 r3) r2)) (some ⟨d, 0, none⟩) rfl
  have O5 := IT.In.set O4 5 (.pointer (some ⟨d, 0, none⟩)) nb.1
  have S5 := IT.In.set hi4 5 (.pointer (some ⟨d, 0, none⟩)) nb4
  have F5 := F4.comp (Fr.setCell (S := (IT.node b s h m l (IT.node c s2 h2 m2 (.node d s3 h3 m3 l3 r3) r2)).ids) w4 b 5 (.pointer (some ⟨d, 0, none⟩)) (by simp [IT.ids]))
  have hn5 : (IT.node b s (htOf l (IT.node c s2 h2 m2 (.node d s3 h3 m3 l3 r3) r2)) (mxOf s.hi l (IT.node c s2 h2 m2 (.node d s3 h3 m3 l3 r3) r2)) l (rotR (IT.node c s2 h2 m2 (.node d s3 h3 m3 l3 r3) r2))).ids.Nodup := by
    refine (List.Perm.nodup_iff ?_).2 hn
    simp only [IT.ids]
    exact List.Perm.cons _ (List.Perm.append_left _ hp)
  have hsub5 : ∀ x ∈ (IT.node b s (htOf l (IT.node c s2 h2 m2 (.node d s3 h3 m3 l3 r3) r2)) (mxOf s.hi l (IT.node c s2 h2 m2 (.node d s3 h3 m3 l3 r3) r2)) l (rotR (IT.node c s2 h2 m2 (.node d s3 h3 m3 l3 r3) r2))).ids, x ∈ (IT.node b s h m l (IT.node c s2 h2 m2 (.node d s3 h3 m3 l3 r3) r2)).ids ∨ w.heap.size ≤ x := by
    intro x hx
    refine Or.inl ((List.Perm.mem_iff ?_).1 hx)
    simp only [IT.ids]
    exact List.Perm.cons _ (List.Perm.append_left _ hp)
  clear hi4 ht B4 O4 F4 F3 hdis hsub hn hp
  go_wp2_with fail
  generalize (w4.setCell ⟨b, 5, none⟩ (.pointer (some ⟨d, 0, none⟩))) = w5 at *
  refine (rotL_calls b d s s3 _ _ _ _ l l3 (mkN c s2 r3 r2) _ ⟨B5, O5, S5⟩ hn5 (IT.Hb.ok hl) (IT.Hb.ok hs.2.1.2.1) (by have q1 := IT.Hb.ht hs.2.1.2.2; have q2 := IT.Hb.ht hs.2.2; simp only [Hok, mkN, ht_node, htOf]; omega)).mono ?_
  rintro e w6 ⟨rfl, ht⟩
  go_wp2
  go_ret
  exact ⟨rfl, ht.lies, F5.trans ht.frame (fun _ h => .inl h) hsub5⟩
set_option maxHeartbeats 1000000 in
theorem reb_right0 (b c : Nat) (s s2 : Sp) (h m h2 m2 : Int) (l2 r2 r : IT) (w : World) (hi : (IT.node b s h m (IT.node c s2 h2 m2 l2 r2) r).In w) (hn : (IT.node b s h m (IT.node c s2 h2 m2 l2 r2) r).ids.Nodup) (hr : r.Hb) (hs : (IT.node c s2 h2 m2 l2 r2).Hb) (c1 : 2 ≤ h2 - r.ht) (c2 : ¬ l2.ht < r2.ht) :
    Calls Try.prog 119 #[.pointer (some ⟨b, 0, none⟩)] w fun e w' => e = .returned (.pointer (reb (IT.node b s h m (IT.node c s2 h2 m2 l2 r2) r)).ptr) ∧ Turned w w' (IT.node b s h m (IT.node c s2 h2 m2 l2 r2) r) (reb (IT.node b s h m (IT.node c s2 h2 m2 l2 r2) r)) := by
  have e : reb (IT.node b s h m (IT.node c s2 h2 m2 l2 r2) r) = rotR (.node b s (htOf (IT.node c s2 h2 m2 l2 r2) r) (mxOf s.hi (IT.node c s2 h2 m2 l2 r2) r) (IT.node c s2 h2 m2 l2 r2) r) := (if_neg (show ¬ (IT.node c s2 h2 m2 l2 r2).ht - r.ht ≤ -2 by rw [ht_node]; omega)).trans ((if_pos (show 2 ≤ (IT.node c s2 h2 m2 l2 r2).ht - r.ht from c1)).trans (congrArg (fun z => rotR (.node b s (htOf (IT.node c s2 h2 m2 l2 r2) r) (mxOf s.hi (IT.node c s2 h2 m2 l2 r2) r) z r)) (if_neg c2)))
  rw [e]
  have ho0 := IT.Hb.ht hr
  have hs0 := IT.Hb.ht hs
  simp only [ht_node] at hs0
  have hl20 := IT.Hb.ht hs.2.1
  have hr20 := IT.Hb.ht hs.2.2
  have nb : b ∉ r.ids ∧ b ∉ (IT.node c s2 h2 m2 l2 r2).ids := by simp only [IT.ids] at hn ⊢; grind
  have HS := Lib.hid (start_calls b s h m (IT.node c s2 h2 m2 l2 r2) r w hi nb.2 nb.1 hs hr)
  clear hi
  go_enter Try.func119, Try.ntmps119
  go_wp2_with fail
  refine HS.out.mono ?_
  rintro e w0 ⟨rfl, K⟩
  have HK := Lib.hid K
  clear K HS
  go_wp2_with fail
  refine HK.out.mono ?_
  rintro e w1 ⟨rfl, I1, F1⟩
  clear HK
  obtain ⟨B1, L1, R1⟩ := I1
  obtain ⟨⟨p0, p1, p2, p3, p4, p5, p6⟩, pf⟩ := node_cells B1
  obtain ⟨⟨q0, q1, q2, q3, q4, q5, q6⟩, qf⟩ := node_cells L1.1
  simp only [IT.ptr] at p4
  have hw : wrap64 (h2 - r.ht) = h2 - r.ht := by unfold wrap64; omega
  have d1 : decide (h2 - r.ht ≤ -2) = false := by simp; omega
  have d4 : decide (h2 - r.ht ≥ 2) = true := by simp; omega
  have d5 : decide (2 ≤ h2 - r.ht) = true := by simp; omega
  have d2 : decide (r2.ht > l2.ht) = false := by simp; omega
  have d3 : decide (l2.ht < r2.ht) = false := by simp; omega
  go_wp2_with fail
  go_quiet ((first | (go_at_call_of 107 (r.ptr); exact getHeight_quiet r w1 R1 _) | (go_at_call 107; exact getHeight_quietN w1 L1 _)))
  have B2 := B1.drewN nq
  have L2 := IT.In.drewN nq L1
  have R2 := IT.In.drewN nq R1
  have F2 := F1.comp (Fr.drewN _ _ nq)
  clear p0 p1 p2 p3 p4 p5 p6 pf q0 q1 q2 q3 q4 q5 q6 qf
  obtain ⟨⟨p0, p1, p2, p3, p4, p5, p6⟩, pf⟩ := node_cells B2
  obtain ⟨⟨q0, q1, q2, q3, q4, q5, q6⟩, qf⟩ := node_cells L2.1
  simp only [IT.ptr] at p4
  clear B1 L1 R1 F1
  generalize w1.drewN nq = w2 at *
  go_wp2_with fail
  go_quiet ((first | (go_at_call_of 107 (l2.ptr); exact getHeight_quiet l2 w2 L2.2.1 _) | (go_at_call 107; exact getHeight_quiet r2 w2 L2.2.2 _)))
  go_wp2_with fail
  refine (rotR_calls b c s s2 _ _ h2 m2 l2 r2 r _ ⟨B2.drewN nq, IT.In.drewN nq L2, IT.In.drewN nq R2⟩ hn (IT.Hb.ok hr) (IT.Hb.ok hs.2.1) (IT.Hb.ok hs.2.2)).mono ?_
  rintro e w3 ⟨rfl, ht⟩
  go_wp2
  go_ret
  exact ⟨rfl, ht.lies, F2.comp ((Fr.drewN _ _ nq).comp ht.frame)⟩
set_option maxHeartbeats 1000000 in
theorem reb_right1 (b c d : Nat) (s s2 s3 : Sp) (h m h2 m2 h3 m3 : Int) (l2 l3 r3 r : IT) (w : World) (hi : (IT.node b s h m (IT.node c s2 h2 m2 l2 (.node d s3 h3 m3 l3 r3)) r).In w) (hn : (IT.node b s h m (IT.node c s2 h2 m2 l2 (.node d s3 h3 m3 l3 r3)) r).ids.Nodup) (hr : r.Hb) (hs : (IT.node c s2 h2 m2 l2 (.node d s3 h3 m3 l3 r3)).Hb) (c1 : 2 ≤ h2 - r.ht) (c2 : l2.ht < h3) :
    Calls Try.prog 119 #[.pointer (some ⟨b, 0, none⟩)] w fun e w' => e = .returned (.pointer (reb (IT.node b s h m (IT.node c s2 h2 m2 l2 (.node d s3 h3 m3 l3 r3)) r)).ptr) ∧ Turned w w' (IT.node b s h m (IT.node c s2 h2 m2 l2 (.node d s3 h3 m3 l3 r3)) r) (reb (IT.node b s h m (IT.node c s2 h2 m2 l2 (.node d s3 h3 m3 l3 r3)) r)) := by
  have e : reb (IT.node b s h m (IT.node c s2 h2 m2 l2 (.node d s3 h3 m3 l3 r3)) r) = rotR (.node b s (htOf (IT.node c s2 h2 m2 l2 (.node d s3 h3 m3 l3 r3)) r) (mxOf s.hi (IT.node c s2 h2 m2 l2 (.node d s3 h3 m3 l3 r3)) r) (rotL (IT.node c s2 h2 m2 l2 (.node d s3 h3 m3 l3 r3))) r) := (if_neg (show ¬ (IT.node c s2 h2 m2 l2 (.node d s3 h3 m3 l3 r3)).ht - r.ht ≤ -2 by rw [ht_node]; omega)).trans ((if_pos (show 2 ≤ (IT.node c s2 h2 m2 l2 (.node d s3 h3 m3 l3 r3)).ht - r.ht from c1)).trans (congrArg (fun z => rotR (.node b s (htOf (IT.node c s2 h2 m2 l2 (.node d s3 h3 m3 l3 r3)) r) (mxOf s.hi (IT.node c s2 h2 m2 l2 (.node d s3 h3 m3 l3 r3)) r) z r)) (if_pos c2)))
  rw [e]
  have ho0 := IT.Hb.ht hr
  have hs0 := IT.Hb.ht hs
  simp only [ht_node] at hs0
  have hl20 := IT.Hb.ht hs.2.1
  have hr20 := IT.Hb.ht hs.2.2
  simp only [ht_node] at hl20 hr20
  have nb : b ∉ r.ids ∧ b ∉ (IT.node c s2 h2 m2 l2 (.node d s3 h3 m3 l3 r3)).ids := by simp only [IT.ids] at hn ⊢; grind
  have HS := Lib.hid (start_calls b s h m (IT.node c s2 h2 m2 l2 (.node d s3 h3 m3 l3 r3)) r w hi nb.2 nb.1 hs hr)
  clear hi
  go_enter Try.func119, Try.ntmps119
  go_wp2_with fail
  refine HS.out.mono ?_
  rintro e w0 ⟨rfl, K⟩
  have HK := Lib.hid K
  clear K HS
  go_wp2_with fail
  refine HK.out.mono ?_
  rintro e w1 ⟨rfl, I1, F1⟩
  clear HK
  obtain ⟨B1, L1, R1⟩ := I1
  obtain ⟨⟨p0, p1, p2, p3, p4, p5, p6⟩, pf⟩ := node_cells B1
  obtain ⟨⟨q0, q1, q2, q3, q4, q5, q6⟩, qf⟩ := node_cells L1.1
  simp only [IT.ptr] at p4
  simp only [IT.ptr] at q5
  have hw : wrap64 (h2 - r.ht) = h2 - r.ht := by unfold wrap64; omega
  have d1 : decide (h2 - r.ht ≤ -2) = false := by simp; omega
  have d4 : decide (h2 - r.ht ≥ 2) = true := by simp; omega
  have d5 : decide (2 ≤ h2 - r.ht) = true := by simp; omega
  go_wp2_with fail
  go_quiet ((first | (go_at_call_of 107 (r.ptr); exact getHeight_quiet r w1 R1 _) | (go_at_call 107; exact getHeight_quietN w1 L1 _)))
  have B2 := B1.drewN nq
  have L2 := IT.In.drewN nq L1
  have R2 := IT.In.drewN nq R1
  have F2 := F1.comp (Fr.drewN _ _ nq)
  clear p0 p1 p2 p3 p4 p5 p6 pf q0 q1 q2 q3 q4 q5 q6 qf
  obtain ⟨⟨p0, p1, p2, p3, p4, p5, p6⟩, pf⟩ := node_cells B2
  obtain ⟨⟨q0, q1, q2, q3, q4, q5, q6⟩, qf⟩ := node_cells L2.1
  simp only [IT.ptr] at p4
  simp only [IT.ptr] at q5
  clear B1 L1 R1 F1
  generalize w1.drewN nq = w2 at *
  go_wp2_with fail
  go_quiet ((first | (go_at_call_of 107 (l2.ptr); exact getHeight_quiet l2 w2 L2.2.1 _) | (go_at_call 107; exact getHeight_quietN w2 L2.2.2 _)))
  have B3 := B2.drewN nq
  have L3 := IT.In.drewN nq L2
  have R3 := IT.In.drewN nq R2
  have F3 := F2.comp (Fr.drewN _ _ nq)
  clear p0 p1 p2 p3 p4 p5 p6 pf q0 q1 q2 q3 q4 q5 q6 qf
  obtain ⟨⟨p0, p1, p2, p3, p4, p5, p6⟩, pf⟩ := node_cells B3
  simp only [IT.ptr] at p4
  clear B2 L2 R2 F2
  generalize w2.drewN nq = w3 at *
  have hn2 : (IT.node c s2 h2 m2 l2 (.node d s3 h3 m3 l3 r3)).ids.Nodup := by simp only [IT.ids] at hn ⊢; grind
  have hdis : ∀ x ∈ r.ids, x ∉ (IT.node c s2 h2 m2 l2 (.node d s3 h3 m3 l3 r3)).ids := by simp only [IT.ids] at hn ⊢; grind
  have hsub : ∀ x ∈ (IT.node c s2 h2 m2 l2 (.node d s3 h3 m3 l3 r3)).ids, x ∈ (IT.node b s h m (IT.node c s2 h2 m2 l2 (.node d s3 h3 m3 l3 r3)) r).ids ∨ w3.heap.size ≤ x := by simp only [IT.ids]; grind
  go_wp2_with fail
  refine (rotL_calls c d s2 s3 h2 m2 h3 m3 l2 l3 r3 w3 L3 hn2 (IT.Hb.ok hs.2.1) (IT.Hb.ok hs.2.2.2.1) (IT.Hb.ok hs.2.2.2.2)).mono ?_
  rintro e w4 ⟨rfl, ht⟩
  have B4 := B3.fr ht.frame nb.2
  have O4 := IT.In.fr ht.frame R3 hdis
  have F4 := F3.comp (ht.frame.mono hsub)
  have hi4 := ht.lies
  have hp := (rotL_ids (IT.node c s2 h2 m2 l2 (.node d s3 h3 m3 l3 r3)))
  have nb4 : b ∉ (rotL (IT.node c s2 h2 m2 l2 (.node d s3 h3 m3 l3 r3))).ids := fun hx => nb.2 (hp.mem_iff.1 hx)
  clear p0 p1 p2 p3 p4 p5 p6 pf
  obtain ⟨⟨p0, p1, p2, p3, p4, p5, p6⟩, pf⟩ := node_cells B4
  have B5 := set_l B4 (rotL (IT.node c s2 h2 m2 l2 (.node d s3 h3 m3 l3 r3))) (some ⟨d, 0, none⟩) rfl
  have O5 := IT.In.set O4 4 (.pointer (some ⟨d, 0, none⟩)) nb.1
  have S5 := IT.In.set hi4 4 (.pointer (some ⟨d, 0, none⟩)) nb4
  have F5 := F4.comp (Fr.setCell (S := (IT.node b s h m (IT.node c s2 h2 m2 l2 (.node d s3 h3 m3 l3 r3)) r).ids) w4 b 4 (.pointer (some ⟨d, 0, none⟩)) (by simp [IT.ids]))
  have hn5 : (IT.node b s (htOf (IT.node c s2 h2 m2 l2 (.node d s3 h3 m3 l3 r3)) r) (mxOf s.hi (IT.node c s2 h2 m2 l2 (.node d s3 h3 m3 l3 r3)) r) (rotL (IT.node c s2 h2 m2 l2 (.node d s3 h3 m3 l3 r3))) r).ids.Nodup := by
    refine (List.Perm.nodup_iff ?_).2 hn
    simp only [IT.ids]
    exact List.Perm.cons _ (List.Perm.append_right _ hp)
  have hsub5 : ∀ x ∈ (IT.node b s (htOf (IT.node c s2 h2 m2 l2 (.node d s3 h3 m3 l3 r3)) r) (mxOf s.hi (IT.node c s2 h2 m2 l2 (.node d s3 h3 m3 l3 r3)) r) (rotL (IT.node c s2 h2 m2 l2 (.node d s3 h3 m3 l3 r3))) r).ids, x ∈ (IT.node b s h m (IT.node c s2 h2 m2 l2 (.node d s3 h3 m3 l3 r3)) r).ids ∨ w.heap.size ≤ x := by
    intro x hx
    refine Or.inl ((List.Perm.mem_iff ?_).1 hx)
    simp only [IT.ids]
    exact List.Perm.cons _ (List.Perm.append_right _ hp)
  clear hi4 ht B4 O4 F4 F3 hdis hsub hn hp
  go_wp2_with fail
  generalize (w4.setCell ⟨b, 4, none⟩ (.pointer (some ⟨d, 0, none⟩))) = w5 at *
  refine (rotR_calls b d s s3 _ _ _ _ (mkN c s2 l2 l3) r3 r _ ⟨B5, S5, O5⟩ hn5 (IT.Hb.ok hr) (by have q1 := IT.Hb.ht hs.2.2.2.1; have q2 := IT.Hb.ht hs.2.1; simp only [Hok, mkN, ht_node, htOf]; omega) (IT.Hb.ok hs.2.2.2.2)).mono ?_
  rintro e w6 ⟨rfl, ht⟩
  go_wp2
  go_ret
  exact ⟨rfl, ht.lies, F5.trans ht.frame (fun _ h => .inl h) hsub5⟩
/-- rebalanceTree at a node whose parts' heights are in their bounds. -/
theorem reb_calls (b : Nat) (s : Sp) (h m : Int) (l r : IT) (w : World) (hi : (IT.node b s h m l r).In w) (hn : (IT.node b s h m l r).ids.Nodup) (hl : l.Hb) (hr : r.Hb) :
    Calls Try.prog 119 #[.pointer (some ⟨b, 0, none⟩)] w fun e w' => e = .returned (.pointer (reb (.node b s h m l r)).ptr) ∧ Turned w w' (.node b s h m l r) (reb (.node b s h m l r)) := by
  have hl0 := IT.Hb.ht hl
  have hr0 := IT.Hb.ht hr
  by_cases c1 : l.ht - r.ht ≤ -2
  · cases r with
    | nil => simp only [IT.ht] at *; omega
    | node c s2 h2 m2 l2 r2 =>
      rw [ht_node] at c1
      by_cases c2 : r2.ht < l2.ht
      · cases l2 with
        | nil => have := IT.Hb.ht hr.2.2; simp only [IT.ht] at *; omega
        | node d s3 h3 m3 l3 r3 => exact reb_left1 b c d s s2 s3 h m h2 m2 h3 m3 l l3 r3 r2 w hi hn hl hr c1 c2
      · exact reb_left0 b c s s2 h m h2 m2 l l2 r2 w hi hn hl hr c1 c2
  · by_cases c3 : 2 ≤ l.ht - r.ht
    · cases l with
      | nil => simp only [IT.ht] at *; omega
      | node c s2 h2 m2 l2 r2 =>
        rw [ht_node] at c3
        by_cases c2 : l2.ht < r2.ht
        · cases r2 with
          | nil => have := IT.Hb.ht hl.2.1; simp only [IT.ht] at *; omega
          | node d s3 h3 m3 l3 r3 => exact reb_right1 b c d s s2 s3 h m h2 m2 h3 m3 l2 l3 r3 r w hi hn hr hl c3 c2
        · exact reb_right0 b c s s2 h m h2 m2 l2 r2 r w hi hn hr hl c3 c2
    · exact reb_mid b s h m l r w hi hn hl hr c1 c3
end Go.Proofs.Ytomclflknjkhfaa
