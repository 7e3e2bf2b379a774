/- AVL trees in memory: turns, rebalancing: what they do to the nodes in memory. -/
import Derived.Test.YtjbelfbfhcmgeaaAvl0
namespace Go.Proofs.Ytjbelfbfhcmgeaa
open Go.RowKit

/-- what a call that gives back a tree leaves: it lies there, and goes through the old tree's blocks alone. -/
structure Turned (w w' : World) (t t' : AT) : Prop where
  lies : t'.In w'
  frame : Fr t.ids w w'
def mkN (b : Nat) (k : Int) (v : Value) (l r : AT) : AT := .node b k v (htOf l r) l r
def rotL : AT → AT
  | .node b k v _ l (.node c k2 v2 _ l2 r2) => mkN c k2 v2 (mkN b k v l l2) r2
  | t => t
def rotR : AT → AT
  | .node b k v _ (.node c k2 v2 _ l2 r2) r => mkN c k2 v2 l2 (mkN b k v r2 r)
  | t => t
def Hok (t : AT) : Prop := 0 ≤ t.ht ∧ t.ht ≤ 100000000000
theorem dis2 {b c : Nat} {k k2 h h2 : Int} {v v2 : Value} {l l2 r2 : AT} (hn : (AT.node b k v h l (.node c k2 v2 h2 l2 r2)).ids.Nodup) :
    (b ∉ l.ids ∧ b ≠ c ∧ b ∉ l2.ids ∧ b ∉ r2.ids) ∧ (c ∉ l.ids ∧ c ∉ l2.ids ∧ c ∉ r2.ids) := by
  simp only [AT.ids] at hn; grind
theorem dis1 {b c : Nat} {k k2 h h2 : Int} {v v2 : Value} {l2 r2 r : AT} (hn : (AT.node b k v h (.node c k2 v2 h2 l2 r2) r).ids.Nodup) :
    (b ∉ r.ids ∧ b ≠ c ∧ b ∉ l2.ids ∧ b ∉ r2.ids) ∧ (c ∉ r.ids ∧ c ∉ l2.ids ∧ c ∉ r2.ids) := by
  simp only [AT.ids] at hn; grind
theorem rotL_ids (t : AT) : (rotL t).ids.Perm t.ids := by
  unfold rotL
  split
  · simp only [mkN, AT.ids]; rw [List.perm_iff_count]; intro a; simp only [List.count_cons, List.count_append]; omega
  · exact List.Perm.refl _
theorem rotR_ids (t : AT) : (rotR t).ids.Perm t.ids := by
  unfold rotR
  split
  · simp only [mkN, AT.ids]; rw [List.perm_iff_count]; intro a; simp only [List.count_cons, List.count_append]; omega
  · exact List.Perm.refl _
set_option maxHeartbeats 1000000 in
theorem rotL_calls (b c : Nat) (k k2 h h2 : Int) (v v2 : Value) (l l2 r2 : AT) (w : World) (hi : (AT.node b k v h l (.node c k2 v2 h2 l2 r2)).In w) (hn : (AT.node b k v h l (.node c k2 v2 h2 l2 r2)).ids.Nodup) (b0 : Hok l) (b1 : Hok l2) (b2 : Hok r2) :
    Calls Try.prog 75 #[.pointer (some ⟨b, 0, none⟩)] w fun e w' => e = .returned (.pointer (some ⟨c, 0, none⟩)) ∧ Turned w w' (.node b k v h l (.node c k2 v2 h2 l2 r2)) (rotL (.node b k v h l (.node c k2 v2 h2 l2 r2))) := by
  obtain ⟨hb, hl, hc, hl2, hr2⟩ := hi
  obtain ⟨⟨p0, p1, p2, p3, p4⟩, pf⟩ := node_cells hb
  obtain ⟨⟨q0, q1, q2, q3, q4⟩, qf⟩ := node_cells hc
  obtain ⟨⟨n1, n2, n3, n4⟩, m1, m2, m3⟩ := dis2 hn
  simp only [AT.ptr] at p4
  have ncb : c ≠ b := fun e => n2 e.symm
  have B2 := far_N (c := c) (i := 3) (v := .pointer (some ⟨b, 0, none⟩)) (set_r hb l2 _ rfl) n2
  have C2 := set_l (far_N (c := b) (i := 4) (v := .pointer l2.ptr) hc ncb) (mkN b k v l l2) (some ⟨b, 0, none⟩) rfl
  have L2 := (hl.set 4 (.pointer l2.ptr) n1).set 3 (.pointer (some ⟨b, 0, none⟩)) m1
  have LL2 := (hl2.set 4 (.pointer l2.ptr) n3).set 3 (.pointer (some ⟨b, 0, none⟩)) m2
  have RR2 := (hr2.set 4 (.pointer l2.ptr) n4).set 3 (.pointer (some ⟨b, 0, none⟩)) m3
  have F2 : Fr (AT.node b k v h l (.node c k2 v2 h2 l2 r2)).ids w ((w.setCell ⟨b, 4, none⟩ (.pointer l2.ptr)).setCell ⟨c, 3, none⟩ (.pointer (some ⟨b, 0, none⟩))) :=
    (Fr.setCell w b 4 _ (by simp [AT.ids])).comp (Fr.setCell _ c 3 _ (by simp [AT.ids]))
  clear hb hc hl hl2 hr2 hn
  go_enter Try.func75, Try.ntmps75
  go_wp2_with fail
  generalize ((w.setCell ⟨b, 4, none⟩ (.pointer l2.ptr)).setCell ⟨c, 3, none⟩ (.pointer (some ⟨b, 0, none⟩))) = w2 at *
  refine (recalc_calls b k v h l l2 w2 B2 L2 LL2 (by unfold Hok at *; omega) (by unfold Hok at *; omega)).mono ?_
  rintro e w3 ⟨rfl, n, rfl⟩
  have B3 := (set_h B2 (htOf l l2)).drewN n
  have C3 : Blk _ c (cellsN k2 v2 h2 (mkN b k v l l2) r2) 107 := (far_N (c := b) (i := 2) (v := .int .i64 (htOf l l2)) C2 ncb).drewN n
  have L3 := (L2.set 2 (.int .i64 (htOf l l2)) n1).drewN n
  have LL3 := (LL2.set 2 (.int .i64 (htOf l l2)) n3).drewN n
  have RR3 := (RR2.set 2 (.int .i64 (htOf l l2)) n4).drewN n
  have F3 : Fr (AT.node b k v h l (.node c k2 v2 h2 l2 r2)).ids w _ := F2.comp ((Fr.setCell w2 b 2 (.int .i64 (htOf l l2)) (by simp [AT.ids])).comp (Fr.drewN _ _ n))
  clear B2 C2 L2 LL2 RR2 F2 p0 p1 p2 p3 p4 pf q0 q1 q2 q3 q4 qf
  generalize (w2.setCell ⟨b, 2, none⟩ (.int .i64 (htOf l l2))).drewN n = w4 at *
  go_wp2_with fail
  refine (recalc_calls c k2 v2 h2 (mkN b k v l l2) r2 w4 C3 ⟨B3, L3, LL3⟩ RR3 (by simp only [Hok, mkN, AT.ht, htOf] at *; omega) (by simp only [Hok, mkN, AT.ht, htOf] at *; omega)).mono ?_
  rintro e w5 ⟨rfl, n', rfl⟩
  go_wp2
  go_ret
  refine ⟨rfl, ⟨(set_h C3 _).drewN n', ⟨(far_N B3 n2).drewN n', (L3.set 2 _ m1).drewN n', (LL3.set 2 _ m2).drewN n'⟩, (RR3.set 2 _ m3).drewN n'⟩, F3.comp ((Fr.setCell w4 c 2 _ (by simp [AT.ids])).comp (Fr.drewN _ _ n'))⟩
set_option maxHeartbeats 1000000 in
theorem rotR_calls (b c : Nat) (k k2 h h2 : Int) (v v2 : Value) (l2 r2 r : AT) (w : World) (hi : (AT.node b k v h (.node c k2 v2 h2 l2 r2) r).In w) (hn : (AT.node b k v h (.node c k2 v2 h2 l2 r2) r).ids.Nodup) (b0 : Hok r) (b1 : Hok l2) (b2 : Hok r2) :
    Calls Try.prog 74 #[.pointer (some ⟨b, 0, none⟩)] w fun e w' => e = .returned (.pointer (some ⟨c, 0, none⟩)) ∧ Turned w w' (.node b k v h (.node c k2 v2 h2 l2 r2) r) (rotR (.node b k v h (.node c k2 v2 h2 l2 r2) r)) := by
  obtain ⟨hb, ⟨hc, hl2, hr2⟩, hr⟩ := hi
  obtain ⟨⟨p0, p1, p2, p3, p4⟩, pf⟩ := node_cells hb
  obtain ⟨⟨q0, q1, q2, q3, q4⟩, qf⟩ := node_cells hc
  obtain ⟨⟨n1, n2, n3, n4⟩, m1, m2, m3⟩ := dis1 hn
  simp only [AT.ptr] at p3
  have ncb : c ≠ b := fun e => n2 e.symm
  have B2 := far_N (c := c) (i := 4) (v := .pointer (some ⟨b, 0, none⟩)) (set_l hb r2 _ rfl) n2
  have C2 := set_r (far_N (c := b) (i := 3) (v := .pointer r2.ptr) hc ncb) (mkN b k v r2 r) (some ⟨b, 0, none⟩) rfl
  have R2 := (hr.set 3 (.pointer r2.ptr) n1).set 4 (.pointer (some ⟨b, 0, none⟩)) m1
  have LL2 := (hl2.set 3 (.pointer r2.ptr) n3).set 4 (.pointer (some ⟨b, 0, none⟩)) m2
  have RR2 := (hr2.set 3 (.pointer r2.ptr) n4).set 4 (.pointer (some ⟨b, 0, none⟩)) m3
  have F2 : Fr (AT.node b k v h (.node c k2 v2 h2 l2 r2) r).ids w ((w.setCell ⟨b, 3, none⟩ (.pointer r2.ptr)).setCell ⟨c, 4, none⟩ (.pointer (some ⟨b, 0, none⟩))) :=
    (Fr.setCell w b 3 _ (by simp [AT.ids])).comp (Fr.setCell _ c 4 _ (by simp [AT.ids]))
  clear hb hc hr hl2 hr2 hn
  go_enter Try.func74, Try.ntmps74
  go_wp2_with fail
  generalize ((w.setCell ⟨b, 3, none⟩ (.pointer r2.ptr)).setCell ⟨c, 4, none⟩ (.pointer (some ⟨b, 0, none⟩))) = w2 at *
  refine (recalc_calls b k v h r2 r w2 B2 RR2 R2 (by unfold Hok at *; omega) (by unfold Hok at *; omega)).mono ?_
  rintro e w3 ⟨rfl, n, rfl⟩
  have B3 := (set_h B2 (htOf r2 r)).drewN n
  have C3 : Blk _ c (cellsN k2 v2 h2 l2 (mkN b k v r2 r)) 107 := (far_N (c := b) (i := 2) (v := .int .i64 (htOf r2 r)) C2 ncb).drewN n
  have R3 := (R2.set 2 (.int .i64 (htOf r2 r)) n1).drewN n
  have LL3 := (LL2.set 2 (.int .i64 (htOf r2 r)) n3).drewN n
  have RR3 := (RR2.set 2 (.int .i64 (htOf r2 r)) n4).drewN n
  have F3 : Fr (AT.node b k v h (.node c k2 v2 h2 l2 r2) r).ids w _ := F2.comp ((Fr.setCell w2 b 2 (.int .i64 (htOf r2 r)) (by simp [AT.ids])).comp (Fr.drewN _ _ n))
  clear B2 C2 R2 LL2 RR2 F2 p0 p1 p2 p3 p4 pf q0 q1 q2 q3 q4 qf
  generalize (w2.setCell ⟨b, 2, none⟩ (.int .i64 (htOf r2 r))).drewN n = w4 at *
  go_wp2_with fail
  refine (recalc_calls c k2 v2 h2 l2 (mkN b k v r2 r) w4 C3 LL3 ⟨B3, RR3, R3⟩ (by simp only [Hok, mkN, AT.ht, htOf] at *; omega) (by simp only [Hok, mkN, AT.ht, htOf] at *; omega)).mono ?_
  rintro e w5 ⟨rfl, n', rfl⟩
  go_wp2
  go_ret
  refine ⟨rfl, ⟨(set_h C3 _).drewN n', (LL3.set 2 _ m2).drewN n', (far_N B3 n2).drewN n', (RR3.set 2 _ m3).drewN n', (R3.set 2 _ m1).drewN n'⟩, F3.comp ((Fr.setCell w4 c 2 _ (by simp [AT.ids])).comp (Fr.drewN _ _ n'))⟩
end Go.Proofs.Ytjbelfbfhcmgeaa
