/- AVL trees in memory: add, remove, search, size. -/
import Derived.Test.YtjbelfbfhcmgeaaAvl2
namespace Go.Proofs.Ytjbelfbfhcmgeaa
open Go.RowKit

/-- balanced, with right heights. -/
def AT.Ok : AT → Prop
  | .nil => True
  | .node _ _ _ h l r => (h = htOf l r ∧ -1 ≤ l.ht - r.ht ∧ l.ht - r.ht ≤ 1) ∧ l.Ok ∧ r.Ok
theorem AT.Ok.ht0 : ∀ {t : AT}, t.Ok → 0 ≤ t.ht
  | .nil, _ => by simp [AT.ht]
  | .node _ _ _ h l r, ⟨⟨e, _, _⟩, hl, hr⟩ => by
    have := hl.ht0; have := hr.ht0
    rw [ht_node, e]; unfold htOf; omega
theorem AT.Ok.size : ∀ {t : AT}, t.Ok → t.ht ≤ t.ids.length
  | .nil, _ => by simp [AT.ht, AT.ids]
  | .node _ _ _ h l r, ⟨⟨e, _, _⟩, hl, hr⟩ => by
    have := hl.size; have := hr.size
    have := hl.ht0; have := hr.ht0
    rw [ht_node, e]; simp only [htOf, AT.ids, List.length_cons, List.length_append]; omega
theorem AT.Ok.hb : ∀ {t : AT}, t.Ok → t.ids.length ≤ 20000000000 → t.Hb
  | .nil, _, _ => trivial
  | .node b k v h l r, ok, hs => by
    have h0 := AT.Ok.ht0 ok
    have h1 := AT.Ok.size ok
    rw [ht_node] at h0 h1
    simp only [AT.ids, List.length_cons, List.length_append] at hs h1
    exact ⟨⟨h0, by omega⟩, AT.Ok.hb ok.2.1 (by omega), AT.Ok.hb ok.2.2 (by omega)⟩
theorem mkN_ht (b : Nat) (k : Int) (v : Value) (l r : AT) : (mkN b k v l r).ht = htOf l r := rfl
/-- one step of rebalancing: balanced again; as high as it was, or lower by one. -/
theorem reb_ok (b : Nat) (k : Int) (v : Value) (h : Int) (l r : AT) (hl : l.Ok) (hr : r.Ok) (d1 : -2 ≤ l.ht - r.ht) (d2 : l.ht - r.ht ≤ 2) :
    (reb (.node b k v h l r)).Ok ∧ (reb (.node b k v h l r)).ht ≤ htOf l r ∧ htOf l r - 1 ≤ (reb (.node b k v h l r)).ht ∧ ((-1 ≤ l.ht - r.ht ∧ l.ht - r.ht ≤ 1) → (reb (.node b k v h l r)).ht = htOf l r) := by
  have l0 := hl.ht0
  have r0 := hr.ht0
  by_cases c1 : l.ht - r.ht ≤ -2
  · have e : reb (.node b k v h l r) = rotL (.node b k v (htOf l r) l (fixR r)) := if_pos c1
    rw [e]
    cases r with
    | nil => simp only [AT.ht] at *; omega
    | node c k2 v2 h2 l2 r2 =>
      obtain ⟨⟨e2, a1, a2⟩, hl2, hr2⟩ := hr
      have l20 := hl2.ht0
      have r20 := hr2.ht0
      by_cases c2 : r2.ht < l2.ht
      · have e3 : fixR (.node c k2 v2 h2 l2 r2) = rotR (.node c k2 v2 h2 l2 r2) := if_pos c2
        rw [e3]
        cases l2 with
        | nil => simp only [AT.ht] at *; omega
        | node d k3 v3 h3 l3 r3 =>
          obtain ⟨⟨e4, a3, a4⟩, hl3, hr3⟩ := hl2
          have l30 := hl3.ht0
          have r30 := hr3.ht0
          simp only [rotR, rotL, mkN, AT.Ok, ht_node, htOf] at *
          refine ⟨⟨⟨trivial, ?_, ?_⟩, ⟨⟨trivial, ?_, ?_⟩, hl, hl3⟩, ⟨⟨trivial, ?_, ?_⟩, hr3, hr2⟩⟩, ?_, ?_, ?_⟩ <;> omega
      · have e3 : fixR (.node c k2 v2 h2 l2 r2) = .node c k2 v2 h2 l2 r2 := if_neg c2
        rw [e3]
        simp only [rotL, mkN, AT.Ok, ht_node, htOf] at *
        refine ⟨⟨⟨trivial, ?_, ?_⟩, ⟨⟨trivial, ?_, ?_⟩, hl, hl2⟩, hr2⟩, ?_, ?_, ?_⟩ <;> omega
  · by_cases c3 : 2 ≤ l.ht - r.ht
    · have e : reb (.node b k v h l r) = rotR (.node b k v (htOf l r) (fixL l) r) := (if_neg c1).trans (if_pos c3)
      rw [e]
      cases l with
      | nil => simp only [AT.ht] at *; omega
      | node c k2 v2 h2 l2 r2 =>
        obtain ⟨⟨e2, a1, a2⟩, hl2, hr2⟩ := hl
        have l20 := hl2.ht0
        have r20 := hr2.ht0
        by_cases c2 : l2.ht < r2.ht
        · have e3 : fixL (.node c k2 v2 h2 l2 r2) = rotL (.node c k2 v2 h2 l2 r2) := if_pos c2
          rw [e3]
          cases r2 with
          | nil => simp only [AT.ht] at *; omega
          | node d k3 v3 h3 l3 r3 =>
            obtain ⟨⟨e4, a3, a4⟩, hl3, hr3⟩ := hr2
            have l30 := hl3.ht0
            have r30 := hr3.ht0
            simp only [rotR, rotL, mkN, AT.Ok, ht_node, htOf] at *
            refine ⟨⟨⟨trivial, ?_, ?_⟩, ⟨⟨trivial, ?_, ?_⟩, hl2, hl3⟩, ⟨⟨trivial, ?_, ?_⟩, hr3, hr⟩⟩, ?_, ?_, ?_⟩ <;> omega
        · have e3 : fixL (.node c k2 v2 h2 l2 r2) = .node c k2 v2 h2 l2 r2 := if_neg c2
          rw [e3]
          simp only [rotR, mkN, AT.Ok, ht_node, htOf] at *
          refine ⟨⟨⟨trivial, ?_, ?_⟩, hl2, ⟨⟨trivial, ?_, ?_⟩, hr2, hr⟩⟩, ?_, ?_, ?_⟩ <;> omega
    · have e : reb (.node b k v h l r) = mkN b k v l r := (if_neg c1).trans (if_neg c3)
      rw [e]
      simp only [mkN, AT.Ok, ht_node]
      refine ⟨⟨⟨trivial, ?_, ?_⟩, hl, hr⟩, ?_, ?_, ?_⟩ <;> first | omega | simp
/-- Put: a key that is alike keeps its place. -/
def AT.add (xs : List Int) (k : Int) (v : Value) (nb : Nat) : AT → AT
  | .nil => .node nb k v 1 .nil .nil
  | .node b k2 v2 h l r =>
    if cmpOf xs k k2 < 0 then reb (.node b k2 v2 h (l.add xs k v nb) r)
    else if 0 < cmpOf xs k k2 then reb (.node b k2 v2 h l (r.add xs k v nb))
    else reb (.node b k2 v h l r)
theorem add_ids (xs : List Int) (k : Int) (v : Value) (nb : Nat) : ∀ t : AT, (t.add xs k v nb).ids.Perm t.ids ∨ (t.add xs k v nb).ids.Perm (nb :: t.ids)
  | .nil => .inr (List.Perm.refl _)
  | .node b k2 v2 h l r => by
    unfold AT.add
    split
    · rcases add_ids xs k v nb l with hp | hp
      · refine .inl ((reb_ids _).trans ?_); simp only [AT.ids]; exact List.Perm.cons _ (List.Perm.append_right _ hp)
      · refine .inr ((reb_ids _).trans ?_); simp only [AT.ids]
        exact (List.Perm.cons _ (List.Perm.append_right _ hp)).trans (List.Perm.swap _ _ _)
    · split
      · rcases add_ids xs k v nb r with hp | hp
        · refine .inl ((reb_ids _).trans ?_); simp only [AT.ids]; exact List.Perm.cons _ (List.Perm.append_left _ hp)
        · refine .inr ((reb_ids _).trans ?_); simp only [AT.ids]
          exact (List.Perm.cons _ ((List.Perm.append_left _ hp).trans List.perm_middle)).trans (List.Perm.swap _ _ _)
      · exact .inl (reb_ids _)
theorem add_ok (xs : List Int) (k : Int) (v : Value) (nb : Nat) : ∀ t : AT, t.Ok → (t.add xs k v nb).Ok ∧ t.ht ≤ (t.add xs k v nb).ht ∧ (t.add xs k v nb).ht ≤ t.ht + 1
  | .nil, _ => by simp [AT.add, AT.Ok, AT.ht, htOf]
  | .node b k2 v2 h l r, ok => by
    obtain ⟨⟨rfl, a1, a2⟩, hl, hr⟩ := ok
    have il := add_ok xs k v nb l hl
    have ir := add_ok xs k v nb r hr
    unfold AT.add
    rw [ht_node]
    split
    · have := reb_ok b k2 v2 (htOf l r) (l.add xs k v nb) r il.1 hr (by omega) (by omega)
      refine ⟨this.1, ?_, ?_⟩ <;> (unfold htOf at *; omega)
    · split
      · have := reb_ok b k2 v2 (htOf l r) l (r.add xs k v nb) hl ir.1 (by omega) (by omega)
        refine ⟨this.1, ?_, ?_⟩ <;> (unfold htOf at *; omega)
      · have := reb_ok b k2 v (htOf l r) l r hl hr (by omega) (by omega)
        refine ⟨this.1, ?_, ?_⟩ <;> (unfold htOf at *; omega)
theorem cmp_lt {xs : List Int} {a b : Int} : cmpOf xs a b = -1 ∨ cmpOf xs a b = 0 ∨ cmpOf xs a b = 1 := by
  unfold cmpOf; split
  · simp
  · split <;> simp
/-- one part of a node grows by a new block at most: what becomes of the blocks' numbers. -/
theorem grow_l {b nb : Nat} {k2 h : Int} {v2 : Value} {l l' r : AT} (hp : l'.ids.Perm l.ids ∨ l'.ids.Perm (nb :: l.ids)) (hn : (AT.node b k2 v2 h l r).ids.Nodup) (hx : nb ∉ (AT.node b k2 v2 h l r).ids) :
    (AT.node b k2 v2 h l' r).ids.Nodup ∧ (∀ y ∈ (AT.node b k2 v2 h l' r).ids, y ∈ (AT.node b k2 v2 h l r).ids ∨ y = nb) ∧ b ∉ l'.ids := by
  simp only [AT.ids] at *
  have hm : ∀ y ∈ l'.ids, y ∈ l.ids ∨ y = nb := by
    intro y hy
    rcases hp with hp | hp
    · exact .inl (hp.mem_iff.1 hy)
    · exact (List.mem_cons.1 (hp.mem_iff.1 hy)).symm
  have hnl : l'.ids.Nodup := by
    rcases hp with hp | hp
    · rw [hp.nodup_iff]; grind
    · rw [hp.nodup_iff]; grind
  clear hp
  grind
theorem grow_r {b nb : Nat} {k2 h : Int} {v2 : Value} {l r' r : AT} (hp : r'.ids.Perm r.ids ∨ r'.ids.Perm (nb :: r.ids)) (hn : (AT.node b k2 v2 h l r).ids.Nodup) (hx : nb ∉ (AT.node b k2 v2 h l r).ids) :
    (AT.node b k2 v2 h l r').ids.Nodup ∧ (∀ y ∈ (AT.node b k2 v2 h l r').ids, y ∈ (AT.node b k2 v2 h l r).ids ∨ y = nb) ∧ b ∉ r'.ids := by
  simp only [AT.ids] at *
  have hm : ∀ y ∈ r'.ids, y ∈ r.ids ∨ y = nb := by
    intro y hy
    rcases hp with hp | hp
    · exact .inl (hp.mem_iff.1 hy)
    · exact (List.mem_cons.1 (hp.mem_iff.1 hy)).symm
  have hnl : r'.ids.Nodup := by
    rcases hp with hp | hp
    · rw [hp.nodup_iff]; grind
    · rw [hp.nodup_iff]; grind
  clear hp
  grind
theorem grow_len {l l' : AT} {nb : Nat} (hp : l'.ids.Perm l.ids ∨ l'.ids.Perm (nb :: l.ids)) : l'.ids.length ≤ l.ids.length + 1 := by
  rcases hp with hp | hp
  · rw [hp.length_eq]; omega
  · rw [hp.length_eq, List.length_cons]; omega
set_option maxHeartbeats 1000000 in
theorem add_calls (xs : List Int) (f : Value) (B : Nat) (k x : Int) : ∀ (t : AT) (w : World), t.In w → t.ids.Nodup → t.Ok → t.ids.length ≤ 10000000000 → LessOk w B f xs → (∀ i ∈ t.ids, B ≤ i) → B ≤ w.heap.size →
    Calls Try.prog 63 #[.pointer t.ptr, .int .i64 k, .int .i64 x, f] w fun e w' => e = .returned (.pointer (t.add xs k (.int .i64 x) w.heap.size).ptr) ∧ (t.add xs k (.int .i64 x) w.heap.size).In w' ∧ Fr t.ids w w' := by
  intro t
  induction t with
  | nil =>
    intro w _ _ _ _ hf _ hB
    show Calls _ _ #[.pointer none, _, _, _] _ _
    go_enter Try.func63, Try.ntmps63
    go_wp2
    go_ret
    exact ⟨rfl, ⟨Blk.new _ _ _, trivial, trivial⟩, Fr.alloc _ _ _⟩
  | node b k2 v2 h l r ihl ihr =>
    intro w hi hn ok hs hf hB hB2
    obtain ⟨hb, il, ir⟩ := hi
    show Calls _ _ #[.pointer (some ⟨b, 0, none⟩), _, _, _] _ _
    have hc := compare_calls xs f B k k2
    have nb : b ∉ l.ids ∧ b ∉ r.ids := by simp only [AT.ids] at hn; grind
    have nd : l.ids.Nodup ∧ r.ids.Nodup := by simp only [AT.ids] at hn; grind
    have dis : ∀ y, y ∈ l.ids → y ∉ r.ids := by simp only [AT.ids] at hn; grind
    rcases cmp_lt (xs := xs) (a := k) (b := k2) with c | c | c
    · have e : (AT.node b k2 v2 h l r).add xs k (.int .i64 x) w.heap.size = reb (.node b k2 v2 h (l.add xs k (.int .i64 x) w.heap.size) r) := by
        simp only [AT.add]; rw [if_pos (by omega)]
      rw [e]
      rw [c] at hc
      clear e c
      obtain ⟨⟨p0, p1, p2, p3, p4⟩, pf⟩ := node_cells hb
      have H := Lib.hid hb
      have HC := Lib.hid hc
      have HN := Lib.hid hn
      clear hb hc hn
      go_enter Try.func63, Try.ntmps63
      go_wp2_with fail
      refine (HC.out w hf).mono ?_
      rintro e w1 ⟨rfl, n1, rfl⟩
      go_wp2_with fail
      refine (ihl (w.drewN n1) (il.drewN _) (nd.1) (ok.2.1) (by simp only [AT.ids, List.length_cons, List.length_append] at hs; omega) (hf.below (Below.drewN w _)) (fun i hi => hB i (by simp only [AT.ids]; grind)) hB2).mono ?_
      rintro e w2 ⟨rfl, hT, hF⟩
      have hF' : Fr l.ids w w2 := (Fr.drewN _ _ n1).comp hF
      have B2 := H.out.fr hF' nb.1
      have O2 := ir.fr hF' (fun y hy hz => dis y hz hy)
      have hT' : (l.add xs k (.int .i64 x) w.heap.size).In w2 := hT
      have hid := add_ids xs k (.int .i64 x) w.heap.size l
      have hlt := AT.In.lt (t := .node b k2 v2 h l r) ⟨H.out, il, ir⟩
      obtain ⟨hn3, hsub', nb2⟩ := grow_l (h := h) hid HN.out (fun hx => absurd (hlt _ hx) (by omega))
      have hsub : ∀ y ∈ (AT.node b k2 v2 h (l.add xs k (.int .i64 x) w.heap.size) r).ids, y ∈ (AT.node b k2 v2 h l r).ids ∨ w.heap.size ≤ y := fun y hy => (hsub' y hy).imp id (fun e => by omega)
      have hlen := grow_len hid
      have B3 := set_l B2 (l.add xs k (.int .i64 x) w.heap.size) _ rfl
      have O3 := O2.set 3 (.pointer (l.add xs k (.int .i64 x) w.heap.size).ptr) nb.2
      have T3 := hT'.set 3 (.pointer (l.add xs k (.int .i64 x) w.heap.size).ptr) nb2
      have F3 : Fr (AT.node b k2 v2 h l r).ids w (w2.setCell ⟨b, 3, none⟩ (.pointer (l.add xs k (.int .i64 x) w.heap.size).ptr)) := (hF'.mono (fun y hy => .inl (by simp only [AT.ids]; grind))).comp (Fr.setCell _ b 3 _ (by simp [AT.ids]))
      obtain ⟨⟨p0, p1, p2, p3, p4⟩, pf⟩ := node_cells B2
      have lok := (add_ok xs k (.int .i64 x) w.heap.size l (ok.2.1)).1
      have lsz : (l.add xs k (.int .i64 x) w.heap.size).ids.length ≤ 20000000000 := by
        simp only [AT.ids, List.length_cons, List.length_append] at hs
        omega
      have osz : r.ids.length ≤ 20000000000 := by simp only [AT.ids, List.length_cons, List.length_append] at hs; omega
      clear hT hF hT' B2 O2 hid hlt nb2 hF' hsub' hlen
      go_wp2_with fail
      generalize (w2.setCell ⟨b, 3, none⟩ (.pointer (l.add xs k (.int .i64 x) w.heap.size).ptr)) = w3 at *
      refine (reb_calls b k2 h v2 _ r w3 ⟨B3, T3, O3⟩ hn3 (lok.hb lsz) (ok.2.2.hb osz)).mono ?_
      rintro e w4 ⟨rfl, ht⟩
      go_wp2
      go_ret
      exact ⟨rfl, ht.lies, F3.trans ht.frame (fun _ h => .inl h) hsub⟩
    · have e : (AT.node b k2 v2 h l r).add xs k (.int .i64 x) w.heap.size = reb (.node b k2 (.int .i64 x) h l r) := by
        simp only [AT.add]; rw [if_neg (by omega), if_neg (by omega)]
      rw [e]
      rw [c] at hc
      clear e c
      obtain ⟨⟨p0, p1, p2, p3, p4⟩, pf⟩ := node_cells hb
      have hf1 := fun n => hf.below (Below.drewN (B := B) w n)
      have H := Lib.hid hb
      have HC := Lib.hid hc
      have HN := Lib.hid hn
      clear hb hc hn
      go_enter Try.func63, Try.ntmps63
      go_wp2_with fail
      refine (HC.out w hf).mono ?_
      rintro e w1 ⟨rfl, n1, rfl⟩
      go_wp2_with fail
      refine (HC.out _ (hf1 _)).mono ?_
      rintro e w1 ⟨rfl, n2, rfl⟩
      go_wp2_with fail
      have B3 : Blk (w.setCell ⟨b, 1, none⟩ (.int .i64 x)) b (cellsN k2 (.int .i64 x) h l r) 107 := H.out.set 1 _
      have O3 := il.set 1 (.int .i64 x) nb.1
      have T3 := ir.set 1 (.int .i64 x) nb.2
      have F3 : Fr (AT.node b k2 v2 h l r).ids w (w.setCell ⟨b, 1, none⟩ (.int .i64 x)) := Fr.setCell _ b 1 _ (by simp [AT.ids])
      simp only [AT.ids, List.length_cons, List.length_append] at hs
      refine (reb_calls b k2 h (.int .i64 x) l r _ ⟨B3.drewN _, O3.drewN _, T3.drewN _⟩ HN.out (ok.2.1.hb (by omega)) (ok.2.2.hb (by omega))).mono ?_
      rintro e w4 ⟨rfl, ht⟩
      go_wp2
      go_ret
      exact ⟨rfl, ht.lies, F3.comp ((Fr.drewN _ _ _).comp ht.frame)⟩
    · have e : (AT.node b k2 v2 h l r).add xs k (.int .i64 x) w.heap.size = reb (.node b k2 v2 h l (r.add xs k (.int .i64 x) w.heap.size)) := by
        simp only [AT.add]; rw [if_neg (by omega), if_pos (by omega)]
      rw [e]
      rw [c] at hc
      clear e c
      obtain ⟨⟨p0, p1, p2, p3, p4⟩, pf⟩ := node_cells hb
      have hf1 := fun n => hf.below (Below.drewN (B := B) w n)
      have H := Lib.hid hb
      have HC := Lib.hid hc
      have HN := Lib.hid hn
      clear hb hc hn
      go_enter Try.func63, Try.ntmps63
      go_wp2_with fail
      refine (HC.out w hf).mono ?_
      rintro e w1 ⟨rfl, n1, rfl⟩
      go_wp2_with fail
      refine (HC.out _ (hf1 _)).mono ?_
      rintro e w1 ⟨rfl, n2, rfl⟩
      go_wp2_with fail
      refine (ihr (w.drewN (n1 + n2)) (ir.drewN _) (nd.2) (ok.2.2) (by simp only [AT.ids, List.length_cons, List.length_append] at hs; omega) (hf.below (Below.drewN w _)) (fun i hi => hB i (by simp only [AT.ids]; grind)) hB2).mono ?_
      rintro e w2 ⟨rfl, hT, hF⟩
      have hF' : Fr r.ids w w2 := (Fr.drewN _ _ (n1 + n2)).comp hF
      have B2 := H.out.fr hF' nb.2
      have O2 := il.fr hF' (fun y hy hz => dis y hy hz)
      have hT' : (r.add xs k (.int .i64 x) w.heap.size).In w2 := hT
      have hid := add_ids xs k (.int .i64 x) w.heap.size r
      have hlt := AT.In.lt (t := .node b k2 v2 h l r) ⟨H.out, il, ir⟩
      obtain ⟨hn3, hsub', nb2⟩ := grow_r (h := h) hid HN.out (fun hx => absurd (hlt _ hx) (by omega))
      have hsub : ∀ y ∈ (AT.node b k2 v2 h l (r.add xs k (.int .i64 x) w.heap.size)).ids, y ∈ (AT.node b k2 v2 h l r).ids ∨ w.heap.size ≤ y := fun y hy => (hsub' y hy).imp id (fun e => by omega)
      have hlen := grow_len hid
      have B3 := set_r B2 (r.add xs k (.int .i64 x) w.heap.size) _ rfl
      have O3 := O2.set 4 (.pointer (r.add xs k (.int .i64 x) w.heap.size).ptr) nb.1
      have T3 := hT'.set 4 (.pointer (r.add xs k (.int .i64 x) w.heap.size).ptr) nb2
      have F3 : Fr (AT.node b k2 v2 h l r).ids w (w2.setCell ⟨b, 4, none⟩ (.pointer (r.add xs k (.int .i64 x) w.heap.size).ptr)) := (hF'.mono (fun y hy => .inl (by simp only [AT.ids]; grind))).comp (Fr.setCell _ b 4 _ (by simp [AT.ids]))
      obtain ⟨⟨p0, p1, p2, p3, p4⟩, pf⟩ := node_cells B2
      have lok := (add_ok xs k (.int .i64 x) w.heap.size r (ok.2.2)).1
      have lsz : (r.add xs k (.int .i64 x) w.heap.size).ids.length ≤ 20000000000 := by
        simp only [AT.ids, List.length_cons, List.length_append] at hs
        omega
      have osz : l.ids.length ≤ 20000000000 := by simp only [AT.ids, List.length_cons, List.length_append] at hs; omega
      clear hT hF hT' B2 O2 hid hlt nb2 hF' hsub' hlen
      go_wp2_with fail
      generalize (w2.setCell ⟨b, 4, none⟩ (.pointer (r.add xs k (.int .i64 x) w.heap.size).ptr)) = w3 at *
      refine (reb_calls b k2 h v2 l _ w3 ⟨B3, O3, T3⟩ hn3 (ok.2.1.hb osz) (lok.hb lsz)).mono ?_
      rintro e w4 ⟨rfl, ht⟩
      go_wp2
      go_ret
      exact ⟨rfl, ht.lies, F3.trans ht.frame (fun _ h => .inl h) hsub⟩
end Go.Proofs.Ytjbelfbfhcmgeaa
