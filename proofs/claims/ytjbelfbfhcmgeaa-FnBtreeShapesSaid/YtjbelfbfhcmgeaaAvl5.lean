/- AVL trees in memory: remove. -/
import Derived.Test.YtjbelfbfhcmgeaaAvl4
namespace Go.Proofs.Ytjbelfbfhcmgeaa
open Go.RowKit

/-- what takes the place of a node that goes: q is its right part without the least node. -/
def remTop (b : Nat) (h : Int) (l r q : AT) : AT :=
  match l, r with
  | .nil, .nil => .nil
  | .node b' k' v' h' l' r', .nil => reb (.node b' k' v' h' l' r')
  | .nil, .node b' k' v' h' l' r' => reb (.node b' k' v' h' l' r')
  | .node b' k' v' h' l' r', r => reb (.node b r.least.2.1 r.least.2.2 h (.node b' k' v' h' l' r') q)
/-- Remove: the next greater node's key and value take the place of a node with two parts. -/
def AT.rem (xs : List Int) (k : Int) : AT → AT
  | .nil => .nil
  | .node b k2 v2 h l r =>
    if cmpOf xs k k2 < 0 then reb (.node b k2 v2 h (l.rem xs k) r)
    else if 0 < cmpOf xs k k2 then reb (.node b k2 v2 h l (r.rem xs k))
    else remTop b h l r (r.rem xs r.least.2.1)
theorem rem_ids (xs : List Int) : ∀ (t : AT) (k : Int), ∃ L, (L ++ (t.rem xs k).ids).Perm t.ids
  | .nil, _ => ⟨[], List.Perm.refl _⟩
  | .node b k2 v2 h l r, k => by
    unfold AT.rem
    split
    · obtain ⟨L, hp⟩ := rem_ids xs l k
      refine ⟨L, (List.Perm.append_left _ (reb_ids _)).trans ?_⟩
      simp only [AT.ids]
      refine List.perm_middle.trans (List.Perm.cons _ ?_)
      rw [← List.append_assoc]
      exact List.Perm.append_right _ hp
    · split
      · obtain ⟨L, hp⟩ := rem_ids xs r k
        refine ⟨L, (List.Perm.append_left _ (reb_ids _)).trans ?_⟩
        simp only [AT.ids]
        refine List.perm_middle.trans (List.Perm.cons _ ?_)
        refine List.Perm.trans ?_ (List.Perm.append_left _ hp)
        rw [← List.append_assoc, ← List.append_assoc]
        exact List.Perm.append_right _ List.perm_append_comm
      · unfold remTop
        split
        · exact ⟨[b], by simp [AT.ids]⟩
        · refine ⟨[b], (List.Perm.append_left _ (reb_ids _)).trans ?_⟩
          simp [AT.ids]
        · refine ⟨[b], (List.Perm.append_left _ (reb_ids _)).trans ?_⟩
          simp [AT.ids]
        · obtain ⟨L, hp⟩ := rem_ids xs r r.least.2.1
          refine ⟨L, (List.Perm.append_left _ (reb_ids _)).trans ?_⟩
          simp only [AT.ids]
          refine List.perm_middle.trans (List.Perm.cons _ ?_)
          refine List.Perm.trans ?_ (List.Perm.append_left _ hp)
          rw [← List.append_assoc, ← List.append_assoc]
          exact List.Perm.append_right _ List.perm_append_comm
theorem ht_nil : AT.nil.ht = 0 := rfl
theorem rem_ok (xs : List Int) : ∀ (t : AT) (k : Int), t.Ok → (t.rem xs k).Ok ∧ t.ht - 1 ≤ (t.rem xs k).ht ∧ (t.rem xs k).ht ≤ t.ht
  | .nil, _, _ => by simp [AT.rem, AT.Ok, AT.ht]
  | .node b k2 v2 h l r, k, ok => by
    obtain ⟨⟨rfl, a1, a2⟩, hl, hr⟩ := ok
    have l0 := hl.ht0
    have r0 := hr.ht0
    have il := rem_ok xs l k hl
    have ir := rem_ok xs r k hr
    unfold AT.rem
    rw [ht_node]
    split
    · have := reb_ok b k2 v2 (htOf l r) (l.rem xs k) r il.1 hr (by omega) (by omega)
      refine ⟨this.1, ?_, ?_⟩ <;> (unfold htOf at *; omega)
    · split
      · have := reb_ok b k2 v2 (htOf l r) l (r.rem xs k) hl ir.1 (by omega) (by omega)
        refine ⟨this.1, ?_, ?_⟩ <;> (unfold htOf at *; omega)
      · unfold remTop
        split
        · simp [AT.Ok, AT.ht, htOf]
        · rename_i b' k' v' h' l' r'
          have := reb_ok b' k' v' h' l' r' hl.2.1 hl.2.2 (by have := hl.1; omega) (by have := hl.1; omega)
          have e := hl.1.1
          have q := this.2.2.2 (by have := hl.1; omega)
          simp only [ht_node, ht_nil, htOf] at *
          refine ⟨this.1, ?_, ?_⟩ <;> omega
        · rename_i b' k' v' h' l' r'
          have := reb_ok b' k' v' h' l' r' hr.2.1 hr.2.2 (by have := hr.1; omega) (by have := hr.1; omega)
          have e := hr.1.1
          have q := this.2.2.2 (by have := hr.1; omega)
          simp only [ht_node, ht_nil, htOf] at *
          refine ⟨this.1, ?_, ?_⟩ <;> omega
        · rename_i b' k' v' h' l' r' _
          have ir := rem_ok xs r r.least.2.1 hr
          have := reb_ok b r.least.2.1 r.least.2.2 (htOf (.node b' k' v' h' l' r') r) (.node b' k' v' h' l' r') (r.rem xs r.least.2.1) hl ir.1 (by omega) (by omega)
          refine ⟨this.1, ?_, ?_⟩ <;> (unfold htOf at *; omega)
/-- a part of a node gives blocks up. -/
theorem shrink_l {b : Nat} {k2 k3 h : Int} {v2 v3 : Value} {l l' r : AT} (hp : ∃ L, (L ++ l'.ids).Perm l.ids) (hn : (AT.node b k2 v2 h l r).ids.Nodup) :
    (AT.node b k3 v3 h l' r).ids.Nodup ∧ (∀ y ∈ (AT.node b k3 v3 h l' r).ids, y ∈ (AT.node b k2 v2 h l r).ids) ∧ b ∉ l'.ids ∧ l'.ids.length ≤ l.ids.length := by
  obtain ⟨L, hp⟩ := hp
  have hm : ∀ y ∈ l'.ids, y ∈ l.ids := fun y hy => hp.mem_iff.1 (List.mem_append_right _ hy)
  have hln := hp.length_eq
  simp only [AT.ids] at *
  have hnl : l'.ids.Nodup := by
    have : (L ++ l'.ids).Nodup := hp.nodup_iff.2 (by grind)
    exact (List.nodup_append.1 this).2.1
  simp only [List.length_append] at hln
  refine ⟨?_, ?_, ?_, by omega⟩ <;> (clear hp hln; grind)
theorem shrink_r {b : Nat} {k2 k3 h : Int} {v2 v3 : Value} {l r' r : AT} (hp : ∃ L, (L ++ r'.ids).Perm r.ids) (hn : (AT.node b k2 v2 h l r).ids.Nodup) :
    (AT.node b k3 v3 h l r').ids.Nodup ∧ (∀ y ∈ (AT.node b k3 v3 h l r').ids, y ∈ (AT.node b k2 v2 h l r).ids) ∧ b ∉ r'.ids ∧ r'.ids.length ≤ r.ids.length := by
  obtain ⟨L, hp⟩ := hp
  have hm : ∀ y ∈ r'.ids, y ∈ r.ids := fun y hy => hp.mem_iff.1 (List.mem_append_right _ hy)
  have hln := hp.length_eq
  simp only [AT.ids] at *
  have hnl : r'.ids.Nodup := by
    have : (L ++ r'.ids).Nodup := hp.nodup_iff.2 (by grind)
    exact (List.nodup_append.1 this).2.1
  simp only [List.length_append] at hln
  refine ⟨?_, ?_, ?_, by omega⟩ <;> (clear hp hln; grind)
set_option maxRecDepth 100000 in
set_option maxHeartbeats 2000000 in
theorem rem_calls (xs : List Int) (f : Value) (B : Nat) : ∀ (t : AT) (k : Int) (w : World), t.In w → t.ids.Nodup → t.Ok → t.Vs → t.ids.length ≤ 10000000000 → LessOk w B f xs → (∀ i ∈ t.ids, B ≤ i) → B ≤ w.heap.size →
    Calls Try.prog 64 #[.pointer t.ptr, .int .i64 k, f] w fun e w' => e = .returned (.pointer (t.rem xs k).ptr) ∧ (t.rem xs k).In w' ∧ Fr t.ids w w' := by
  intro t
  induction t with
  | nil =>
    intro k w _ _ _ _ _ hf _ hB
    show Calls _ _ #[.pointer none, _, _] _ _
    go_enter Try.func64, Try.ntmps64
    go_wp2
    go_ret
    exact ⟨rfl, trivial, Fr.refl _ _⟩
  | node b k2 v2 h l r ihl ihr =>
    intro k w hi hn ok vs hs hf hB hB2
    obtain ⟨hb, il, ir⟩ := hi
    have hall : (AT.node b k2 v2 h l r).In w := ⟨hb, il, ir⟩
    show Calls _ _ #[.pointer (some ⟨b, 0, none⟩), _, _] _ _
    have hc := compare_calls xs f B k k2
    have hf1 := fun n => hf.below (Below.drewN (B := B) w n)
    have nb : b ∉ l.ids ∧ b ∉ r.ids := by simp only [AT.ids] at hn; grind
    have nd : l.ids.Nodup ∧ r.ids.Nodup := by simp only [AT.ids] at hn; grind
    have dis : ∀ y, y ∈ l.ids → y ∉ r.ids := by simp only [AT.ids] at hn; grind
    have hs' := hs
    simp only [AT.ids, List.length_cons, List.length_append] at hs'
    rcases cmp_lt (xs := xs) (a := k) (b := k2) with c | c | c
    · have e : (AT.node b k2 v2 h l r).rem xs k = reb (AT.node b k2 v2 h (l.rem xs k) r) := by
        rw [AT.rem.eq_def]; exact if_pos (by omega)
      rw [e]
      rw [c] at hc
      clear e c
      obtain ⟨⟨p0, p1, p2, p3, p4⟩, pf⟩ := node_cells hb
      have H := Lib.hid hb
      have HC := Lib.hid hc
      have HN := Lib.hid hn
      clear hb hc hn
      go_enter Try.func64, Try.ntmps64
      go_wp2_with fail
      refine (HC.out w hf).mono ?_
      rintro e w1 ⟨rfl, n1, rfl⟩
      go_wp2_with fail
      refine (ihl k (w.drewN n1) (il.drewN _) (nd.1) (ok.2.1) (vs.2.1) (by omega) (hf1 _) (fun i hi => hB i (by simp only [AT.ids]; grind)) hB2).mono ?_
      rintro e w2 ⟨rfl, hT, hF⟩
      have hF' : Fr l.ids w w2 := (Fr.drewN _ _ n1).comp hF
      have B2 := H.out.fr hF' nb.1
      have O2 := ir.fr hF' (fun y hy hz => dis y hz hy)
      obtain ⟨hn3, hsub, nb2, hlen⟩ := shrink_l (k3 := k2) (v3 := v2) (h := h) (rem_ids xs l k) HN.out
      have B3 := set_l B2 (l.rem xs k) _ rfl
      have O3 := O2.set 3 (.pointer (l.rem xs k).ptr) nb.2
      have T3 := hT.set 3 (.pointer (l.rem xs k).ptr) nb2
      have F3 : Fr (AT.node b k2 v2 h l r).ids w (w2.setCell ⟨b, 3, none⟩ (.pointer (l.rem xs k).ptr)) := (hF'.mono (fun y hy => .inl (by simp only [AT.ids]; grind))).comp (Fr.setCell _ b 3 _ (by simp [AT.ids]))
      obtain ⟨⟨p0, p1, p2, p3, p4⟩, pf⟩ := node_cells B2
      have lok := (rem_ok xs l k (ok.2.1)).1
      have lsz : (l.rem xs k).ids.length ≤ 20000000000 := by omega
      have osz : r.ids.length ≤ 20000000000 := by omega
      clear hT hF B2 O2 nb2 hF' hlen
      go_wp2_with fail
      generalize (w2.setCell ⟨b, 3, none⟩ (.pointer (l.rem xs k).ptr)) = w3 at *
      refine (reb_calls b k2 h v2 _ r w3 ⟨B3, T3, O3⟩ hn3 (lok.hb lsz) (ok.2.2.hb osz)).mono ?_
      rintro e w4 ⟨rfl, ht⟩
      go_wp2
      go_ret
      exact ⟨rfl, ht.lies, F3.trans ht.frame (fun _ h => .inl h) (fun y hy => .inl (hsub y hy))⟩
    · rw [c] at hc
      have e0 : (AT.node b k2 v2 h l r).rem xs k = remTop b h l r (r.rem xs r.least.2.1) := by
        rw [AT.rem.eq_def]; exact (if_neg (by omega)).trans (if_neg (by omega))
      rw [e0]
      clear e0 c
      cases l with
      | nil => cases r with
        | nil =>
          obtain ⟨⟨p0, p1, p2, p3, p4⟩, pf⟩ := node_cells hb
          simp only [AT.ptr] at p3 p4 ⊢
          have H := Lib.hid hb
          have HC := Lib.hid hc
          have HN := Lib.hid hn
          clear hb hc hn
          go_enter Try.func64, Try.ntmps64
          go_wp2_with fail
          refine (HC.out w hf).mono ?_
          rintro e w1 ⟨rfl, n1, rfl⟩
          go_wp2_with fail
          refine (HC.out _ (hf1 _)).mono ?_
          rintro e w1 ⟨rfl, n2, rfl⟩
          go_wp2_with fail
          go_ret
          exact ⟨rfl, trivial, Fr.drewN _ _ _⟩
        | node b' k' v' h' l' r' =>
          obtain ⟨⟨p0, p1, p2, p3, p4⟩, pf⟩ := node_cells hb
          simp only [AT.ptr] at p3 p4
          simp only [AT.ids, List.length_cons, List.length_append, List.length_nil] at hs'
          have H := Lib.hid hb
          have HC := Lib.hid hc
          have HN := Lib.hid hn
          clear hb hc hn
          go_enter Try.func64, Try.ntmps64
          go_wp2_with fail
          refine (HC.out w hf).mono ?_
          rintro e w1 ⟨rfl, n1, rfl⟩
          go_wp2_with fail
          refine (HC.out _ (hf1 _)).mono ?_
          rintro e w1 ⟨rfl, n2, rfl⟩
          go_wp2_with fail
          refine (reb_calls b' k' h' v' l' r' _ (ir.drewN _) nd.2 (ok.2.2.2.1.hb (by omega)) (ok.2.2.2.2.hb (by omega))).mono ?_
          rintro e w4 ⟨rfl, ht⟩
          go_wp2
          go_ret
          exact ⟨rfl, ht.lies, (Fr.drewN _ _ _).comp (ht.frame.mono (fun y hy => .inl (by simp only [AT.ids] at *; grind)))⟩
      | node b' k' v' h' l' r' => cases r with
        | nil =>
          obtain ⟨⟨p0, p1, p2, p3, p4⟩, pf⟩ := node_cells hb
          simp only [AT.ptr] at p3 p4
          simp only [AT.ids, List.length_cons, List.length_append, List.length_nil] at hs'
          have H := Lib.hid hb
          have HC := Lib.hid hc
          have HN := Lib.hid hn
          clear hb hc hn
          go_enter Try.func64, Try.ntmps64
          go_wp2_with fail
          refine (HC.out w hf).mono ?_
          rintro e w1 ⟨rfl, n1, rfl⟩
          go_wp2_with fail
          refine (HC.out _ (hf1 _)).mono ?_
          rintro e w1 ⟨rfl, n2, rfl⟩
          go_wp2_with fail
          refine (reb_calls b' k' h' v' l' r' _ (il.drewN _) nd.1 (ok.2.1.2.1.hb (by omega)) (ok.2.1.2.2.hb (by omega))).mono ?_
          rintro e w4 ⟨rfl, ht⟩
          go_wp2
          go_ret
          exact ⟨rfl, ht.lies, (Fr.drewN _ _ _).comp (ht.frame.mono (fun y hy => .inl (by simp only [AT.ids] at *; grind)))⟩
        | node b4 k4 v4 h4 l4 r4 =>
          have hz : (AT.node b4 k4 v4 h4 l4 r4) ≠ .nil := by simp
          have hp4 : (AT.node b4 k4 v4 h4 l4 r4).ptr = some ⟨b4, 0, none⟩ := rfl
          have hpl : (AT.node b' k' v' h' l' r').ptr = some ⟨b', 0, none⟩ := rfl
          generalize hR : (AT.node b4 k4 v4 h4 l4 r4) = R at *
          generalize hL : (AT.node b' k' v' h' l' r') = L at *
          obtain ⟨lc0, lc1, lm⟩ := AT.least_cells ir hz
          have lv := AT.least_v vs.2.2 hz
          have lst := least_calls R
          have hids := rem_ids xs R R.least.2.1
          have hrok := rem_ok xs R R.least.2.1 ok.2.2
          have hrec := ihr R.least.2.1
          have hgoal : remTop b h L R (R.rem xs R.least.2.1) = reb (.node b R.least.2.1 R.least.2.2 h L (R.rem xs R.least.2.1)) := by
            subst hR; subst hL; rfl
          rw [hgoal]
          clear hgoal ihl ihr
          generalize R.least.1 = lb at *
          generalize R.least.2.1 = lk at *
          generalize R.least.2.2 = lvv at *
          obtain ⟨lx, rfl⟩ := lv
          obtain ⟨⟨p0, p1, p2, p3, p4⟩, pf⟩ := node_cells hb
          rw [hpl] at p3
          rw [hp4] at p4 lst
          have nlb : lb ≠ b := fun e => nb.2 (e ▸ lm)
          have nlb' : b ≠ lb := fun e => nlb e.symm
          have LST := Lib.hid lst
          have HR := Lib.hid hR
          have HL := Lib.hid hL
          have HP4 := Lib.hid hp4
          have HPL := Lib.hid hpl
          have HREC := Lib.hid hrec
          clear lst hR hL hp4 hpl hrec
          have H := Lib.hid hb
          have HC := Lib.hid hc
          have HN := Lib.hid hn
          clear hb hc hn
          go_enter Try.func64, Try.ntmps64
          go_wp2_with fail
          refine (HC.out w hf).mono ?_
          rintro e w1 ⟨rfl, n1, rfl⟩
          go_wp2_with fail
          refine (HC.out _ (hf1 _)).mono ?_
          rintro e w1 ⟨rfl, n2, rfl⟩
          go_wp2_with fail
          refine (LST.out _ (ir.drewN _) hz).mono ?_
          rintro e w2 ⟨rfl, rfl⟩
          have H0 := H.out.drewN (n1 + n2)
          have il0 := il.drewN (n1 + n2)
          have ir0 := ir.drewN (n1 + n2)
          have F0 := Fr.drewN (AT.node b k2 v2 h L R).ids w (n1 + n2)
          have hf0 := hf1 (n1 + n2)
          have hB0 : B ≤ (w.drewN (n1 + n2)).heap.size := hB2
          have lc00 : (w.drewN (n1 + n2)).cell? ⟨lb, 0, none⟩ = some (.int .i64 lk) := lc0
          have lc10 : (w.drewN (n1 + n2)).cell? ⟨lb, 1, none⟩ = some (.int .i64 lx) := lc1
          have pf0 : ∀ i, (w.drewN (n1 + n2)).frozen? ⟨b, i, none⟩ = false := pf
          clear p0 p1 p2 p3 p4 pf lc0 lc1 hall
          generalize (w.drewN (n1 + n2)) = w0 at *
          obtain ⟨⟨p0, p1, p2, p3, p4⟩, _⟩ := node_cells H0
          go_wp2_with fail
          have B2 : Blk ((w0.setCell ⟨b, 0, none⟩ (.int .i64 lk)).setCell ⟨b, 1, none⟩ (.int .i64 lx)) b (cellsN lk (.int .i64 lx) h L R) 107 := (H0.set 0 _).set 1 _
          have L2 := (il0.set 0 (.int .i64 lk) nb.1).set 1 (.int .i64 lx) nb.1
          have R2 := (ir0.set 0 (.int .i64 lk) nb.2).set 1 (.int .i64 lx) nb.2
          have F2' : Fr (AT.node b k2 v2 h L R).ids w0 ((w0.setCell ⟨b, 0, none⟩ (.int .i64 lk)).setCell ⟨b, 1, none⟩ (.int .i64 lx)) := (Fr.setCell _ b 0 _ (by simp [AT.ids])).comp (Fr.setCell _ b 1 _ (by simp [AT.ids]))
          have F2 := F0.comp F2'
          have hf2 : LessOk ((w0.setCell ⟨b, 0, none⟩ (.int .i64 lk)).setCell ⟨b, 1, none⟩ (.int .i64 lx)) B f xs := hf0.below (F2'.below hB hB0)
          have hB3 : B ≤ ((w0.setCell ⟨b, 0, none⟩ (.int .i64 lk)).setCell ⟨b, 1, none⟩ (.int .i64 lx)).heap.size := Nat.le_trans hB0 F2'.size
          have lc2 : ((w0.setCell ⟨b, 0, none⟩ (.int .i64 lk)).setCell ⟨b, 1, none⟩ (.int .i64 lx)).cell? ⟨lb, 0, none⟩ = some (.int .i64 lk) :=
            ((Fr.setCell (S := [b]) w0 b 0 (.int .i64 lk) (by simp)).comp (Fr.setCell _ b 1 (.int .i64 lx) (by simp))).cell lc00 (by simpa using nlb)
          clear p0 p1 p2 p3 p4 pf0 lc00 lc10 H0 il0 ir0 F0 hf0 hB0 F2'
          generalize ((w0.setCell ⟨b, 0, none⟩ (.int .i64 lk)).setCell ⟨b, 1, none⟩ (.int .i64 lx)) = w2 at *
          obtain ⟨⟨p0, p1, p2, p3, p4⟩, pf⟩ := node_cells B2
          rw [HPL.out] at p3
          rw [HP4.out] at p4
          obtain ⟨hn3, hsub, nb2, hlen⟩ := shrink_r (k3 := lk) (v3 := .int .i64 lx) (h := h) hids HN.out
          have hdr : ∀ wx, (wx = w2.drewN 1 ∨ ∃ n, wx = w2.drewN n) → Calls Try.prog 64 #[.pointer (some ⟨b4, 0, none⟩), .int .i64 lk, f] wx fun e w3 => e = .returned (.pointer (R.rem xs lk).ptr) ∧ (Blk w3 b (cellsN lk (.int .i64 lx) h L R) 107 ∧ L.In w3 ∧ (R.rem xs lk).In w3 ∧ Fr (AT.node b k2 v2 h L R).ids w w3) := by
            intro wx hwx
            have hwx : ∃ n, wx = w2.drewN n := hwx.elim (fun h => ⟨1, h⟩) id
            obtain ⟨n, rfl⟩ := hwx
            rw [← HP4.out]
            refine (HREC.out _ (R2.drewN _) nd.2 ok.2.2 vs.2.2 (by omega) (hf2.below (Below.drewN w2 _)) (fun i hi => hB i (by simp only [AT.ids]; grind)) hB3).mono ?_
            rintro e w3 ⟨rfl, hT, hF⟩
            have hF' : Fr R.ids w2 w3 := (Fr.drewN _ _ _).comp hF
            exact ⟨rfl, B2.fr hF' nb.2, L2.fr hF' (fun y hy hz => dis y hy hz), hT, F2.comp (hF'.mono (fun y hy => .inl (by simp only [AT.ids]; grind)))⟩
          have HDR := Lib.hid hdr
          clear hdr
          go_region_with (go_at_call 64; refine (HDR.out _ (.inl rfl)).mono ?_; rintro e w3 ⟨rfl, B3, L3, hT, F3⟩; obtain ⟨⟨u0, u1, u2, u3, u4⟩, uf⟩ := node_cells B3)
          all_goals
            have B4 := set_r B3 (R.rem xs lk) _ rfl
            have L4 := L3.set 4 (.pointer (R.rem xs lk).ptr) nb.1
            have R4 := hT.set 4 (.pointer (R.rem xs lk).ptr) nb2
            have F4 : Fr (AT.node b k2 v2 h L R).ids w (w3.setCell ⟨b, 4, none⟩ (.pointer (R.rem xs lk).ptr)) := F3.comp (Fr.setCell _ b 4 _ (by simp [AT.ids]))
            clear hT B3 L3 F3 u0 u1 u2 u3 u4 uf p0 p1 p2 p3 p4 pf
            go_wp2_with fail
            generalize (w3.setCell ⟨b, 4, none⟩ (.pointer (R.rem xs lk).ptr)) = w4 at *
            refine (reb_calls b lk h (.int .i64 lx) L _ w4 ⟨B4, L4, R4⟩ hn3 (ok.2.1.hb (by omega)) (hrok.1.hb (by omega))).mono ?_
            rintro e w5 ⟨rfl, ht⟩
            go_wp2
            go_ret
            exact ⟨rfl, ht.lies, F4.trans ht.frame (fun _ h => .inl h) (fun y hy => .inl (hsub y hy))⟩
    · have e : (AT.node b k2 v2 h l r).rem xs k = reb (AT.node b k2 v2 h l (r.rem xs k)) := by
        rw [AT.rem.eq_def]; exact (if_neg (by omega)).trans (if_pos (by omega))
      rw [e]
      rw [c] at hc
      clear e c
      obtain ⟨⟨p0, p1, p2, p3, p4⟩, pf⟩ := node_cells hb
      have H := Lib.hid hb
      have HC := Lib.hid hc
      have HN := Lib.hid hn
      clear hb hc hn
      go_enter Try.func64, Try.ntmps64
      go_wp2_with fail
      refine (HC.out w hf).mono ?_
      rintro e w1 ⟨rfl, n1, rfl⟩
      go_wp2_with fail
      refine (HC.out _ (hf1 _)).mono ?_
      rintro e w1 ⟨rfl, n2, rfl⟩
      go_wp2_with fail
      refine (ihr k (w.drewN (n1 + n2)) (ir.drewN _) (nd.2) (ok.2.2) (vs.2.2) (by omega) (hf1 _) (fun i hi => hB i (by simp only [AT.ids]; grind)) hB2).mono ?_
      rintro e w2 ⟨rfl, hT, hF⟩
      have hF' : Fr r.ids w w2 := (Fr.drewN _ _ (n1 + n2)).comp hF
      have B2 := H.out.fr hF' nb.2
      have O2 := il.fr hF' (fun y hy hz => dis y hy hz)
      obtain ⟨hn3, hsub, nb2, hlen⟩ := shrink_r (k3 := k2) (v3 := v2) (h := h) (rem_ids xs r k) HN.out
      have B3 := set_r B2 (r.rem xs k) _ rfl
      have O3 := O2.set 4 (.pointer (r.rem xs k).ptr) nb.1
      have T3 := hT.set 4 (.pointer (r.rem xs k).ptr) nb2
      have F3 : Fr (AT.node b k2 v2 h l r).ids w (w2.setCell ⟨b, 4, none⟩ (.pointer (r.rem xs k).ptr)) := (hF'.mono (fun y hy => .inl (by simp only [AT.ids]; grind))).comp (Fr.setCell _ b 4 _ (by simp [AT.ids]))
      obtain ⟨⟨p0, p1, p2, p3, p4⟩, pf⟩ := node_cells B2
      have lok := (rem_ok xs r k (ok.2.2)).1
      have lsz : (r.rem xs k).ids.length ≤ 20000000000 := by omega
      have osz : l.ids.length ≤ 20000000000 := by omega
      clear hT hF B2 O2 nb2 hF' hlen
      go_wp2_with fail
      generalize (w2.setCell ⟨b, 4, none⟩ (.pointer (r.rem xs k).ptr)) = w3 at *
      refine (reb_calls b k2 h v2 l _ w3 ⟨B3, O3, T3⟩ hn3 (ok.2.1.hb osz) (lok.hb lsz)).mono ?_
      rintro e w4 ⟨rfl, ht⟩
      go_wp2
      go_ret
      exact ⟨rfl, ht.lies, F3.trans ht.frame (fun _ h => .inl h) (fun y hy => .inl (hsub y hy))⟩
end Go.Proofs.Ytjbelfbfhcmgeaa
