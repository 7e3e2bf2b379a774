/- interval trees in memory: what has a number in common with a range. -/
import Derived.Test.YtomclflknjkhfaaItvR
namespace Go.Proofs.Ytomclflknjkhfaa
open Go.RowKit ItP

/-- what overlaps leaves: xs what is told. -/
def OverPost (B : Nat) (xs : List Sp) (w : World) (e : Ending) (w' : World) : Prop := ∃ v', e = .returned v' ∧ w'.ownsRow B 131 3 v' xs.length (xs.flatMap spC) ∧ KB B 131 w w'
theorem over_len (a b : Int) : ∀ (t : IT) (acc : List Sp), acc.length ≤ (t.over a b acc).length ∧ (t.over a b acc).length ≤ acc.length + t.ids.length
  | .nil, acc => by simp [IT.over, IT.ids]
  | .node b' s h m l r, acc => by
    unfold IT.over
    simp only [IT.ids, List.length_cons, List.length_append]
    have h1 := over_len a b l acc
    split
    · omega
    · generalize hy : (if (decide (s.lo < b) && decide (a < s.hi)) = true then l.over a b acc ++ [s] else l.over a b acc) = y
      have h2 := over_len a b r y
      have h3 : (l.over a b acc).length ≤ y.length ∧ y.length ≤ (l.over a b acc).length + 1 := by
        rw [← hy]; split
        · rw [List.length_append, List.length_singleton]; omega
        · omega
      split <;> omega
theorem over_nil (B : Nat) (a b : Int) (acc : List Sp) (v : Value) (w : World) (hB : B ≤ w.heap.size) (ho : w.ownsRow B 131 3 v acc.length (acc.flatMap spC)) :
    Calls Try.prog 104 #[.pointer none, .agg #[.int .i64 a, .int .i64 b], v] w (OverPost B acc w) := by
  have HO := Lib.hid (And.intro (ho.alloc (Obj.cells #[.int .i64 a, .int .i64 b] 170)) (KB.fr (T := 131) (Fr.alloc [] w (Obj.cells #[.int .i64 a, .int .i64 b] 170)) hB))
  obtain ⟨A, c, rfl⟩ := own_form ho
  clear ho
  go_enter Try.func104, Try.ntmps104
  go_wp2
  go_ret
  exact ⟨_, rfl, HO.out.1, HO.out.2⟩
/-- what holds on the way: xs told so far. -/
structure OverAt (B : Nat) (t : IT) (a b : Int) (xs : List Sp) (v : Value) (w wx : World) : Prop where
  own : wx.ownsRow B 131 3 v xs.length (xs.flatMap spC)
  kb : KB B 131 w wx
  lies : t.In wx
  key : Blk wx w.heap.size #[.int .i64 a, .int .i64 b] 170
  ge : B ≤ wx.heap.size
theorem OverAt.step {B : Nat} {t : IT} {a b : Int} {xs ys : List Sp} {v v' : Value} {w wx w2 : World} (h : OverAt B t a b xs v w wx) (ho : w2.ownsRow B 131 3 v' ys.length (ys.flatMap spC)) (k : KB B 131 wx w2) : OverAt B t a b ys v' w w2 :=
  ⟨ho, h.kb.trans k, KB.tree (by decide) k h.lies, k.keep _ _ _ h.key (by decide), Nat.le_trans h.ge k.size⟩
theorem OverAt.fr {B : Nat} {t : IT} {a b : Int} {xs : List Sp} {v : Value} {w wx w2 : World} (h : OverAt B t a b xs v w wx) (f : Fr [] wx w2) : OverAt B t a b xs v w w2 :=
  h.step (own_fr h.own f (by simp)) (KB.fr f h.ge)
theorem OverAt.app {B : Nat} {t : IT} {a b : Int} {xs : List Sp} {s : Sp} {v v' : Value} {w wx w2 : World} {o : Obj} (h : OverAt B t a b xs v w wx) (ho : w2.ownsRow B 131 3 v' (xs.length + 1) (xs.flatMap spC ++ spC s)) (hg : (wx.alloc o).grownBy w2 v.ownBlock) : OverAt B t a b (xs ++ [s]) v' w w2 := by
  refine h.step ?_ ((KB.fr (Fr.alloc [] wx o) h.ge).trans (KB.append (h.own.alloc o) hg (by have := h.ge; simp; omega)))
  rw [List.length_append, List.flatMap_append]
  simpa using ho
theorem OverAt.drewN {B : Nat} {t : IT} {a b : Int} {xs : List Sp} {v : Value} {w wx : World} (h : OverAt B t a b xs v w wx) (n : Nat) : OverAt B t a b xs v w (wx.drewN n) := h.fr (Fr.drewN _ _ n)
theorem OverAt.start {B : Nat} {t : IT} {a b : Int} {xs : List Sp} {v : Value} {w : World} (ho : w.ownsRow B 131 3 v xs.length (xs.flatMap spC)) (hi : t.In w) (hB : B ≤ w.heap.size) : OverAt B t a b xs v w (w.alloc (Obj.cells #[.int .i64 a, .int .i64 b] 170)) :=
  ⟨ho.alloc _, KB.fr (Fr.alloc [] w _) hB, IT.In.alloc _ hi, Blk.new w _ _, by simp; omega⟩
theorem OverAt.cells {B bk : Nat} {s : Sp} {h m : Int} {l r : IT} {a b : Int} {xs : List Sp} {v : Value} {w wx : World} (H : OverAt B (.node bk s h m l r) a b xs v w wx) :
    ((wx.cell? ⟨bk, 0, none⟩ = some (.int .i64 s.lo) ∧ wx.cell? ⟨bk, 1, none⟩ = some (.int .i64 s.hi) ∧ wx.cell? ⟨bk, 2, none⟩ = some (.int .i64 s.v) ∧ wx.cell? ⟨bk, 4, none⟩ = some (.pointer l.ptr) ∧ wx.cell? ⟨bk, 5, none⟩ = some (.pointer r.ptr) ∧ wx.cell? ⟨bk, 6, none⟩ = some (.int .i64 m)) ∧
    (wx.cell? ⟨w.heap.size, 0, none⟩ = some (.int .i64 a) ∧ wx.cell? ⟨w.heap.size, 1, none⟩ = some (.int .i64 b))) := by
  obtain ⟨⟨p0, p1, p2, p3, p4, p5, p6⟩, pf⟩ := node_cells H.lies.1
  exact ⟨⟨p0, p1, p2, p4, p5, p6⟩, H.key.cell 0, H.key.cell 1⟩
set_option maxRecDepth 100000 in
set_option maxHeartbeats 6400000 in
theorem over_calls (B : Nat) (a b : Int) : ∀ (t : IT) (acc : List Sp) (v : Value) (w : World), t.In w → B ≤ w.heap.size → w.ownsRow B 131 3 v acc.length (acc.flatMap spC) → acc.length + t.ids.length ≤ 10000000000 →
    Calls Try.prog 104 #[.pointer t.ptr, .agg #[.int .i64 a, .int .i64 b], v] w (OverPost B (t.over a b acc) w)
  | .nil, acc, v, w, _, hB, ho, _ => over_nil B a b acc v w hB ho
  | .node bk s h m l r, acc, v, w, hi, hB, ho, hs => by
    simp only [IT.ids, List.length_cons, List.length_append] at hs
    have L := Lib.hid (fun v1 w1 (h1 : l.In w1) (h2 : B ≤ w1.heap.size) (h3 : w1.ownsRow B 131 3 v1 acc.length (acc.flatMap spC)) => over_calls B a b l acc v1 w1 h1 h2 h3 (by omega))
    have R := Lib.hid (fun ys v1 w1 (h1 : r.In w1) (h2 : B ≤ w1.heap.size) (h3 : w1.ownsRow B 131 3 v1 ys.length (ys.flatMap spC)) (h4 : ys.length ≤ acc.length + l.ids.length + 1) => over_calls B a b r ys v1 w1 h1 h2 h3 (by omega))
    have H0 := Lib.hid (OverAt.start (a := a) (b := b) ho hi hB)
    have hlen := over_len a b l acc
    obtain ⟨A, c, rfl⟩ := own_form ho
    obtain ⟨⟨p0, p1, p2, p4, p5, p6⟩, k0, k1⟩ := H0.out.cells
    obtain ⟨i0, hi0, hz0, hz1, hz2⟩ := info_parts Try.infoKV
    clear hi ho
    show Calls _ _ #[.pointer (some ⟨bk, 0, none⟩), _, _] _ _
    obtain ⟨W, hW⟩ : ∃ W, W = w.alloc (Obj.cells #[.int .i64 a, .int .i64 b] 170) := ⟨_, rfl⟩
    rw [← hW] at H0 p0 p1 p2 p4 p5 p6 k0 k1
    by_cases c1 : m ≤ a
    · have e : (IT.node bk s h m l r).over a b acc = acc := by simp only [IT.over]; rw [if_pos c1]
      rw [e]
      clear e
      go_enter Try.func104, Try.ntmps104
      go_wp2_with fail
      rw [← hW]
      clear hW
      go_quiet (fail)
      go_wp2_with fail
      go_ret
      exact ⟨_, rfl, (H0.out.drewN nq).own, (H0.out.drewN nq).kb⟩
    · obtain ⟨q, hq⟩ : ∃ q, q = (decide (s.lo < b) && decide (a < s.hi)) := ⟨_, rfl⟩
      have e : (IT.node bk s h m l r).over a b acc = if b ≤ s.lo then (if q then l.over a b acc ++ [s] else l.over a b acc) else r.over a b (if q then l.over a b acc ++ [s] else l.over a b acc) := by simp only [IT.over]; rw [if_neg c1, ← hq]
      have M := fun w1 => (meet_calls s.lo s.hi a b w1)
      rw [← hq] at M
      have M := Lib.hid M
      clear hq
      obtain ⟨y0, hy0⟩ : ∃ y0, y0 = l.over a b acc := ⟨_, rfl⟩
      rw [← hy0] at e L hlen
      clear hy0
      cases q with
      | true =>
        simp only [if_true] at e
        have hyl : (y0 ++ [s]).length ≤ acc.length + l.ids.length + 1 := by rw [List.length_append, List.length_singleton]; omega
        by_cases c3 : b ≤ s.lo
        · rw [if_pos c3] at e
          rw [e]
          clear e
          go_enter Try.func104, Try.ntmps104
          go_wp2_with fail
          rw [← hW]
          clear hW
          go_quiet (fail)
          obtain ⟨W1, hW1⟩ : ∃ W1, W1 = W.drewN nq := ⟨_, rfl⟩
          have H1 := Lib.hid (H0.out.drewN nq)
          rw [← hW1] at H1 ⊢
          clear p0 p1 p2 p4 p5 p6 k0 k1 H0 hW1
          obtain ⟨⟨p0, p1, p2, p4, p5, p6⟩, k0, k1⟩ := H1.out.cells
          go_wp2_with fail
          go_region_with (go_at_call 104; refine (L.out _ _ (by exact (H1.out.drewN 1).lies.2.1) (by exact (H1.out.drewN 1).ge) (by exact (H1.out.drewN 1).own)).mono ?_; rintro e w2 ⟨v2, rfl, ho2, hk2⟩; obtain ⟨A2, n2, rfl⟩ := own_form ho2; have H2 := Lib.hid ((H1.out.drewN 1).step ho2 hk2); clear ho2 hk2)
          all_goals
            clear p0 p1 p2 p4 p5 p6 k0 k1 H1
            obtain ⟨⟨p0, p1, p2, p4, p5, p6⟩, k0, k1⟩ := H2.out.cells
            go_wp2_with fail
            go_region_with (go_at_call 121; refine (M.out _).mono ?_; rintro e w3 ⟨rfl, f3⟩; have H3 := Lib.hid ((H2.out.drewN 1).fr f3); clear f3)
            all_goals
              clear p0 p1 p2 p4 p5 p6 k0 k1 H2 L M
              go_wp2_with fail
              refine (newKV_calls bk s h m l r _ H3.out.lies.1).mono ?_
              rintro e w4 ⟨rfl, f4⟩
              have H4 := Lib.hid (H3.out.fr f4)
              clear f4 H3
              simp only [kvOf]
              go_wp2_with (at_builtin; refine wpList_append_own _ rfl (.tmp 31) (.tmp 34) 135 rfl B 131 i0 _ 3 24 Try.underlying135 hi0 hz0 hz1 hz2 rfl (by omega) (.slice A2 y0.length n2) y0.length _ rfl (H4.out.own.alloc _) ⟨w4.heap.size, 0, none⟩ 1 1 (spC s) rfl rfl (news_blk (Blk.new w4 _ _)) (by simp [spC, Value.oneCell']) (by unfold maxLen; omega) (by omega) (by have := H4.out.ge; simp; omega) ?_; intro v' w5 hown' hgrow _; have H5 := Lib.hid (H4.out.app hown' hgrow); obtain ⟨A5, n5, rfl⟩ := own_form hown'; clear hown' hgrow)
              clear H4
              obtain ⟨⟨p0, p1, p2, p4, p5, p6⟩, k0, k1⟩ := H5.out.cells
              go_quiet (fail)
              go_wp2_with fail
              go_ret
              exact ⟨_, rfl, (H5.out.drewN nq).own, (H5.out.drewN nq).kb⟩
        · rw [if_neg c3] at e
          rw [e]
          clear e
          go_enter Try.func104, Try.ntmps104
          go_wp2_with fail
          rw [← hW]
          clear hW
          go_quiet (fail)
          obtain ⟨W1, hW1⟩ : ∃ W1, W1 = W.drewN nq := ⟨_, rfl⟩
          have H1 := Lib.hid (H0.out.drewN nq)
          rw [← hW1] at H1 ⊢
          clear p0 p1 p2 p4 p5 p6 k0 k1 H0 hW1
          obtain ⟨⟨p0, p1, p2, p4, p5, p6⟩, k0, k1⟩ := H1.out.cells
          go_wp2_with fail
          go_region_with (go_at_call 104; refine (L.out _ _ (by exact (H1.out.drewN 1).lies.2.1) (by exact (H1.out.drewN 1).ge) (by exact (H1.out.drewN 1).own)).mono ?_; rintro e w2 ⟨v2, rfl, ho2, hk2⟩; obtain ⟨A2, n2, rfl⟩ := own_form ho2; have H2 := Lib.hid ((H1.out.drewN 1).step ho2 hk2); clear ho2 hk2)
          all_goals
            clear p0 p1 p2 p4 p5 p6 k0 k1 H1
            obtain ⟨⟨p0, p1, p2, p4, p5, p6⟩, k0, k1⟩ := H2.out.cells
            go_wp2_with fail
            go_region_with (go_at_call 121; refine (M.out _).mono ?_; rintro e w3 ⟨rfl, f3⟩; have H3 := Lib.hid ((H2.out.drewN 1).fr f3); clear f3)
            all_goals
              clear p0 p1 p2 p4 p5 p6 k0 k1 H2 L M
              go_wp2_with fail
              refine (newKV_calls bk s h m l r _ H3.out.lies.1).mono ?_
              rintro e w4 ⟨rfl, f4⟩
              have H4 := Lib.hid (H3.out.fr f4)
              clear f4 H3
              simp only [kvOf]
              go_wp2_with (at_builtin; refine wpList_append_own _ rfl (.tmp 31) (.tmp 34) 135 rfl B 131 i0 _ 3 24 Try.underlying135 hi0 hz0 hz1 hz2 rfl (by omega) (.slice A2 y0.length n2) y0.length _ rfl (H4.out.own.alloc _) ⟨w4.heap.size, 0, none⟩ 1 1 (spC s) rfl rfl (news_blk (Blk.new w4 _ _)) (by simp [spC, Value.oneCell']) (by unfold maxLen; omega) (by omega) (by have := H4.out.ge; simp; omega) ?_; intro v' w5 hown' hgrow _; have H5 := Lib.hid (H4.out.app hown' hgrow); obtain ⟨A5, n5, rfl⟩ := own_form hown'; clear hown' hgrow)
              clear H4
              obtain ⟨⟨p0, p1, p2, p4, p5, p6⟩, k0, k1⟩ := H5.out.cells
              go_quiet (fail)
              obtain ⟨W6, hW6⟩ : ∃ W6, W6 = w5.drewN nq := ⟨_, rfl⟩
              have H6 := Lib.hid (H5.out.drewN nq)
              rw [← hW6] at H6 ⊢
              clear p0 p1 p2 p4 p5 p6 k0 k1 H5 hW6
              obtain ⟨⟨p0, p1, p2, p4, p5, p6⟩, k0, k1⟩ := H6.out.cells
              go_wp2_with fail
              go_region_with (go_at_call 104; refine (R.out (y0 ++ [s]) _ _ (by exact (H6.out.drewN 1).lies.2.2) (by exact (H6.out.drewN 1).ge) (by exact (H6.out.drewN 1).own) hyl).mono ?_; rintro e w7 ⟨v7, rfl, ho7, hk7⟩; obtain ⟨A7, n7, rfl⟩ := own_form ho7; have H7 := Lib.hid ((H6.out.drewN 1).step ho7 hk7); clear ho7 hk7)
              all_goals
                go_wp2_with fail
                go_ret
                exact ⟨_, rfl, H7.out.own, H7.out.kb⟩
      | false =>
        simp only [Bool.false_eq_true, if_false] at e
        have hyl : y0.length ≤ acc.length + l.ids.length + 1 := by omega
        by_cases c3 : b ≤ s.lo
        · rw [if_pos c3] at e
          rw [e]
          clear e
          go_enter Try.func104, Try.ntmps104
          go_wp2_with fail
          rw [← hW]
          clear hW
          go_quiet (fail)
          obtain ⟨W1, hW1⟩ : ∃ W1, W1 = W.drewN nq := ⟨_, rfl⟩
          have H1 := Lib.hid (H0.out.drewN nq)
          rw [← hW1] at H1 ⊢
          clear p0 p1 p2 p4 p5 p6 k0 k1 H0 hW1
          obtain ⟨⟨p0, p1, p2, p4, p5, p6⟩, k0, k1⟩ := H1.out.cells
          go_wp2_with fail
          go_region_with (go_at_call 104; refine (L.out _ _ (by exact (H1.out.drewN 1).lies.2.1) (by exact (H1.out.drewN 1).ge) (by exact (H1.out.drewN 1).own)).mono ?_; rintro e w2 ⟨v2, rfl, ho2, hk2⟩; obtain ⟨A2, n2, rfl⟩ := own_form ho2; have H2 := Lib.hid ((H1.out.drewN 1).step ho2 hk2); clear ho2 hk2)
          all_goals
            clear p0 p1 p2 p4 p5 p6 k0 k1 H1
            obtain ⟨⟨p0, p1, p2, p4, p5, p6⟩, k0, k1⟩ := H2.out.cells
            go_wp2_with fail
            go_region_with (go_at_call 121; refine (M.out _).mono ?_; rintro e w3 ⟨rfl, f3⟩; have H3 := Lib.hid ((H2.out.drewN 1).fr f3); clear f3)
            all_goals
              clear p0 p1 p2 p4 p5 p6 k0 k1 H2 L M
              obtain ⟨⟨p0, p1, p2, p4, p5, p6⟩, k0, k1⟩ := H3.out.cells
              go_wp2_with fail
              go_quiet (fail)
              go_wp2_with fail
              go_ret
              exact ⟨_, rfl, (H3.out.drewN nq).own, (H3.out.drewN nq).kb⟩
        · rw [if_neg c3] at e
          rw [e]
          clear e
          go_enter Try.func104, Try.ntmps104
          go_wp2_with fail
          rw [← hW]
          clear hW
          go_quiet (fail)
          obtain ⟨W1, hW1⟩ : ∃ W1, W1 = W.drewN nq := ⟨_, rfl⟩
          have H1 := Lib.hid (H0.out.drewN nq)
          rw [← hW1] at H1 ⊢
          clear p0 p1 p2 p4 p5 p6 k0 k1 H0 hW1
          obtain ⟨⟨p0, p1, p2, p4, p5, p6⟩, k0, k1⟩ := H1.out.cells
          go_wp2_with fail
          go_region_with (go_at_call 104; refine (L.out _ _ (by exact (H1.out.drewN 1).lies.2.1) (by exact (H1.out.drewN 1).ge) (by exact (H1.out.drewN 1).own)).mono ?_; rintro e w2 ⟨v2, rfl, ho2, hk2⟩; obtain ⟨A2, n2, rfl⟩ := own_form ho2; have H2 := Lib.hid ((H1.out.drewN 1).step ho2 hk2); clear ho2 hk2)
          all_goals
            clear p0 p1 p2 p4 p5 p6 k0 k1 H1
            obtain ⟨⟨p0, p1, p2, p4, p5, p6⟩, k0, k1⟩ := H2.out.cells
            go_wp2_with fail
            go_region_with (go_at_call 121; refine (M.out _).mono ?_; rintro e w3 ⟨rfl, f3⟩; have H3 := Lib.hid ((H2.out.drewN 1).fr f3); clear f3)
            all_goals
              clear p0 p1 p2 p4 p5 p6 k0 k1 H2 L M
              obtain ⟨⟨p0, p1, p2, p4, p5, p6⟩, k0, k1⟩ := H3.out.cells
              go_wp2_with fail
              go_quiet (fail)
              obtain ⟨W6, hW6⟩ : ∃ W6, W6 = w3.drewN nq := ⟨_, rfl⟩
              have H6 := Lib.hid (H3.out.drewN nq)
              rw [← hW6] at H6 ⊢
              clear p0 p1 p2 p4 p5 p6 k0 k1 H3 hW6
              obtain ⟨⟨p0, p1, p2, p4, p5, p6⟩, k0, k1⟩ := H6.out.cells
              go_wp2_with fail
              go_region_with (go_at_call 104; refine (R.out y0 _ _ (by exact (H6.out.drewN 1).lies.2.2) (by exact (H6.out.drewN 1).ge) (by exact (H6.out.drewN 1).own) hyl).mono ?_; rintro e w7 ⟨v7, rfl, ho7, hk7⟩; obtain ⟨A7, n7, rfl⟩ := own_form ho7; have H7 := Lib.hid ((H6.out.drewN 1).step ho7 hk7); clear ho7 hk7)
              all_goals
                go_wp2_with fail
                go_ret
                exact ⟨_, rfl, H7.out.own, H7.out.kb⟩
end Go.Proofs.Ytomclflknjkhfaa
