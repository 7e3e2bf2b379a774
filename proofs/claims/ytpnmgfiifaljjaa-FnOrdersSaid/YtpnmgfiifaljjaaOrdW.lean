/- FnOrders: the walk of the law itself. -/
import Derived.Test.YtpnmgfiifaljjaaOrdL
import Derived.Deep.RegionHeld3
import Derived.Test.YtpnmgfiifaljjaaReg
namespace Go.Proofs.Ytpnmgfiifaljjaa
open Go.RowKit

/-- what the law's variables hold, and the table; nothing older has changed. -/
theorem env_below {W0 W W' : World} {tb xb ab bb B : Nat} {A : Option Addr} {c : Nat} {x a b : Int} {xs : List Int} (hb : Below W.heap.size W W')
    (h0 : W.cell? ⟨tb, 0, none⟩ = some (.slice A xs.length c)) (h1 : W.cell? ⟨xb, 0, none⟩ = some (.int .i64 x)) (h2 : W.cell? ⟨ab, 0, none⟩ = some (.int .i64 a)) (h3 : W.cell? ⟨bb, 0, none⟩ = some (.int .i64 b)) (h4 : SlR W B (.slice A xs.length c) (xs.map i64v)) (h5 : B ≤ W0.heap.size) (h6 : Below W0.heap.size W0 W) :
    W'.cell? ⟨tb, 0, none⟩ = some (.slice A xs.length c) ∧ W'.cell? ⟨xb, 0, none⟩ = some (.int .i64 x) ∧ W'.cell? ⟨ab, 0, none⟩ = some (.int .i64 a) ∧ W'.cell? ⟨bb, 0, none⟩ = some (.int .i64 b) ∧ SlR W' B (.slice A xs.length c) (xs.map i64v) ∧ B ≤ W0.heap.size ∧ Below W0.heap.size W0 W' :=
  ⟨(hb.cell (World.block_lt_of_cell? W _ h0)).trans h0, (hb.cell (World.block_lt_of_cell? W _ h1)).trans h1, (hb.cell (World.block_lt_of_cell? W _ h2)).trans h2, (hb.cell (World.block_lt_of_cell? W _ h3)).trans h3, h4.below (hb.mono (Nat.le_trans h5 h6.size)), h5, h6.trans (hb.mono h6.size)⟩
theorem env_next {W0 W W' : World} {tb xb ab bb B : Nat} {A : Option Addr} {c : Nat} {x a b : Int} {xs : List Int} (hb : Below W.heap.size W W') (h : W.cell? ⟨tb, 0, none⟩ = some (.slice A xs.length c) ∧ W.cell? ⟨xb, 0, none⟩ = some (.int .i64 x) ∧ W.cell? ⟨ab, 0, none⟩ = some (.int .i64 a) ∧ W.cell? ⟨bb, 0, none⟩ = some (.int .i64 b) ∧ SlR W B (.slice A xs.length c) (xs.map i64v) ∧ B ≤ W0.heap.size ∧ Below W0.heap.size W0 W) :
    W'.cell? ⟨tb, 0, none⟩ = some (.slice A xs.length c) ∧ W'.cell? ⟨xb, 0, none⟩ = some (.int .i64 x) ∧ W'.cell? ⟨ab, 0, none⟩ = some (.int .i64 a) ∧ W'.cell? ⟨bb, 0, none⟩ = some (.int .i64 b) ∧ SlR W' B (.slice A xs.length c) (xs.map i64v) ∧ B ≤ W0.heap.size ∧ Below W0.heap.size W0 W' := env_below hb h.1 h.2.1 h.2.2.1 h.2.2.2.1 h.2.2.2.2.1 h.2.2.2.2.2.1 h.2.2.2.2.2.2
theorem env_slr {W0 W : World} {tb xb ab bb B : Nat} {A : Option Addr} {c : Nat} {x a b : Int} {xs : List Int} (h : W.cell? ⟨tb, 0, none⟩ = some (.slice A xs.length c) ∧ W.cell? ⟨xb, 0, none⟩ = some (.int .i64 x) ∧ W.cell? ⟨ab, 0, none⟩ = some (.int .i64 a) ∧ W.cell? ⟨bb, 0, none⟩ = some (.int .i64 b) ∧ SlR W B (.slice A xs.length c) (xs.map i64v) ∧ B ≤ W0.heap.size ∧ Below W0.heap.size W0 W) : SlR W W.heap.size (.slice A xs.length c) (xs.map i64v) := h.2.2.2.2.1.mono (Nat.le_trans h.2.2.2.2.2.1 h.2.2.2.2.2.2.size)
theorem below_drew (w : World) : Below w.heap.size w w.drew := ⟨rfl, rfl, rfl, Nat.le_refl _, fun _ _ => rfl⟩
theorem rankFn_below (xs : List Int) (tb : Nat) (tv : Value) (B : Nat) (k : Int) (w : World) (hc : w.cell? ⟨tb, 0, none⟩ = some tv) (ht : SlR w B tv (xs.map i64v)) :
    Calls Try.prog 20 #[.int .i64 k, .pointer (some ⟨tb, 0, none⟩)] w fun e w' => e = .returned (.int .i64 (rankOf xs k)) ∧ Below w.heap.size w w' :=
  (rankFn_calls xs tb tv B k w hc ht).mono fun _ _ ⟨h, n, e⟩ => ⟨h, e ▸ Below.drewN w n⟩
theorem orders_cases (xs : List Int) (x a : Int) :
    (rankOf xs x < rankOf xs a ∧ cmpOf xs x a = -1 ∧ maxF xs x a = a ∧ minF xs x a = x ∧ a ≠ x) ∨
    (rankOf xs a < rankOf xs x ∧ cmpOf xs x a = 1 ∧ maxF xs x a = x ∧ minF xs x a = a ∧ a ≠ x) ∨
    (rankOf xs x = rankOf xs a ∧ cmpOf xs x a = 0 ∧ maxF xs x a = a ∧ minF xs x a = a ∧ a = x) ∨
    (rankOf xs x = rankOf xs a ∧ cmpOf xs x a = 0 ∧ maxF xs x a = a ∧ minF xs x a = a ∧ a ≠ x) := by
  unfold cmpOf maxF minF
  by_cases h1 : rankOf xs x < rankOf xs a
  · have n : a ≠ x := by rintro rfl; omega
    have n2 : ¬ rankOf xs a < rankOf xs x := by omega
    simp [h1, n, n2]
  · by_cases h2 : rankOf xs a < rankOf xs x
    · have n : a ≠ x := by rintro rfl; omega
      simp [h1, h2, n]
    · have e : rankOf xs x = rankOf xs a := by omega
      simp [e]
      exact Decidable.em _
def want1 (xs : List Int) (x a : Int) : Int := if rankOf xs x < rankOf xs a then -1 else 0
theorem want1_pos {xs : List Int} {x a : Int} (h : rankOf xs x < rankOf xs a) : want1 xs x a = -1 := if_pos h
theorem want1_neg {xs : List Int} {x a : Int} (h : ¬ rankOf xs x < rankOf xs a) : want1 xs x a = 0 := if_neg h
/-- four blocks of one cell each. -/
theorem four (w : World) (v0 v1 v2 v3 : Value) (T0 T1 T2 T3 : TypeId) : let W := (((w.alloc (Obj.cells #[v0] T0)).alloc (Obj.cells #[v1] T1)).alloc (Obj.cells #[v2] T2)).alloc (Obj.cells #[v3] T3)
    W.cell? ⟨w.heap.size, 0, none⟩ = some v0 ∧ W.cell? ⟨w.heap.size + 1, 0, none⟩ = some v1 ∧ W.cell? ⟨w.heap.size + 1 + 1, 0, none⟩ = some v2 ∧ W.cell? ⟨w.heap.size + 1 + 1 + 1, 0, none⟩ = some v3 ∧ Below w.heap.size w W := by
  have e1 : (w.alloc (Obj.cells #[v0] T0)).heap.size = w.heap.size + 1 := by simp
  have e2 : ((w.alloc (Obj.cells #[v0] T0)).alloc (Obj.cells #[v1] T1)).heap.size = w.heap.size + 1 + 1 := by simp
  have e3 : (((w.alloc (Obj.cells #[v0] T0)).alloc (Obj.cells #[v1] T1)).alloc (Obj.cells #[v2] T2)).heap.size = w.heap.size + 1 + 1 + 1 := by simp
  refine ⟨((((Blk.new w #[v0] T0).alloc _).alloc _).alloc _).cell 0, ?_, ?_, ?_, ((((Below.refl _ _).alloc (Nat.le_refl _) _).alloc (by simp) _).alloc (by simp; omega) _).alloc (by simp; omega) _⟩
  · rw [← e1]; exact (((Blk.new _ #[v1] T1).alloc _).alloc _).cell 0
  · rw [← e2]; exact ((Blk.new _ #[v2] T2).alloc _).cell 0
  · rw [← e3]; exact (Blk.new _ #[v3] T3).cell 0
set_option maxRecDepth 100000 in
set_option maxHeartbeats 40000000 in
theorem orders_calls (xs : List Int) (ov : Value) (x a b : Int) (w : World) (ho : SlR w w.heap.size ov (xs.map i64v)) :
    Calls Try.prog 7 #[ov, .int .i64 x, .int .i64 a, .int .i64 b] w fun e w' => e = .returned (.bool true) ∧ Below w.heap.size w w' := by
  obtain ⟨A, c, rfl⟩ := ho.form
  rw [List.length_map] at *
  have HO := Lib.hid ho
  clear ho
  by_cases b1 : (xs.length : Int) ≤ 2147483647
  case neg =>
    go_enter Try.func7, Try.ntmps7
    go_wp2
    go_ret
    exact ⟨rfl, ((((Below.refl _ _).alloc (Nat.le_refl _) _).alloc (by simp) _).alloc (by simp; omega) _).alloc (by simp; omega) _⟩
  go_enter Try.func7, Try.ntmps7
  go_wp2_with fail
  have F := four w (.slice A xs.length c) (.int .i64 x) (.int .i64 a) (.int .i64 b) 26 3 3 3
  have HT := Lib.hid ((HO.out.below F.2.2.2.2).mono F.2.2.2.2.size)
  generalize (((w.alloc (Obj.cells #[.slice A xs.length c] 26)).alloc (Obj.cells #[.int .i64 x] 3)).alloc (Obj.cells #[.int .i64 a] 3)).alloc (Obj.cells #[.int .i64 b] 3) = w1 at *
  have HB := Lib.hid F.2.2.2.2
  obtain ⟨h0, h1, h2, h3, -⟩ := F
  generalize w.heap.size + 1 + 1 + 1 = bb at *
  generalize w.heap.size + 1 + 1 = ab at *
  generalize w.heap.size + 1 = xb at *
  generalize htb : w.heap.size = tb at *
  go_quiet ((go_at_call 20; exact Calls.quiet_of (rankFn_calls xs tb _ w1.heap.size _ _ (by exact h0) (by exact HT.out.drewN _))))
  replace h0 : (w1.drewN nq).cell? ⟨tb, 0, none⟩ = _ := h0
  replace h1 : (w1.drewN nq).cell? ⟨xb, 0, none⟩ = _ := h1
  replace h2 : (w1.drewN nq).cell? ⟨ab, 0, none⟩ = _ := h2
  replace h3 : (w1.drewN nq).cell? ⟨bb, 0, none⟩ = _ := h3
  replace HT := Lib.hid (show SlR (w1.drewN nq) (w1.drewN nq).heap.size _ _ from HT.out.drewN nq)
  replace HB := Lib.hid (HB.out.trans (Below.drewN w1 nq))
  generalize w1.drewN nq = w2 at *
  go_upto_if 24 with (fail)
  go_cut [10] (fun s10 wx => s10 = .int .i64 (want1 xs x a) ∧ wx = w2)
  case first =>
    by_cases c1 : rankOf xs x < rankOf xs a
    · have H := Lib.hid (want1_pos c1)
      go_wp2_with fail
      go_meet
      exact ⟨by rw [H.out], rfl⟩
    · have H := Lib.hid (want1_neg c1)
      go_wp2_with fail
      go_meet
      exact ⟨by rw [H.out], rfl⟩
  case rest =>
  obtain ⟨rfl, ew⟩ := hcut
  rw [ew]
  clear ew
  go_wp2_with fail
  go_quiet ((go_at_call 20; exact Calls.quiet_of (rankFn_calls xs tb _ w2.heap.size _ _ (by exact h0) (by exact HT.out.drewN _))))
  replace h0 : (w2.drewN nq).cell? ⟨tb, 0, none⟩ = _ := h0
  replace h1 : (w2.drewN nq).cell? ⟨xb, 0, none⟩ = _ := h1
  replace h2 : (w2.drewN nq).cell? ⟨ab, 0, none⟩ = _ := h2
  replace h3 : (w2.drewN nq).cell? ⟨bb, 0, none⟩ = _ := h3
  replace HT := Lib.hid (show SlR (w2.drewN nq) (w2.drewN nq).heap.size _ _ from HT.out.drewN nq)
  replace HB := Lib.hid (HB.out.trans (Below.drewN w2 nq))
  generalize w2.drewN nq = w3 at *
  go_upto_if 31 with (fail)
  go_cut [10] (fun s10 wx => s10 = .int .i64 (cmpOf xs x a) ∧ wx = w3)
  case first =>
    rcases orders_cases xs x a with ⟨o1, o2, o3, o4, o5⟩ | ⟨o1, o2, o3, o4, o5⟩ | ⟨o1, o2, o3, o4, o5⟩ | ⟨o1, o2, o3, o4, o5⟩
    · have d2 : ¬ rankOf xs a < rankOf xs x := by omega
      have H := Lib.hid (o2.trans (want1_pos o1).symm)
      clear o1 o2 o3 o4 o5
      go_wp2_with fail
      go_meet
      exact ⟨by rw [H.out], rfl⟩
    · have d2 : rankOf xs a < rankOf xs x := o1
      have H := Lib.hid o2
      clear o1 o2 o3 o4 o5
      go_wp2_with fail
      go_meet
      exact ⟨by rw [H.out], rfl⟩
    all_goals
      have d2 : ¬ rankOf xs a < rankOf xs x := by omega
      have H := Lib.hid (o2.trans (want1_neg (show ¬ rankOf xs x < rankOf xs a by omega)).symm)
      clear o1 o2 o3 o4 o5
      go_wp2_with fail
      go_meet
      exact ⟨by rw [H.out], rfl⟩
  case rest =>
  obtain ⟨rfl, ew⟩ := hcut
  rw [ew]
  clear ew
  go_wp2_with fail
  have HE := env_below (show Below w3.heap.size w3 w3.drew from ⟨rfl, rfl, rfl, Nat.le_refl _, fun _ _ => rfl⟩) h0 h1 h2 h3 HT.out (Nat.le_refl _) (Below.refl _ _)
  clear h0 h1 h2 h3 HT
  go_region_held3 (fun w' => w'.cell? ⟨tb, 0, none⟩ = some (.slice A xs.length c) ∧ w'.cell? ⟨xb, 0, none⟩ = some (.int .i64 x) ∧ w'.cell? ⟨ab, 0, none⟩ = some (.int .i64 a) ∧ w'.cell? ⟨bb, 0, none⟩ = some (.int .i64 b) ∧ SlR w' w3.heap.size (.slice A xs.length c) (xs.map i64v) ∧ w3.heap.size ≤ w3.heap.size ∧ Below w3.heap.size w3 w')
    (first | exact HE | exact env_next hb (by assumption))
    (first
      | (go_at_call 22; refine (implMaxF_calls xs _ x a _ (env_slr (by assumption))).mono ?_; rintro e w' ⟨rfl, hb⟩)
      | (go_at_call 23; refine (implMinF_calls xs _ x a _ (env_slr (by assumption))).mono ?_; rintro e w' ⟨rfl, hb⟩))
  rename_i hH
  replace hH := env_next (show Below w'.heap.size w' w'.drew from ⟨rfl, rfl, rfl, Nat.le_refl _, fun _ _ => rfl⟩) hH
  clear HE hb
  go_upto_region 10 with (fail)
  go_cut [10, 11, 12, 101] (fun s10 s11 s12 s101 wx => s10 = .int .i64 (cmpOf xs x a) ∧ s11 = .int .i64 (maxF xs x a) ∧ s12 = .int .i64 (minF xs x a) ∧ s101 = .bool false ∧ wx.cell? ⟨tb, 0, none⟩ = some (.slice A xs.length c) ∧ wx.cell? ⟨xb, 0, none⟩ = some (.int .i64 x) ∧ wx.cell? ⟨ab, 0, none⟩ = some (.int .i64 a) ∧ wx.cell? ⟨bb, 0, none⟩ = some (.int .i64 b) ∧ SlR wx w3.heap.size (.slice A xs.length c) (xs.map i64v) ∧ w3.heap.size ≤ w3.heap.size ∧ Below w3.heap.size w3 wx)
  case first =>
    rcases orders_cases xs x a with ⟨o1, o2, o3, o4, o5⟩ | ⟨o1, o2, o3, o4, o5⟩ | ⟨o1, o2, o3, o4, o5⟩ | ⟨o1, o2, o3, o4, o5⟩
    all_goals
      have K2 := Lib.hid o2
      have K3 := Lib.hid o3
      have K4 := Lib.hid o4
      rw [o2, o3, o4]
      have d7 : (x != x) = false := bne_self_eq_false x
      have d8 : (a != a) = false := bne_self_eq_false a
      have d4 : decide (rankOf xs a < rankOf xs a) = false := by simp
      have d5 : decide (rankOf xs x < rankOf xs x) = false := by simp
      have d1 : ∃ u, decide (rankOf xs x < rankOf xs a) = u := ⟨_, rfl⟩
      have d2 : ∃ u, decide (rankOf xs a < rankOf xs x) = u := ⟨_, rfl⟩
      have d3 : ∃ u, (a != x) = u := ⟨_, rfl⟩
      have d6 : ∃ u, (x != a) = u := ⟨_, rfl⟩
      obtain ⟨u1, d1⟩ := d1
      obtain ⟨u2, d2⟩ := d2
      obtain ⟨u3, d3⟩ := d3
      obtain ⟨u6, d6⟩ := d6
      have q1 := d1
      have q2 := d2
      have q3 := d3
      have q6 := d6
      first
      | (rw [decide_eq_true o1] at q1; rw [decide_eq_false (by omega)] at q2)
      | (rw [decide_eq_false (by omega)] at q1; rw [decide_eq_true o1] at q2)
      | (rw [decide_eq_false (by omega)] at q1; rw [decide_eq_false (by omega)] at q2)
      first
      | (rw [show (a != x) = false by simpa using o5] at q3; rw [show (x != a) = false by simpa using o5.symm] at q6)
      | (rw [show (a != x) = true by simpa using o5] at q3; rw [show (x != a) = true by simpa using Ne.symm o5] at q6)
      subst q1 q2 q3 q6
      clear o1 o3 o4 o5
      refine region_runs (S := (fun w' => w'.cell? ⟨tb, 0, none⟩ = some (.slice A xs.length c) ∧ w'.cell? ⟨xb, 0, none⟩ = some (.int .i64 x) ∧ w'.cell? ⟨ab, 0, none⟩ = some (.int .i64 a) ∧ w'.cell? ⟨bb, 0, none⟩ = some (.int .i64 b) ∧ SlR w' w3.heap.size (.slice A xs.length c) (xs.map i64v) ∧ w3.heap.size ≤ w3.heap.size ∧ Below w3.heap.size w3 w')) (by kernel_rfl) (by kernel_rfl) (by kernel_rfl) hH ?_
      iterate 62
        first
        | (refine Runs.off (by rfl) ?_
           simp only [Act.put, List.setIfInBounds_toArray, List.set_cons_zero, List.set_cons_succ])
        | (refine Runs.take (v := ?_) (by rfl) ?_ ?_
           rotate_left 1
           · intro w hSw; (try dsimp only at hSw); go_simp; (try with_reducible rfl)
           simp only [Act.put, List.setIfInBounds_toArray, List.set_cons_zero, List.set_cons_succ])
        | (refine Runs.call (v := ?_) (f := ?_) (args := ?_) (by rfl) ?_ ?_ ?_
           rotate_left 3
           · intro w hSw; (try dsimp only at hSw); go_simp; (first | with_reducible rfl | (refine ⟨?_, ?_⟩ <;> with_reducible rfl))
           · intro w hSw
             first
             | (go_at_call 24; refine (implCmp_calls xs _ x a _ (env_slr hSw)).mono ?_; rintro e w' ⟨rfl, hb⟩; refine ⟨?_, env_next hb hSw⟩)
             | (go_at_call 20; refine (rankFn_below xs tb _ _ _ _ (And.left hSw) (env_slr hSw)).mono ?_; rintro e w' ⟨rfl, hb⟩; refine ⟨?_, env_next hb hSw⟩)
             (try simp only [o2])
             (try with_reducible rfl)
           simp only [Act.put, List.setIfInBounds_toArray, List.set_cons_zero, List.set_cons_succ])
        | fail
      dsimp only [Runs]
      intro w' hH
      go_wp2_with fail
      go_meet
      exact ⟨by rw [K2.out], by rw [K3.out], by rw [K4.out], rfl, hH⟩
  case rest =>
  obtain ⟨rfl, rfl, rfl, rfl, hH⟩ := hcut
  go_wp2_with fail
  replace hH := env_next (below_drew _) hH
  go_upto_region 13 with (fail)
  go_cut [134] (fun s134 wy => s134 = .bool false ∧ wy.cell? ⟨tb, 0, none⟩ = some (.slice A xs.length c) ∧ wy.cell? ⟨xb, 0, none⟩ = some (.int .i64 x) ∧ wy.cell? ⟨ab, 0, none⟩ = some (.int .i64 a) ∧ wy.cell? ⟨bb, 0, none⟩ = some (.int .i64 b) ∧ SlR wy w3.heap.size (.slice A xs.length c) (xs.map i64v) ∧ w3.heap.size ≤ w3.heap.size ∧ Below w3.heap.size w3 wy)
  case first =>
    have g3 : (heldROf xs x a b != heldROf xs x a b) = false := bne_self_eq_false _
    have g4 : (heldIOf xs x a b != heldIOf xs x a b) = false := bne_self_eq_false _
    have hg : (∃ u, decide (rankOf xs a ≤ rankOf xs b) = u ∧ (u = true → maxF xs a (minF xs b x) = heldROf xs x a b)) ∧ (∃ u, decide (a ≤ b) = u ∧ (u = true → max a (min b x) = heldIOf xs x a b)) :=
      ⟨⟨_, rfl, fun h => clampF_held xs x a b (of_decide_eq_true h)⟩, ⟨_, rfl, fun h => clamp_held xs x a b (of_decide_eq_true h)⟩⟩
    obtain ⟨⟨u1, g1, E1⟩, ⟨u2, g2, E2⟩⟩ := hg
    cases u1 <;> cases u2
    all_goals
      try have e1 := E1 rfl
      try have e2 := E2 rfl
      clear E1 E2
      refine region_runs (S := (fun w' => w'.cell? ⟨tb, 0, none⟩ = some (.slice A xs.length c) ∧ w'.cell? ⟨xb, 0, none⟩ = some (.int .i64 x) ∧ w'.cell? ⟨ab, 0, none⟩ = some (.int .i64 a) ∧ w'.cell? ⟨bb, 0, none⟩ = some (.int .i64 b) ∧ SlR w' w3.heap.size (.slice A xs.length c) (xs.map i64v) ∧ w3.heap.size ≤ w3.heap.size ∧ Below w3.heap.size w3 w')) (by kernel_rfl) (by kernel_rfl) (by kernel_rfl) hH ?_
      iterate 32
        first
        | (refine Runs.off (by rfl) ?_
           simp only [Act.put, List.setIfInBounds_toArray, List.set_cons_zero, List.set_cons_succ])
        | (refine Runs.take (v := ?_) (by rfl) ?_ ?_
           rotate_left 1
           · intro w hSw; (try dsimp only at hSw); go_simp; (try with_reducible rfl)
           simp only [Act.put, List.setIfInBounds_toArray, List.set_cons_zero, List.set_cons_succ])
        | (refine Runs.call (v := ?_) (f := ?_) (args := ?_) (by rfl) ?_ ?_ ?_
           rotate_left 3
           · intro w hSw; (try dsimp only at hSw); go_simp; (first | with_reducible rfl | (refine ⟨?_, ?_⟩ <;> with_reducible rfl))
           · intro w hSw
             first
             | (go_at_call 20; refine (rankFn_below xs tb _ _ _ _ (And.left hSw) (env_slr hSw)).mono ?_; rintro e w' ⟨rfl, hb⟩; refine ⟨?_, env_next hb hSw⟩)
             | (go_at_call 26; refine (implClampF_calls xs _ x a b _ (env_slr hSw)).mono ?_; rintro e w' ⟨rfl, hb⟩; refine ⟨?_, env_next hb hSw⟩)
             | (go_at_call 27; refine (implClamp_calls x a b _).mono ?_; rintro e w' ⟨rfl, n, rfl⟩; refine ⟨?_, env_next (Below.drewN _ _) hSw⟩)
             | (go_at_call_of 25 (tb); refine (heldR_calls xs tb _ _ xb ab bb x a b _ hSw.2.1 hSw.2.2.1 hSw.1 (env_slr hSw) hSw.2.2.2.1).mono ?_; rintro e w' ⟨rfl, n, rfl⟩; refine ⟨?_, env_next (Below.drewN _ _) hSw⟩)
             | (go_at_call 25; refine (heldI_calls xs xb ab bb x a b _ hSw.2.1 hSw.2.2.1 hSw.2.2.2.1).mono ?_; rintro e w' ⟨rfl, n, rfl⟩; refine ⟨?_, env_next (Below.drewN _ _) hSw⟩)
             (try simp only [e1, e2])
             (try with_reducible rfl)
           simp only [Act.put, List.setIfInBounds_toArray, List.set_cons_zero, List.set_cons_succ])
        | fail
      dsimp only [Runs]
      intro w' hH
      go_wp2_with fail
      go_meet
      exact ⟨rfl, hH⟩
  case rest =>
  obtain ⟨rfl, hH⟩ := hcut
  go_wp2_with fail
  have m1 : (max x a == if x < a then a else x) = true := by simp [Int.max_def]; split <;> split <;> omega
  have m2 : (min x a == if a < x then a else x) = true := by simp [Int.min_def]; split <;> split <;> omega
  refine region_runs (S := (fun w' => w'.cell? ⟨tb, 0, none⟩ = some (.slice A xs.length c) ∧ w'.cell? ⟨xb, 0, none⟩ = some (.int .i64 x) ∧ w'.cell? ⟨ab, 0, none⟩ = some (.int .i64 a) ∧ w'.cell? ⟨bb, 0, none⟩ = some (.int .i64 b) ∧ SlR w' w3.heap.size (.slice A xs.length c) (xs.map i64v) ∧ w3.heap.size ≤ w3.heap.size ∧ Below w3.heap.size w3 w')) (by kernel_rfl) (by kernel_rfl) (by kernel_rfl) (env_next (below_drew _) hH) ?_
  iterate 21
    first
    | (refine Runs.off (by rfl) ?_
       simp only [Act.put, List.setIfInBounds_toArray, List.set_cons_zero, List.set_cons_succ])
    | (refine Runs.take (v := ?_) (by rfl) ?_ ?_
       rotate_left 1
       · intro w hSw; (try dsimp only at hSw); go_simp; (try with_reducible rfl)
       simp only [Act.put, List.setIfInBounds_toArray, List.set_cons_zero, List.set_cons_succ])
    | (refine Runs.call (v := ?_) (f := ?_) (args := ?_) (by rfl) ?_ ?_ ?_
       rotate_left 3
       · intro w hSw; (try dsimp only at hSw); go_simp; (first | with_reducible rfl | (refine ⟨?_, ?_⟩ <;> with_reducible rfl))
       · intro w hSw
         first
         | (go_at_call 29; refine (implMax_calls _ _ _).mono ?_; rintro e w' ⟨rfl, n, rfl⟩; refine ⟨?_, env_next (Below.drewN _ _) hSw⟩)
         | (go_at_call 30; refine (implMin_calls _ _ _).mono ?_; rintro e w' ⟨rfl, n, rfl⟩; refine ⟨?_, env_next (Below.drewN _ _) hSw⟩)
         (try with_reducible rfl)
       simp only [Act.put, List.setIfInBounds_toArray, List.set_cons_zero, List.set_cons_succ])
    | fail
  dsimp only [Runs]
  intro w' hH
  go_wp2_with fail
  all_goals
    go_ret
    exact ⟨rfl, HB.out.trans (hH.2.2.2.2.2.2.mono (htb ▸ HB.out.size))⟩
end Go.Proofs.Ytpnmgfiifaljjaa
