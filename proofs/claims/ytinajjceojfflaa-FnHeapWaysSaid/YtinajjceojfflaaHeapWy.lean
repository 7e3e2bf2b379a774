/- laws.FnHeapWays. -/
import Derived.Test.YtinajjceojfflaaHeapWp
import Derived.Test.YtinajjceojfflaaHeapK0
import Derived.Test.YtinajjceojfflaaPFnHeapWaysx
namespace Go.Proofs.Ytinajjceojfflaa
open Go.RowKit HeapP PFnHeapWays Go.Proofs.YtinajjceojfflaaW.PrintWords
attribute [local go_sem ↓] Go.wp_at_zero Go.wp_at_succ

theorem rank_fW (ts : List Int) (a : Int) (h : ts.length ≤ 4611686018427387903) : spec_Rank.f ts a = some (rankOf ts a) := by
  unfold spec_Rank.f rankOf
  by_cases e : ts = []
  · subst e; simp
  · have hl : 0 < ts.length := List.length_pos_iff.2 e
    rw [if_neg (by omega), if_neg e, mod_math _ _ (by omega) (by omega)]
    have h0 : 0 ≤ a % (ts.length : Int) := Int.emod_nonneg _ (by omega)
    have h1 : a % (ts.length : Int) < (ts.length : Int) := Int.emod_lt_of_pos _ (by omega)
    rw [if_pos h0, if_pos h1]
    rfl
theorem alike_calls {w0 : World} {A : Option Addr} {c : Nat} {ts : List Int} (ht : SlR w0 w0.heap.size (.slice A ts.length c) (ts.map i64v)) (hl : ts.length ≤ 4611686018427387903) (w : World) (hw : ∃ n, w = w0.drewN n) (a b : Int) (hab : rankOf ts a = rankOf ts b) :
    Calls Try.prog 12 #[.slice A ts.length c, .int .i64 a, .int .i64 b] w fun e w' => e = .returned (.bool true) ∧ ∃ n, w' = w.drewN n := by
  obtain ⟨n, rfl⟩ := hw
  have hk : (Kd.int .i64).C (w0.drewN n) A ts.length ts := (SlI.kd ht.toI (by omega) : (Kd.int .i64).C w0 A ts.length ts)
  refine (spec_Alike.calls A c ts a b true _ hk (SlC.le ht.toI) ?_).mono ?_
  · unfold spec_Alike.f
    rw [rank_fW _ _ hl, rank_fW _ _ hl, Option.bind_some, Option.bind_some, hab]; simp
  · rintro e w' ⟨rfl, h⟩
    exact ⟨rfl, h.out⟩
theorem seen_lenW (ts : List Int) (how : Int) (first : List Int) (l : List StepD) : (runH ts (heapOfP ts how first) l).2.length = l.length := runH_len _ _ _
theorem waysS_drewN {w3 w : World} {p0 p1 p2 p3 p4 p5 : Addr} {v0 v1 v2 v3 v4 v5 : Value} {m : Nat} (h : w.cell? p0 = some v0 ∧ w.cell? p1 = some v1 ∧ w.cell? p2 = some v2 ∧ w.cell? p3 = some v3 ∧ w.cell? p4 = some v4 ∧ w.cell? p5 = some v5 ∧ ∃ n, w = w3.drewN n) :
    (w.drewN m).cell? p0 = some v0 ∧ (w.drewN m).cell? p1 = some v1 ∧ (w.drewN m).cell? p2 = some v2 ∧ (w.drewN m).cell? p3 = some v3 ∧ (w.drewN m).cell? p4 = some v4 ∧ (w.drewN m).cell? p5 = some v5 ∧ ∃ n, w.drewN m = w3.drewN n := by
  obtain ⟨h0, h1, h2, h3, h4, h5, n, rfl⟩ := h
  exact ⟨h0, h1, h2, h3, h4, h5, n + m, by first | rfl | (simp [World.drewN]; omega)⟩
set_option maxRecDepth 100000 in
set_option maxHeartbeats 6400000 in
theorem heapWays_calls (ts : List Int) (tv fv lv : Value) (first : List Int) (l : List StepD) (w : World) (ht : SlR w w.heap.size tv (ts.map i64v)) (hfi : SlI w w.heap.size fv first) (hnone : ∀ m c, fv = .slice none m c → m = 0 ∧ c = 0) (hl : SlC 4 stepCell w w.heap.size lv l) :
    Calls Try.prog 4 #[tv, fv, lv] w fun e w' => e = .returned (.bool true) ∧ Below w.heap.size w w' := by
  obtain ⟨A, c, rfl⟩ := ht.form
  obtain ⟨A2, c2, rfl⟩ := hfi.form
  obtain ⟨A3, c3, rfl⟩ := hl.form
  rw [List.length_map] at *
  have HT := Lib.hid ht
  have HF := Lib.hid hfi
  have HL := Lib.hid hl
  have HN := Lib.hid hnone
  clear ht hfi hl hnone
  by_cases b1 : (ts.length : Int) ≤ 2147483647
  case neg =>
    go_enter Try.func4, Try.ntmps4
    go_wp2
    go_ret
    exact ⟨rfl, Below.refl _ _⟩
  by_cases b2 : (first.length : Int) ≤ 2147483647
  case neg =>
    go_enter Try.func4, Try.ntmps4
    go_wp2
    go_ret
    exact ⟨rfl, Below.refl _ _⟩
  by_cases b3 : (l.length : Int) ≤ 2147483647
  case neg =>
    go_enter Try.func4, Try.ntmps4
    go_wp2
    go_ret
    exact ⟨rfl, Below.refl _ _⟩
  go_enter Try.func4, Try.ntmps4
  go_wp2_with fail
  refine (heapRun_calls ts _ _ _ 0 first l w HT.out HF.out HN.out HL.out (by omega) (by omega)).mono ?_
  rintro e w1 ⟨v1, rfl, hown, hb⟩
  have hS : SlC 4 seenCell w1 w1.heap.size v1 (runH ts (heapOfP ts 0 first) l).2 := own_SlC seenCell_len (by rw [seen_lenW]; exact hown)
  obtain ⟨A4, c4, e4⟩ := hS.form
  rw [seen_lenW] at e4
  subst e4
  have HX := Lib.hid hS
  have HB1 := Lib.hid hb
  clear hS hown hb
  go_wp2_with fail
  refine (heapRun_calls ts _ _ _ 1 first l w1 ((HT.out.below HB1.out).mono HB1.out.size) ((HF.out.below HB1.out).mono HB1.out.size) HN.out ((HL.out.below HB1.out).mono HB1.out.size) (by omega) (by omega)).mono ?_
  rintro e w2 ⟨v2, rfl, hown, hb⟩
  have hS : SlC 4 seenCell w2 w2.heap.size v2 (runH ts (heapOfP ts 1 first) l).2 := own_SlC seenCell_len (by rw [seen_lenW]; exact hown)
  obtain ⟨A5, c5, e5⟩ := hS.form
  rw [seen_lenW] at e5
  subst e5
  have HY := Lib.hid hS
  have HB12 := Lib.hid hb
  have HB2 := Lib.hid (HB1.out.trans (hb.mono HB1.out.size))
  clear hS hown hb
  go_wp2_with fail
  refine (heapRun_calls ts _ _ _ 2 first l w2 ((HT.out.below HB2.out).mono HB2.out.size) ((HF.out.below HB2.out).mono HB2.out.size) HN.out ((HL.out.below HB2.out).mono HB2.out.size) (by omega) (by omega)).mono ?_
  rintro e w3 ⟨v3, rfl, hown, hb⟩
  have hS : SlC 4 seenCell w3 w3.heap.size v3 (runH ts (heapOfP ts 2 first) l).2 := own_SlC seenCell_len (by rw [seen_lenW]; exact hown)
  obtain ⟨A6, c6, e6⟩ := hS.form
  rw [seen_lenW] at e6
  subst e6
  have HZ := Lib.hid hS
  have HB3 := Lib.hid (HB2.out.trans (hb.mono HB2.out.size))
  replace HT := Lib.hid ((HT.out.below HB3.out).mono HB3.out.size)
  replace HY := Lib.hid (HY.out.below hb)
  replace HX := Lib.hid (HX.out.below (HB12.out.trans (hb.mono HB12.out.size)))
  clear hS hown hb HB12 HB1 HB2 HL HN HF
  go_wp2_with fail
  go_loopw [10] (fun i wr => ∃ k : Nat, k ≤ l.length ∧ i = .int .i64 k ∧ ∃ n, wr = w3.drewN n) (fun i _ => l.length - (intOf i).toNat)
  case atStart => exact ⟨0, Nat.zero_le _, rfl, 0, rfl⟩
  case round =>
    obtain ⟨k, hk, rfl, nd, rfl⟩ := hrel
    by_cases hlt : k < l.length
    · obtain ⟨mx, my, mz, ok, e0, e1, e2, e3⟩ := three_ways ts first l hlt
      have gX := HX.out.at_ (i := k) (by rw [seen_lenW]; exact hlt)
      have gY := HY.out.at_ (i := k) (by rw [seen_lenW]; exact hlt)
      have gZ := HZ.out.at_ (i := k) (by rw [seen_lenW]; exact hlt)
      obtain ⟨bx, fx, px, rfl, _, _, _, ex, zx⟩ := gX
      obtain ⟨by_, fy, py, rfl, _, _, _, ey, zy⟩ := gY
      obtain ⟨bz, fz, pz, rfl, _, _, _, ez, zz⟩ := gZ
      rw [e0] at ex; cases ex
      rw [e1] at ey; cases ey
      rw [e2] at ez; cases ez
      have x0 : (w3.drewN nd).cell? ⟨bx, fx + k * 4, none⟩ = some (.int .i64 mx) := zx 0 _ rfl
      have x1 : (w3.drewN nd).cell? ⟨bx, fx + k * 4 + 1, none⟩ = some (.bool ok) := zx 1 _ rfl
      have y0 : (w3.drewN nd).cell? ⟨by_, fy + k * 4, none⟩ = some (.int .i64 my) := zy 0 _ rfl
      have y1 : (w3.drewN nd).cell? ⟨by_, fy + k * 4 + 1, none⟩ = some (.bool ok) := zy 1 _ rfl
      have z0 : (w3.drewN nd).cell? ⟨bz, fz + k * 4, none⟩ = some (.int .i64 mz) := zz 0 _ rfl
      have z1 : (w3.drewN nd).cell? ⟨bz, fz + k * 4 + 1, none⟩ = some (.bool ok) := zz 1 _ rfl
      clear zx zy zz e0 e1 e2
      have HC := Lib.hid (show (w3.drewN nd).cell? ⟨bx, fx + k * 4, none⟩ = some (.int .i64 mx) ∧ (w3.drewN nd).cell? ⟨bx, fx + k * 4 + 1, none⟩ = some (.bool ok) ∧ (w3.drewN nd).cell? ⟨by_, fy + k * 4, none⟩ = some (.int .i64 my) ∧ (w3.drewN nd).cell? ⟨by_, fy + k * 4 + 1, none⟩ = some (.bool ok) ∧ (w3.drewN nd).cell? ⟨bz, fz + k * 4, none⟩ = some (.int .i64 mz) ∧ (w3.drewN nd).cell? ⟨bz, fz + k * 4 + 1, none⟩ = some (.bool ok) ∧ ∃ n, (w3.drewN nd) = w3.drewN n from ⟨x0, x1, y0, y1, z0, z1, nd, rfl⟩)
      have H3 := Lib.hid e3
      clear x0 x1 y0 y1 z0 z1 e3
      have r0 : (0 : Int) ≤ (k : Int) := by omega
      have r1 : (k : Int) < (l.length : Int) := by omega
      have r2 : decide ((k : Int) < (l.length : Int)) = true := decide_eq_true r1
      go_wp2_with fail
      cases ok
      · obtain ⟨rfl, rfl⟩ : mx = my ∧ mx = mz := by have h3 := H3.out; rwa [if_neg (by decide)] at h3
        refine region_runs (S := (fun w' => w'.cell? ⟨bx, fx + k * 4, none⟩ = some (.int .i64 mx) ∧ w'.cell? ⟨bx, fx + k * 4 + 1, none⟩ = some (.bool false) ∧ w'.cell? ⟨by_, fy + k * 4, none⟩ = some (.int .i64 mx) ∧ w'.cell? ⟨by_, fy + k * 4 + 1, none⟩ = some (.bool false) ∧ w'.cell? ⟨bz, fz + k * 4, none⟩ = some (.int .i64 mx) ∧ w'.cell? ⟨bz, fz + k * 4 + 1, none⟩ = some (.bool false) ∧ ∃ n, w' = w3.drewN n)) (by kernel_rfl) (by kernel_rfl) (by kernel_rfl) (waysS_drewN (m := 1) HC.out) ?_
        iterate 24
          first
          | (refine Runs.off (by rfl) ?_
             simp only [Act.put, List.setIfInBounds_toArray, List.set_cons_zero, List.set_cons_succ])
          | (refine Runs.take (v := ?_) (by rfl) ?_ ?_
             rotate_left 1
             · intro w hSw; (try dsimp only at hSw); go_simp; (try with_reducible rfl)
             simp only [Act.put, List.setIfInBounds_toArray, List.set_cons_zero, List.set_cons_succ])
          | fail
        dsimp only [Runs]
        intro w' hH
        clear HC
        go_wp2_with fail
        refine region_runs (S := (fun w' => w'.cell? ⟨bx, fx + k * 4, none⟩ = some (.int .i64 mx) ∧ w'.cell? ⟨bx, fx + k * 4 + 1, none⟩ = some (.bool false) ∧ w'.cell? ⟨by_, fy + k * 4, none⟩ = some (.int .i64 mx) ∧ w'.cell? ⟨by_, fy + k * 4 + 1, none⟩ = some (.bool false) ∧ w'.cell? ⟨bz, fz + k * 4, none⟩ = some (.int .i64 mx) ∧ w'.cell? ⟨bz, fz + k * 4 + 1, none⟩ = some (.bool false) ∧ ∃ n, w' = w3.drewN n)) (by kernel_rfl) (by kernel_rfl) (by kernel_rfl) (waysS_drewN (m := 1) hH) ?_
        iterate 69
          first
          | (refine Runs.off (by rfl) ?_
             simp only [Act.put, List.setIfInBounds_toArray, List.set_cons_zero, List.set_cons_succ])
          | (refine Runs.take (v := ?_) (by rfl) ?_ ?_
             rotate_left 1
             · intro w hSw; (try dsimp only at hSw); go_simp; (try with_reducible rfl)
             simp only [Act.put, List.setIfInBounds_toArray, List.set_cons_zero, List.set_cons_succ])
          | fail
        dsimp only [Runs]
        intro w' hH
        obtain ⟨_, _, _, _, _, _, n', rfl⟩ := hH
        go_wp2_with fail
        refine ⟨⟨k + 1, by omega, by go_num, n', rfl⟩, by simp [intOf]; omega⟩
      · replace H3 : Hid (rankOf ts mx = rankOf ts my ∧ rankOf ts mx = rankOf ts mz) := Lib.hid (by have h3 := H3.out; rwa [if_pos rfl] at h3)
        refine region_runs (S := (fun w' => w'.cell? ⟨bx, fx + k * 4, none⟩ = some (.int .i64 mx) ∧ w'.cell? ⟨bx, fx + k * 4 + 1, none⟩ = some (.bool true) ∧ w'.cell? ⟨by_, fy + k * 4, none⟩ = some (.int .i64 my) ∧ w'.cell? ⟨by_, fy + k * 4 + 1, none⟩ = some (.bool true) ∧ w'.cell? ⟨bz, fz + k * 4, none⟩ = some (.int .i64 mz) ∧ w'.cell? ⟨bz, fz + k * 4 + 1, none⟩ = some (.bool true) ∧ ∃ n, w' = w3.drewN n)) (by kernel_rfl) (by kernel_rfl) (by kernel_rfl) (waysS_drewN (m := 1) HC.out) ?_
        iterate 24
          first
          | (refine Runs.off (by rfl) ?_
             simp only [Act.put, List.setIfInBounds_toArray, List.set_cons_zero, List.set_cons_succ])
          | (refine Runs.take (v := ?_) (by rfl) ?_ ?_
             rotate_left 1
             · intro w hSw; (try dsimp only at hSw); go_simp; (try with_reducible rfl)
             simp only [Act.put, List.setIfInBounds_toArray, List.set_cons_zero, List.set_cons_succ])
          | fail
        dsimp only [Runs]
        intro w' hH
        clear HC
        go_wp2_with fail
        refine region_runs (S := (fun w' => w'.cell? ⟨bx, fx + k * 4, none⟩ = some (.int .i64 mx) ∧ w'.cell? ⟨bx, fx + k * 4 + 1, none⟩ = some (.bool true) ∧ w'.cell? ⟨by_, fy + k * 4, none⟩ = some (.int .i64 my) ∧ w'.cell? ⟨by_, fy + k * 4 + 1, none⟩ = some (.bool true) ∧ w'.cell? ⟨bz, fz + k * 4, none⟩ = some (.int .i64 mz) ∧ w'.cell? ⟨bz, fz + k * 4 + 1, none⟩ = some (.bool true) ∧ ∃ n, w' = w3.drewN n)) (by kernel_rfl) (by kernel_rfl) (by kernel_rfl) (waysS_drewN (m := 1) hH) ?_
        iterate 69
          first
          | (refine Runs.off (by rfl) ?_
             simp only [Act.put, List.setIfInBounds_toArray, List.set_cons_zero, List.set_cons_succ])
          | (refine Runs.take (v := ?_) (by rfl) ?_ ?_
             rotate_left 1
             · intro w hSw; (try dsimp only at hSw); go_simp; (try with_reducible rfl)
             simp only [Act.put, List.setIfInBounds_toArray, List.set_cons_zero, List.set_cons_succ])
          | (refine Runs.call (v := ?_) (f := ?_) (args := ?_) (by rfl) ?_ ?_ ?_
             rotate_left 3
             · intro w hSw; (try dsimp only at hSw); go_simp; (first | with_reducible rfl | (refine ⟨?_, ?_⟩ <;> with_reducible rfl))
             · intro w hSw
               first
               | (go_at_call_of 12 (my); refine (alike_calls HT.out (by omega) w hSw.2.2.2.2.2.2 mx my H3.out.1).mono ?_; rintro e w' ⟨rfl, n, rfl⟩; refine ⟨?_, waysS_drewN hSw⟩)
               | (go_at_call 12; refine (alike_calls HT.out (by omega) w hSw.2.2.2.2.2.2 mx mz H3.out.2).mono ?_; rintro e w' ⟨rfl, n, rfl⟩; refine ⟨?_, waysS_drewN hSw⟩)
               (try with_reducible rfl)
             simp only [Act.put, List.setIfInBounds_toArray, List.set_cons_zero, List.set_cons_succ])
          | fail
        dsimp only [Runs]
        intro w' hH
        obtain ⟨_, _, _, _, _, _, n', rfl⟩ := hH
        go_wp2_with fail
        refine ⟨⟨k + 1, by omega, by go_num, n', rfl⟩, by simp [intOf]; omega⟩
    · have : k = l.length := by omega
      subst this
      go_wp2_with fail
      go_ret
      exact ⟨rfl, HB3.out.trans (Below.drewN _ _)⟩
end Go.Proofs.Ytinajjceojfflaa
