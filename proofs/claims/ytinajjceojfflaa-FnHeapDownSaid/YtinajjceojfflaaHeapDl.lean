/- laws.FnHeapDown: the law. -/
import Derived.Test.YtinajjceojfflaaHeapDn
namespace Go.Proofs.Ytinajjceojfflaa
open Go.RowKit HeapP PFnHeapDown Go.Proofs.YtinajjceojfflaaW.PrintWords
attribute [local go_sem ↓] Go.wp_at_zero Go.wp_at_succ

theorem heapOf_len (ts : List Int) (how : Int) (first : List Int) : (heapOfP ts how first).length = first.length := by
  unfold heapOfP; split
  · rw [foldl_push_len]; simp
  · rw [fromP_len]
set_option maxRecDepth 100000 in
set_option maxHeartbeats 3200000 in
theorem heapDownLaw_calls (ts : List Int) (tv dv : Value) (data : List Int) (at' x : Int) (w : World) (ht : SlR w w.heap.size tv (ts.map i64v)) (hd : SlI w w.heap.size dv data) (hnone : ∀ m c, dv = .slice none m c → m = 0 ∧ c = 0) :
    Calls Try.prog 5 #[tv, dv, .int .i64 at', .int .i64 x] w fun e w' => e = .returned (.bool true) ∧ Below w.heap.size w w' := by
  obtain ⟨A, c, rfl⟩ := ht.form
  obtain ⟨A2, c2, rfl⟩ := hd.form
  rw [List.length_map] at *
  have HT := Lib.hid ht
  have HD := Lib.hid hd
  have HN := Lib.hid hnone
  clear ht hd hnone
  by_cases b1 : (ts.length : Int) ≤ 2147483647
  case neg =>
    go_enter Try.func5, Try.ntmps5
    go_wp2
    go_ret
    exact ⟨rfl, Below.refl _ _⟩
  by_cases b2 : (data.length : Int) ≤ 2147483647
  case neg =>
    go_enter Try.func5, Try.ntmps5
    go_wp2
    go_ret
    exact ⟨rfl, Below.refl _ _⟩
  go_enter Try.func5, Try.ntmps5
  go_wp2_with fail
  refine (heapData_calls ts _ _ 1 data w HT.out HD.out HN.out (by omega)).mono ?_
  rintro e w1 ⟨g, cap, rfl, o1, hb1⟩
  have hR := heapOf_right ts 1 data
  have hlen := heapOf_len ts 1 data
  generalize heapOfP ts 1 data = h at *
  have hl2 : (h.length : Int) ≤ 2147483647 := by omega
  have HL := Lib.hid hlen
  clear hlen b2
  have H1 := Lib.hid (And.intro o1 hb1)
  have HR := Lib.hid hR
  clear o1 hb1 hR HD HN
  by_cases c0 : h = []
  · subst c0
    go_wp2_with fail
    have one : SlI (w1.alloc (Obj.cells #[.int .i64 1] 3)) (w1.alloc (Obj.cells #[.int .i64 1] 3)).heap.size (.slice (some ⟨w1.heap.size, 0, none⟩) 1 1) [1] := by
      refine ⟨⟨_, 1, rfl, .inr ⟨w1.heap.size, 0, rfl, by simp, by simp, by simp, fun i a hi j u hj => ?_⟩⟩⟩
      cases i with
      | succ i => simp at hi
      | zero =>
        simp at hi; subst hi
        cases j with
        | succ j => simp [int1] at hj
        | zero =>
          have := (Blk.new w1 #[.int .i64 1] 3).cell 0
          rw [show 0 + 0 * 1 + 0 = 0 by omega, this]
          rw [← hj]; simp [int1]
    have B3 := H1.out.2.alloc H1.out.2.size (Obj.cells #[.int .i64 1] 3)
    refine (heapDown_calls ts _ _ [1] 0 _ ((HT.out.below B3).mono B3.size) one (fun m c e => by cases e) (by simp) (by simp)).mono ?_
    rintro e w2 ⟨g2, cap2, rfl, _, hb2⟩
    have HB := Lib.hid (B3.trans (hb2.mono B3.size))
    clear hb2 B3
    go_wp2_with fail
    go_ret
    exact ⟨rfl, HB.out⟩
  · have hpos : 0 < h.length := List.length_pos_iff.2 c0
    have mm := mod_math at' h.length (by omega) (by omega)
    obtain ⟨i, hi⟩ : ∃ i : Nat, at' % (h.length : Int) = i := Int.eq_ofNat_of_zero_le (Int.emod_nonneg _ (by omega))
    have hil : i < h.length := by have := Int.emod_lt_of_pos at' (show 0 < (h.length : Int) by omega); omega
    rw [hi] at mm
    have ew := mm
    have ez : ((h.length : Int) == 0) = false := by rw [beq_eq_false_iff_ne]; omega
    have x0 := H1.out.1.cell hil
    have r0 : (0 : Int) ≤ (i : Int) := by omega
    have r1 : (i : Int) < (h.length : Int) := by omega
    have HI := Lib.hid (And.intro hil hi)
    clear hi
    clear mm
    go_wp2_with fail
    have HTs := Lib.hid (HT.out.below H1.out.2)
    go_quiet ((go_at_call 15; exact Calls.quiet_of (rankS_calls _ (HTs.out.drewN _) (by omega) _)))
    obtain ⟨X, hX⟩ : ∃ X, (if rankOf ts x < rankOf ts (getI h i) then getI h i else x) = X := ⟨_, rfl⟩
    have hle : rankOf ts (getI h i) ≤ rankOf ts X := by
      rw [← hX]; split <;> omega
    have HX := Lib.hid (And.intro hX hle)
    clear hX hle
    go_upto_if 50 with (fail)
    go_cut [3] (fun s3 wc => s3 = .int .i64 X ∧ wc = w1.drewN nq)
    case first =>
      replace x0 : (w1.drewN nq).cell? ⟨g, i, none⟩ = some (.int .i64 (getI h i)) := x0
      have HX1 := HX.out.1
      obtain ⟨u, hu⟩ : ∃ u, decide (rankOf ts x < rankOf ts (getI h i)) = u := ⟨_, rfl⟩
      rw [hu]
      cases u
      · have e : x = X := by rw [← HX1, if_neg (of_decide_eq_false hu)]
        have E := Lib.hid e
        clear hu e HX1
        go_wp2_with fail
        go_meet
        exact ⟨by rw [E.out], rfl⟩
      · have e : getI h i = X := by rw [← HX1, if_pos (of_decide_eq_true hu)]
        have E := Lib.hid e
        clear hu e HX1
        go_wp2_with fail
        go_meet
        exact ⟨by rw [E.out], rfl⟩
    case rest =>
      obtain ⟨rfl, ew'⟩ := hcut
      rw [ew']
      clear ew'
      have o2 := H1.out.1.drewN nq
      have fz := o2.frozen i
      replace x0 : (w1.drewN nq).cell? ⟨g, i, none⟩ = some (.int .i64 (getI h i)) := x0
      have hb2 : Below w.heap.size w (w1.drewN nq) := H1.out.2.trans (Below.drewN _ _)
      have H2 := Lib.hid (And.intro o2 hb2)
      clear o2 hb2
      generalize w1.drewN nq = w2 at *
      have hgB : w.heap.size ≤ g := by obtain ⟨cur, h2, h1, _⟩ := H2.out.1.blk; exact h1
      have o3 := H2.out.1.set hil X
      have hb3 := H2.out.2.trans ((Fr.setCell (S := [g]) w2 g i (.int .i64 X) (by simp)).below (by simpa using hgB) H2.out.2.size)
      have oC := o3.toC
      rw [List.length_set] at oC
      have hds := down_set ts h i X hil HR.out.1 HX.out.2
      have hdp := downP_perm (r := rankOf ts) (h.set i X).length (h.set i X) i
      have H3 := Lib.hid (And.intro o3 (And.intro hb3 oC))
      have HQ := Lib.hid (And.intro hds hdp)
      clear o3 hb3 oC hds hdp hgB
      go_wp2_with fail
      have hcall := heapDown_calls ts (.slice A ts.length c) (.slice (some ⟨g, 0, none⟩) h.length cap) (h.set i X) i (w2.setCell ⟨g, i, none⟩ (.int .i64 X)) ((HT.out.below H3.out.2.1).mono H3.out.2.1.size) H3.out.2.2 (fun m c e => by cases e) (by rw [List.length_set]; omega) (by omega)
      rw [List.length_set] at hcall
      refine hcall.mono ?_
      clear hcall
      rintro e w3 ⟨g2, cap2, rfl, o4, hb4⟩
      have hlq : (downP (rankOf ts) (h.set i X).length (h.set i X) i).length = h.length := by rw [downP_len, List.length_set]
      rw [List.length_set] at hlq HQ
      generalize downP (rankOf ts) h.length (h.set i X) i = ys at *
      have hb5 := H3.out.2.1.trans (hb4.mono H3.out.2.1.size)
      have xs3 := H3.out.2.2.below hb4
      have ys3 := o4.toC
      rw [hlq] at ys3
      have tr := heapTree_calls ts ys A (some ⟨g2, 0, none⟩) c cap2 w.heap.size w3.heap.size w3 (HT.out.below hb5) (by rw [hlq]; exact ys3) HQ.out.1 (by omega) (by omega)
      rw [hlq] at tr
      obtain ⟨k, hk⟩ := bag_f ys (h.set i X) (by omega) HQ.out.2
      have H5 := Lib.hid (And.intro hb5 (And.intro xs3 (And.intro ys3 (And.intro hk hlq))))
      have HTr := Lib.hid tr
      clear o4 hb4 hb5 xs3 ys3 tr hk hlq
      go_wp2_with fail
      refine HTr.out.mono ?_
      rintro e w4 ⟨rfl, n4, rfl⟩
      have xk : (Kd.int .i64).C (w3.drewN n4) (some ⟨g, 0, none⟩) (h.set i X).length (h.set i X) := (SlI.kd H5.out.2.1 (by rw [List.length_set]; omega) : (Kd.int .i64).C w3 _ _ _)
      have yk : (Kd.int .i64).C (w3.drewN n4) (some ⟨g2, 0, none⟩) ys.length ys := (SlI.kd H5.out.2.2.1 (by rw [H5.out.2.2.2.2]; omega) : (Kd.int .i64).C w3 _ _ _)
      have bg := spec_BagRows.calls k none 0 [] (some ⟨g2, 0, none⟩) cap2 ys (some ⟨g, 0, none⟩) cap (h.set i X) true (w3.drewN n4) ⟨rfl, by simp, fun h => by simp at h⟩ (by simp) yk (SlC.le H5.out.2.2.1) xk (SlC.le H5.out.2.1) H5.out.2.2.2.1
      rw [H5.out.2.2.2.2, List.length_set] at bg
      have HBg := Lib.hid bg
      clear xk yk bg HTr
      go_wp2_with fail
      refine HBg.out.mono ?_
      rintro e w5 ⟨rfl, ⟨n5, rfl⟩⟩
      go_wp2_with fail
      go_ret
      exact ⟨rfl, H5.out.1.trans (Below.drewN _ _)⟩
end Go.Proofs.Ytinajjceojfflaa
