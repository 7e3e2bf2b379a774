/- laws.FnOverlapsOne. -/
import Derived.Test.YtomclflknjkhfaaLOver
namespace Go.Proofs.Ytomclflknjkhfaa
open Go.RowKit ItP

theorem run_list_len : ∀ (l : List MarkD) (t : IT), t.Good → (runI t l).1.list.length ≤ t.list.length + l.length
  | [], t, _ => by simp [runI]
  | a :: l, t, ht => by
    have h1 := run_list_len l _ (good_next (a := a) (nb := 0) ht)
    have h2 := next_len (a := a) (nb := 0) ht
    simp only [runI, List.length_cons]; omega
theorem filter_at {xs : List Sp} {k : Nat} {s : Sp} (p : Sp → Bool) (hs : xs[k]? = some s) (hp : p s = true) : (xs.filter p)[((xs.take k).filter p).length]? = some s := by
  obtain ⟨hlt, e⟩ := List.getElem?_eq_some_iff.1 hs
  have e1 : xs = xs.take k ++ s :: xs.drop (k + 1) := by
    conv => lhs; rw [← List.take_append_drop k xs]
    rw [← List.getElem_cons_drop hlt, e]
  have e2 : xs.filter p = (xs.take k).filter p ++ s :: (xs.drop (k + 1)).filter p := by
    conv => lhs; rw [e1]
    rw [List.filter_append, List.filter_cons, if_pos hp]
  rw [e2, List.getElem?_append_right (Nat.le_refl _), Nat.sub_self]
  rfl
set_option maxRecDepth 100000 in
set_option maxHeartbeats 6400000 in
theorem overlapsOne_calls (lv : Value) (l : List MarkD) (x : Int) (w : World) (hl : SlC 4 markCell w w.heap.size lv l) (hln : ∀ n c, lv = .slice none n c → n = 0 ∧ c = 0) (hx : Int64 x) :
    Calls Try.prog 11 #[lv, .int .i64 x] w fun e w' => e = .returned (.bool true) ∧ Below w.heap.size w w' := by
  obtain ⟨A3, c3, rfl⟩ := hl.form
  have HL := Lib.hid (And.intro hl hln)
  clear hl hln
  obtain ⟨hx1, hx2⟩ := hx
  by_cases b3 : (l.length : Int) ≤ 2147483647
  case neg =>
    go_enter Try.func11, Try.ntmps11
    go_wp2
    go_ret
    exact ⟨rfl, Below.refl _ _⟩
  have HP := Lib.hid (proper_calls w.heap.size _ l w HL.out.1 (by omega))
  by_cases cc : x = 9223372036854775807
  case pos =>
    subst cc
    have w0 : wrap64 9223372036854775808 = -9223372036854775808 := by first | rfl | kernel_rfl
    go_enter Try.func11, Try.ntmps11
    go_wp2_with fail
    refine HP.out.mono ?_
    rintro e w1 ⟨q, rfl, hq, n1, rfl⟩
    cases q <;> (clear hq; go_wp2_with fail; go_ret; exact ⟨rfl, Below.drewN _ _⟩)
  have w1x : IntKind.i64.wrap (x + 1) = x + 1 := IntWalk.i64_in _ (by omega)
  have w2x : (x == x + 1) = false := by rw [beq_eq_false_iff_ne]; omega
  have w3x : ¬ x + 1 < x := by omega
  go_enter Try.func11, Try.ntmps11
  go_wp2_with fail
  refine HP.out.mono ?_
  rintro e w1 ⟨q, rfl, hq, n1, rfl⟩
  cases q
  case false =>
    clear hq
    go_wp2_with fail
    go_ret
    exact ⟨rfl, Below.drewN _ _⟩
  have HPL := Lib.hid (hq rfl)
  clear hq
  have hg := good_run l .nil good_nil
  have hlen := run_list_len l .nil good_nil
  simp only [IT.list, List.length_nil, Nat.zero_add] at hlen
  have ho := over_list x (x + 1) (runI .nil l).1 [] hg.rt hg.ri
  rw [List.nil_append] at ho
  obtain ⟨xs, hxs⟩ : ∃ xs, xs = (runI .nil l).1.list := ⟨_, rfl⟩
  rw [← hxs] at ho hlen
  have d1 : lastD (l ++ [⟨5, 0, 0, 0⟩]) = ⟨⟨0, 0, 0⟩, false, xs, 0⟩ := by rw [last_one, hxs]; rfl
  have d2 : lastD (l ++ [⟨4, x, x + 1, 0⟩]) = ⟨⟨0, 0, 0⟩, false, xs.filter (fun s => meet s x (x + 1)), 0⟩ := by rw [last_one, ← ho]; rfl
  have HD := Lib.hid (And.intro d1 d2)
  have hxl : xs.length ≤ 10000000000 := by omega
  have hfl : (xs.filter (fun s => meet s x (x + 1))).length ≤ 10000000000 := Nat.le_trans (List.length_filter_le _ _) (by omega)
  have HPA := Lib.hid (show PropA ⟨4, x, x + 1, 0⟩ from fun _ => by simp only; omega)
  clear hg ho hxs d1 d2 hlen
  have HW1 := Lib.hid (show Below w.heap.size w (w.drewN n1) from Below.drewN _ _)
  generalize w.drewN n1 = w1 at HW1 ⊢
  have HS1 := Lib.hid (fun (w2 : World) (h : Below w.heap.size w w2) (m : List MarkD) (mv : Value) (hm : SlC 4 markCell w2 w2.heap.size mv m) (hmn : ∀ n c, mv = .slice none n c → n = 0 ∧ c = 0) (hmm : m.length ≤ 3000000000) (h0 : 0 < m.length) (hp : PropL (l ++ m)) => @spanLast_at (.slice A3 l.length c3) mv l m w2 ((HL.out.1.below h).mono h.size) HL.out.2 hm hmn (by omega) hmm h0 hp)
  go_upto_region 5 with (fail)
  go_wp2_with fail
  refine (HS1.out _ (HW1.out.alloc HW1.out.size _) [⟨5, 0, 0, 0⟩] _ (one_mark w1 ⟨5, 0, 0, 0⟩) (fun _ _ h => by cases h) (by simp) (by simp) (prop_one HPL.out (fun h => by simp only at h; omega)) HD.out.1).mono ?_
  rintro e w2 ⟨A4, c4, rfl, s2, b2⟩
  have HB2 := Lib.hid ((HW1.out.alloc HW1.out.size (Obj.cells #[.int .i64 5, .int .i64 0, .int .i64 0, .int .i64 0] 49)).trans (b2.mono (by have := HW1.out.size; simp; omega)))
  have HQ2 := Lib.hid s2
  clear b2 s2
  go_upto_region 6 with (fail)
  have HX2 := Lib.hid (Blk.new w2 #[.int .i64 0, .int .i64 0, .int .i64 0, .bool false, .slice A4 xs.length c4, .int .i64 0] 52)
  have HB2' := Lib.hid (HB2.out.alloc HB2.out.size (Obj.cells #[.int .i64 0, .int .i64 0, .int .i64 0, .bool false, .slice A4 xs.length c4, .int .i64 0] 52))
  have HQ2' := Lib.hid (HQ2.out.keep (KeepsSp.alloc w2 (Obj.cells #[.int .i64 0, .int .i64 0, .int .i64 0, .bool false, .slice A4 xs.length c4, .int .i64 0] 52)))
  generalize w2.alloc (Obj.cells #[.int .i64 0, .int .i64 0, .int .i64 0, .bool false, .slice A4 xs.length c4, .int .i64 0] 52) = w3 at HX2 HB2' HQ2' ⊢
  go_wp2_with fail
  refine (HS1.out _ (HB2'.out.alloc HB2'.out.size _) [⟨4, x, x + 1, 0⟩] _ (one_mark w3 ⟨4, x, x + 1, 0⟩) (fun _ _ h => by cases h) (by simp) (by simp) (prop_one HPL.out HPA.out) HD.out.2).mono ?_
  rintro e w4 ⟨A5, c5, rfl, s4, b4⟩
  have bb : Below w3.heap.size w3 w4 := ((Below.refl _ w3).alloc (Nat.le_refl _) _).trans (b4.mono (by simp))
  have HB4 := Lib.hid (HB2'.out.trans (bb.mono HB2'.out.size))
  have HX4 := Lib.hid (HX2.out.below bb HX2.out.lt)
  have HQ4 := Lib.hid (And.intro (HQ2'.out.keep (KeepsSp.below bb)) s4)
  clear b4 s4 bb HX2 HB2' HQ2' HQ2 HB2
  obtain ⟨ys, hys⟩ : ∃ ys, ys = xs.filter (fun s => meet s x (x + 1)) := ⟨_, rfl⟩
  rw [← hys] at HQ4 hfl ⊢
  have HYS := Lib.hid hys
  clear hys
  go_upto_region 7 with (fail)
  have HX5 := Lib.hid (And.intro (HX4.out.alloc (Obj.cells #[.int .i64 0, .int .i64 0, .int .i64 0, .bool false, .slice A5 ys.length c5, .int .i64 0] 52)) (Blk.new w4 #[.int .i64 0, .int .i64 0, .int .i64 0, .bool false, .slice A5 ys.length c5, .int .i64 0] 52))
  have HB5 := Lib.hid (HB4.out.alloc HB4.out.size (Obj.cells #[.int .i64 0, .int .i64 0, .int .i64 0, .bool false, .slice A5 ys.length c5, .int .i64 0] 52))
  have HQ5 := Lib.hid (And.intro (SpSl.toC (HQ4.out.1.keep (KeepsSp.alloc w4 (Obj.cells #[.int .i64 0, .int .i64 0, .int .i64 0, .bool false, .slice A5 ys.length c5, .int .i64 0] 52)))) (SpSl.toC (HQ4.out.2.keep (KeepsSp.alloc w4 (Obj.cells #[.int .i64 0, .int .i64 0, .int .i64 0, .bool false, .slice A5 ys.length c5, .int .i64 0] 52)))))
  generalize w4.alloc (Obj.cells #[.int .i64 0, .int .i64 0, .int .i64 0, .bool false, .slice A5 ys.length c5, .int .i64 0] 52) = w5 at HX5 HB5 HQ5 ⊢
  have x4 : w5.cell? ⟨w2.heap.size, 4, none⟩ = some (.slice A4 xs.length c4) := HX5.out.1.cell 4
  have y4 : w5.cell? ⟨w4.heap.size, 4, none⟩ = some (.slice A5 ys.length c5) := HX5.out.2.cell 4
  clear w1x w2x w3x HS1 HD HPA HX4 HB4 HQ4
  go_wp2_with fail
  go_loopw [9, 10] (fun kk i wr => ∃ (k j : Nat), j ≤ xs.length ∧ i = .int .i64 (j : Nat) ∧ kk = .int .i64 (k : Nat) ∧ Hid (k = ((xs.take j).filter (fun s => meet s x (x + 1))).length) ∧ Hid (∃ n, wr = w5.drewN n)) (fun _ i _ => xs.length - (intOf i).toNat)
  case atStart => exact ⟨0, 0, Nat.zero_le _, rfl, rfl, rfl, (show ∃ n, w5 = w5.drewN n from ⟨0, rfl⟩)⟩
  case round =>
    obtain ⟨k, j, hj, rfl, rfl, HKJ, HN⟩ := hrel
    obtain ⟨n5, hn5⟩ := HN.out
    subst hn5
    have HN2 := Lib.hid (fun m => (show (∃ n, (w5.drewN n5).drewN m = w5.drewN n) from ⟨n5 + m, World.drewN_drewN _ _ _⟩))
    by_cases hlt : j < xs.length
    · obtain ⟨b1, o1, s, rfl, _, _, _, g1, z1⟩ := HQ5.out.1.at_ hlt
      have q0 : w5.cell? ⟨b1, o1 + j * 3, none⟩ = some (.int .i64 s.lo) := z1 0 _ rfl
      have q1 : w5.cell? ⟨b1, o1 + j * 3 + 1, none⟩ = some (.int .i64 s.hi) := z1 1 _ rfl
      have q2 : w5.cell? ⟨b1, o1 + j * 3 + 2, none⟩ = some (.int .i64 s.v) := z1 2 _ rfl
      have p3 : (0 : Int) ≤ (j : Int) := by omega
      have p4 : (j : Int) < (xs.length : Int) := by omega
      have hft := congrArg List.length (filter_take (fun s => meet s x (x + 1)) g1)
      have hfa := filter_at (fun s => meet s x (x + 1)) g1
      rw [← HKJ.out, ← HYS.out] at hfa
      (try simp only at hft hfa)
      by_cases c1 : x < s.lo
      · have hm : meet s x (x + 1) = false := by unfold meet; rw [decide_eq_false (by omega : ¬ s.lo < x + 1)]; rfl
        rw [hm] at hft
        simp only [Bool.false_eq_true, if_false] at hft
        have HF := Lib.hid hft
        clear z1 g1 hft hfa
        go_wp2_with fail
        exact ⟨⟨k, j + 1, by omega, by go_num, rfl, by rw [HKJ.out]; exact HF.out.symm, HN2.out 0⟩, by simp [intOf]; omega⟩
      · by_cases c2 : s.hi ≤ x
        · have hm : meet s x (x + 1) = false := by unfold meet; rw [decide_eq_false (by omega : ¬ x < s.hi)]; simp
          rw [hm] at hft
          simp only [Bool.false_eq_true, if_false] at hft
          have HF := Lib.hid hft
          clear z1 g1 hft hfa
          go_wp2_with fail
          exact ⟨⟨k, j + 1, by omega, by go_num, rfl, by rw [HKJ.out]; exact HF.out.symm, HN2.out 0⟩, by simp [intOf]; omega⟩
        · have hm : meet s x (x + 1) = true := by unfold meet; rw [decide_eq_true (by omega : s.lo < x + 1), decide_eq_true (by omega : x < s.hi)]; rfl
          rw [hm] at hft
          simp only [if_true, List.length_append, List.length_singleton] at hft
          have hks := hfa hm
          have hkl : k < ys.length := (List.getElem?_eq_some_iff.1 hks).1
          obtain ⟨b2, o2, s', rfl, _, _, _, g2, z2⟩ := HQ5.out.2.at_ hkl
          rw [hks] at g2
          cases g2
          have r0 : w5.cell? ⟨b2, o2 + k * 3, none⟩ = some (.int .i64 s.lo) := z2 0 _ rfl
          have r1 : w5.cell? ⟨b2, o2 + k * 3 + 1, none⟩ = some (.int .i64 s.hi) := z2 1 _ rfl
          have r2 : w5.cell? ⟨b2, o2 + k * 3 + 2, none⟩ = some (.int .i64 s.v) := z2 2 _ rfl
          have p5 : (0 : Int) ≤ (k : Int) := by omega
          have p6 : (k : Int) < (ys.length : Int) := by omega
          have HF := Lib.hid hft
          clear z1 z2 g1 hft hfa hks
          go_wp2_with fail
          go_quiet (fail)
          go_wp2_with fail
          exact ⟨⟨k + 1, j + 1, by omega, by go_num, by go_num, by rw [HKJ.out]; exact HF.out.symm, ⟨_, rfl⟩⟩, by simp [intOf]; omega⟩
    · have hkk : k = ys.length := by rw [HKJ.out, HYS.out, List.take_of_length_le (by omega)]
      subst hkk
      have t0 : ((ys.length : Int) == ys.length) = true := by simp
      go_wp2_with fail
      go_ret
      exact ⟨rfl, HB5.out.trans (Below.drewN _ _)⟩
end Go.Proofs.Ytomclflknjkhfaa
