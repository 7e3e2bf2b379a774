/- laws.FnIntervalAdd (printed by wip/gen_ladd.py). -/
import Derived.Test.YtomclflknjkhfaaLOver
namespace Go.Proofs.Ytomclflknjkhfaa
open Go.RowKit ItP

theorem insL_same (x : Sp) : ∀ xs : List Sp, Rises xs → getL x.lo xs ≠ none → insL x false xs = xs
  | [], _, h => by simp [getL] at h
  | y :: ys, hr, h => by
    unfold Rises at hr
    rw [List.pairwise_cons] at hr
    unfold insL
    split
    · rename_i c
      refine absurd (find_none (lo := x.lo) fun z hz => ?_) h
      rcases List.mem_cons.1 hz with rfl | hz
      · omega
      · have := hr.1 z hz; omega
    · split
      · rename_i c1 c2
        rw [insL_same x ys hr.2]
        unfold getL at h ⊢
        rwa [List.find?_cons, show (y.lo == x.lo) = false by rw [beq_eq_false_iff_ne]; omega] at h
      · simp
theorem insL_both (x : Sp) : ∀ xs : List Sp, getL x.lo xs = none → insL x false xs = insL x true xs
  | [], _ => rfl
  | y :: ys, h => by
    unfold insL
    split
    · rfl
    · split
      · rename_i c1 c2
        rw [insL_both x ys]
        unfold getL at h ⊢
        rwa [List.find?_cons, show (y.lo == x.lo) = false by rw [beq_eq_false_iff_ne]; omega] at h
      · rename_i c1 c2
        unfold getL at h
        rw [List.find?_cons, show (y.lo == x.lo) = true by rw [beq_iff_eq]; omega] at h
        cases h
theorem two_marks (w : World) (a b : MarkD) : SlC 4 markCell (w.alloc (Obj.cells #[.int .i64 a.act, .int .i64 a.lo, .int .i64 a.hi, .int .i64 a.val, .int .i64 b.act, .int .i64 b.lo, .int .i64 b.hi, .int .i64 b.val] 49)) (w.alloc (Obj.cells #[.int .i64 a.act, .int .i64 a.lo, .int .i64 a.hi, .int .i64 a.val, .int .i64 b.act, .int .i64 b.lo, .int .i64 b.hi, .int .i64 b.val] 49)).heap.size (.slice (some ⟨w.heap.size, 0, none⟩) 2 2) [a, b] := by
  refine ⟨⟨_, 2, rfl, .inr ⟨w.heap.size, 0, rfl, by simp, by simp, by simp, fun i c hi j u hj => ?_⟩⟩⟩
  have hB := Blk.new w #[.int .i64 a.act, .int .i64 a.lo, .int .i64 a.hi, .int .i64 a.val, .int .i64 b.act, .int .i64 b.lo, .int .i64 b.hi, .int .i64 b.val] 49
  have hjl : j < 4 := by rw [← markCell_len c]; exact (List.getElem?_eq_some_iff.1 hj).1
  rw [hB.cell]
  match i, hi with
  | 0, hi =>
    simp at hi; subst hi
    match j, hj with
    | 0, hj | 1, hj | 2, hj | 3, hj => simpa [markCell] using hj
  | 1, hi =>
    simp at hi; subst hi
    match j, hj with
    | 0, hj | 1, hj | 2, hj | 3, hj => simpa [markCell] using hj
  | i + 2, hi => simp at hi
set_option maxRecDepth 100000 in
set_option maxHeartbeats 12800000 in
theorem intervalAdd_calls (lv : Value) (l : List MarkD) (lo hi vv : Int) (w : World) (hl : SlC 4 markCell w w.heap.size lv l) (hln : ∀ n c, lv = .slice none n c → n = 0 ∧ c = 0) :
    Calls Try.prog 8 #[lv, .agg #[.int .i64 lo, .int .i64 hi, .int .i64 vv]] w fun e w' => e = .returned (.bool true) ∧ Below w.heap.size w w' := by
  obtain ⟨A3, c3, rfl⟩ := hl.form
  have HL := Lib.hid (And.intro hl hln)
  clear hl hln
  have F0 := Lib.hid (Fr.alloc [] w (Obj.cells #[.int .i64 lo, .int .i64 hi, .int .i64 vv] 46))
  have BS := Lib.hid (Blk.new w #[.int .i64 lo, .int .i64 hi, .int .i64 vv] 46)
  by_cases b3 : (l.length : Int) ≤ 2147483647
  case neg =>
    go_enter Try.func8, Try.ntmps8
    go_wp2
    go_ret
    exact ⟨rfl, F0.out.below (by simp) (Nat.le_refl _)⟩
  have HP := Lib.hid (fun w1 (f : Fr [] w w1) => proper_calls w.heap.size _ l w1 (HL.out.1.below (f.below (by simp) (Nat.le_refl _))) (by omega))
  by_cases cc : hi ≤ lo
  case pos =>
    go_enter Try.func8, Try.ntmps8
    go_wp2_with fail
    refine (HP.out _ F0.out).mono ?_
    rintro e w1 ⟨q, rfl, hq, n1, rfl⟩
    cases q <;> (clear hq; go_wp2_with fail; go_ret; exact ⟨rfl, (F0.out.below (by simp) (Nat.le_refl _)).trans (Below.drewN _ _)⟩)
  go_enter Try.func8, Try.ntmps8
  go_wp2_with fail
  refine (HP.out _ F0.out).mono ?_
  rintro e w1 ⟨q, rfl, hq, n1, rfl⟩
  cases q
  case false =>
    clear hq
    go_wp2_with fail
    go_ret
    exact ⟨rfl, (F0.out.below (by simp) (Nat.le_refl _)).trans (Below.drewN _ _)⟩
  have HPL := Lib.hid (hq rfl)
  clear hq
  have hg := good_run l .nil good_nil
  have hlen : (runI .nil l).1.list.length ≤ l.length := by
    have : ∀ (l : List MarkD) (t : IT), t.Good → (runI t l).1.list.length ≤ t.list.length + l.length := by
      intro l
      induction l with
      | nil => intro t _; simp [runI]
      | cons a l ih =>
        intro t ht
        have h1 := ih _ (good_next (a := a) (nb := 0) ht)
        have h2 := next_len (a := a) (nb := 0) ht
        simp only [runI, List.length_cons]; omega
    have := this l .nil good_nil
    simpa [IT.list] using this
  obtain ⟨xs, hxs⟩ : ∃ xs, xs = (runI .nil l).1.list := ⟨_, rfl⟩
  obtain ⟨x, hx⟩ : ∃ x, x = (((runI .nil l).1.get lo).getD zSp).lo := ⟨_, rfl⟩
  obtain ⟨y, hy⟩ : ∃ y, y = (((runI .nil l).1.get lo).getD zSp).hi := ⟨_, rfl⟩
  obtain ⟨z, hz⟩ : ∃ z, z = (((runI .nil l).1.get lo).getD zSp).v := ⟨_, rfl⟩
  obtain ⟨ok, hok⟩ : ∃ ok, ok = ((runI .nil l).1.get lo).isSome := ⟨_, rfl⟩
  obtain ⟨zs, hzs⟩ : ∃ zs, zs = insL ⟨lo, hi, vv⟩ false xs := ⟨_, rfl⟩
  obtain ⟨us, hus⟩ : ∃ us, us = insL ⟨lo, hi, vv⟩ true xs := ⟨_, rfl⟩
  have hgot : gotD ((runI .nil l).1.get lo) = ⟨⟨x, y, z⟩, ok, [], 0⟩ := by rw [hx, hy, hz, hok]; rfl
  have d1 : lastD (l ++ [⟨3, lo, 0, 0⟩]) = ⟨⟨x, y, z⟩, ok, [], 0⟩ := by rw [last_one, ← hgot]; rfl
  have d2 : lastD (l ++ [⟨1, lo, hi, vv⟩]) = ⟨⟨x, y, z⟩, ok, [], 0⟩ := by rw [last_one, ← hgot]; rfl
  have d3 : lastD (l ++ [⟨0, lo, hi, vv⟩]) = ⟨⟨x, y, z⟩, ok, [], 0⟩ := by rw [last_one, ← hgot]; rfl
  have d4 : lastD (l ++ [⟨5, 0, 0, 0⟩]) = ⟨⟨0, 0, 0⟩, false, xs, 0⟩ := by rw [last_one, hxs]; rfl
  have d5 : lastD (l ++ [⟨1, lo, hi, vv⟩, ⟨5, 0, 0, 0⟩]) = ⟨⟨0, 0, 0⟩, false, zs, 0⟩ := by
    rw [last_two, hzs, hxs, ← ins_list _ _ 0 _ hg.ri]; rfl
  have d6 : lastD (l ++ [⟨0, lo, hi, vv⟩, ⟨5, 0, 0, 0⟩]) = ⟨⟨0, 0, 0⟩, false, us, 0⟩ := by
    rw [last_two, hus, hxs, ← ins_list _ _ 0 _ hg.ri]; rfl
  have hri : Rises xs := by rw [hxs]; exact hg.ri
  have hget := get_list lo _ hg.ri
  rw [← hxs] at hget
  have z1 : ok = true → zs = xs := fun h => by
    rw [hzs]; refine insL_same ⟨lo, hi, vv⟩ xs hri (fun e => ?_)
    rw [hok, hget, show getL lo xs = none from e] at h; cases h
  have z2 : ok = false → us = zs := fun h => by
    rw [hzs, hus]; refine (insL_both ⟨lo, hi, vv⟩ xs ?_).symm
    rw [hok, hget] at h
    simpa using h
  have hxl : xs.length ≤ 10000000000 := by rw [hxs]; omega
  have hzl : zs.length ≤ 1000000000000 := by rw [hzs]; have := insL_len ⟨lo, hi, vv⟩ false xs; omega
  have HD := Lib.hid (And.intro d1 (And.intro d2 (And.intro d3 (And.intro d4 (And.intro d5 d6)))))
  have HZ := Lib.hid (And.intro z1 (And.intro z2 (And.intro hxl hzl)))
  have pa : ∀ c : Int, PropA ⟨c, lo, hi, vv⟩ := fun c _ => by simp only; omega
  have p5 : PropA ⟨5, 0, 0, 0⟩ := fun h => by simp only at h; omega
  have p3 : PropA ⟨3, lo, 0, 0⟩ := fun h => by simp only at h; omega
  have HPA := Lib.hid (And.intro pa (And.intro p5 p3))
  clear hg hlen hxs hx hy hz hok hzs hus hgot d1 d2 d3 d4 d5 d6 hri hget z1 z2 hxl hzl pa p5 p3
  have hz1 : ((w.alloc (Obj.cells #[.int .i64 lo, .int .i64 hi, .int .i64 vv] 46)).drewN n1).heap.size = w.heap.size + 1 := by show (w.alloc _).heap.size = _; simp
  have HB1 := Lib.hid ((F0.out.below (by simp) (Nat.le_refl w.heap.size)).trans (Below.drewN _ n1))
  have BS1 := Lib.hid (BS.out.drewN n1)
  go_upto_region 5 with (fail)
  generalize (w.alloc (Obj.cells #[.int .i64 lo, .int .i64 hi, .int .i64 vv] 46)).drewN n1 = w1 at HB1 BS1 hz1 ⊢
  have s0 : w1.cell? ⟨w.heap.size, 0, none⟩ = some (.int .i64 lo) := BS1.out.cell 0
  have s1 : w1.cell? ⟨w.heap.size, 1, none⟩ = some (.int .i64 hi) := BS1.out.cell 1
  have s2 : w1.cell? ⟨w.heap.size, 2, none⟩ = some (.int .i64 vv) := BS1.out.cell 2
  have sl : w.heap.size < w1.heap.size := by omega
  have BM := Lib.hid (Blk.new w1 #[.int .i64 1, .int .i64 lo, .int .i64 hi, .int .i64 vv] 49)
  have BN : Blk ((w1.alloc (Obj.cells #[.int .i64 1, .int .i64 lo, .int .i64 hi, .int .i64 vv] 49)).alloc (Obj.cells #[.int .i64 0, .int .i64 lo, .int .i64 hi, .int .i64 vv] 49)) (w1.heap.size + 1) #[.int .i64 0, .int .i64 lo, .int .i64 hi, .int .i64 vv] 49 := by
    have := Blk.new (w1.alloc (Obj.cells #[.int .i64 1, .int .i64 lo, .int .i64 hi, .int .i64 vv] 49)) #[.int .i64 0, .int .i64 lo, .int .i64 hi, .int .i64 vv] 49
    rwa [show (w1.alloc (Obj.cells #[.int .i64 1, .int .i64 lo, .int .i64 hi, .int .i64 vv] 49)).heap.size = w1.heap.size + 1 by simp] at this
  have HK0 := Lib.hid (And.intro ((BS1.out.alloc (Obj.cells #[.int .i64 1, .int .i64 lo, .int .i64 hi, .int .i64 vv] 49)).alloc (Obj.cells #[.int .i64 0, .int .i64 lo, .int .i64 hi, .int .i64 vv] 49)) (And.intro (BM.out.alloc (Obj.cells #[.int .i64 0, .int .i64 lo, .int .i64 hi, .int .i64 vv] 49)) BN))
  have HB0 := Lib.hid ((HB1.out.alloc HB1.out.size (Obj.cells #[.int .i64 1, .int .i64 lo, .int .i64 hi, .int .i64 vv] 49)).alloc (by have := HB1.out.size; simp; omega) (Obj.cells #[.int .i64 0, .int .i64 lo, .int .i64 hi, .int .i64 vv] 49))
  clear BN
  go_upto_region 8 with (fail)
  generalize (w1.alloc (Obj.cells #[.int .i64 1, .int .i64 lo, .int .i64 hi, .int .i64 vv] 49)).alloc (Obj.cells #[.int .i64 0, .int .i64 lo, .int .i64 hi, .int .i64 vv] 49) = P0 at HK0 HB0 ⊢
  rw [hz1] at HK0
  clear s0 s1 s2 sl BM
  have HS := Lib.hid (fun (w2 : World) (h : Below w.heap.size w w2) (m : List MarkD) (mv : Value) (hm : SlC 4 markCell w2 w2.heap.size mv m) (hmn : ∀ n c, mv = .slice none n c → n = 0 ∧ c = 0) (hmm : m.length ≤ 3000000000) (h0 : 0 < m.length) (hp : PropL (l ++ m)) => @spanLast_at (.slice A3 l.length c3) mv l m w2 ((HL.out.1.below h).mono h.size) HL.out.2 hm hmn (by omega) hmm h0 hp)
  have s0_0 : P0.cell? ⟨w.heap.size, 0, none⟩ = some (.int .i64 lo) := HK0.out.1.cell 0
  have s1_0 : P0.cell? ⟨w.heap.size, 1, none⟩ = some (.int .i64 hi) := HK0.out.1.cell 1
  have s2_0 : P0.cell? ⟨w.heap.size, 2, none⟩ = some (.int .i64 vv) := HK0.out.1.cell 2
  have m0_0 : P0.cell? ⟨w.heap.size + 1, 0, none⟩ = some (.int .i64 1) := HK0.out.2.1.cell 0
  have m1_0 : P0.cell? ⟨w.heap.size + 1, 1, none⟩ = some (.int .i64 lo) := HK0.out.2.1.cell 1
  have m2_0 : P0.cell? ⟨w.heap.size + 1, 2, none⟩ = some (.int .i64 hi) := HK0.out.2.1.cell 2
  have m3_0 : P0.cell? ⟨w.heap.size + 1, 3, none⟩ = some (.int .i64 vv) := HK0.out.2.1.cell 3
  have n0_0 : P0.cell? ⟨w.heap.size + 1 + 1, 0, none⟩ = some (.int .i64 0) := HK0.out.2.2.cell 0
  have n1_0 : P0.cell? ⟨w.heap.size + 1 + 1, 1, none⟩ = some (.int .i64 lo) := HK0.out.2.2.cell 1
  have n2_0 : P0.cell? ⟨w.heap.size + 1 + 1, 2, none⟩ = some (.int .i64 hi) := HK0.out.2.2.cell 2
  have n3_0 : P0.cell? ⟨w.heap.size + 1 + 1, 3, none⟩ = some (.int .i64 vv) := HK0.out.2.2.cell 3
  go_wp2_with fail
  refine (HS.out _ (HB0.out.alloc HB0.out.size _) [⟨3, lo, 0, 0⟩] _ (one_mark P0 ⟨3, lo, 0, 0⟩) (fun _ _ h => by cases h) (by simp) (by simp) (prop_one HPL.out HPA.out.2.2) HD.out.1).mono ?_
  rintro e q0 ⟨A0_, c0_, rfl, sp0, b0⟩
  rw [show ([] : List Sp).length = 0 from rfl]
  have bb0 : Below P0.heap.size P0 q0 := ((Below.refl _ P0).alloc (Nat.le_refl _) (Obj.cells #[.int .i64 3, .int .i64 lo, .int .i64 0, .int .i64 0] 49)).trans (b0.mono (by simp))
  have HB1 := Lib.hid ((HB0.out.trans (bb0.mono HB0.out.size)).alloc (by have h1 := HB0.out.size; have h2 := bb0.size; omega) (Obj.cells #[.int .i64 x, .int .i64 y, .int .i64 z, .bool ok, .slice A0_ 0 c0_, .int .i64 0] 52))
  have HK1 := Lib.hid (And.intro ((HK0.out.1.below bb0 HK0.out.1.lt).alloc (Obj.cells #[.int .i64 x, .int .i64 y, .int .i64 z, .bool ok, .slice A0_ 0 c0_, .int .i64 0] 52)) (And.intro ((HK0.out.2.1.below bb0 HK0.out.2.1.lt).alloc (Obj.cells #[.int .i64 x, .int .i64 y, .int .i64 z, .bool ok, .slice A0_ 0 c0_, .int .i64 0] 52)) ((HK0.out.2.2.below bb0 HK0.out.2.2.lt).alloc (Obj.cells #[.int .i64 x, .int .i64 y, .int .i64 z, .bool ok, .slice A0_ 0 c0_, .int .i64 0] 52))))
  have G0_1 := Lib.hid (Blk.new q0 #[.int .i64 x, .int .i64 y, .int .i64 z, .bool ok, .slice A0_ 0 c0_, .int .i64 0] 52)
  clear s0_0 s1_0 s2_0 m0_0 n0_0 m1_0 n1_0 m2_0 n2_0 m3_0 n3_0 sp0 b0 bb0 HB0 HK0  
  go_upto_region 9 with (fail)
  generalize q0.alloc (Obj.cells #[.int .i64 x, .int .i64 y, .int .i64 z, .bool ok, .slice A0_ 0 c0_, .int .i64 0] 52) = P1 at HB1 HK1 G0_1 ⊢
  have s0_1 : P1.cell? ⟨w.heap.size, 0, none⟩ = some (.int .i64 lo) := HK1.out.1.cell 0
  have s1_1 : P1.cell? ⟨w.heap.size, 1, none⟩ = some (.int .i64 hi) := HK1.out.1.cell 1
  have s2_1 : P1.cell? ⟨w.heap.size, 2, none⟩ = some (.int .i64 vv) := HK1.out.1.cell 2
  have m0_1 : P1.cell? ⟨w.heap.size + 1, 0, none⟩ = some (.int .i64 1) := HK1.out.2.1.cell 0
  have m1_1 : P1.cell? ⟨w.heap.size + 1, 1, none⟩ = some (.int .i64 lo) := HK1.out.2.1.cell 1
  have m2_1 : P1.cell? ⟨w.heap.size + 1, 2, none⟩ = some (.int .i64 hi) := HK1.out.2.1.cell 2
  have m3_1 : P1.cell? ⟨w.heap.size + 1, 3, none⟩ = some (.int .i64 vv) := HK1.out.2.1.cell 3
  have n0_1 : P1.cell? ⟨w.heap.size + 1 + 1, 0, none⟩ = some (.int .i64 0) := HK1.out.2.2.cell 0
  have n1_1 : P1.cell? ⟨w.heap.size + 1 + 1, 1, none⟩ = some (.int .i64 lo) := HK1.out.2.2.cell 1
  have n2_1 : P1.cell? ⟨w.heap.size + 1 + 1, 2, none⟩ = some (.int .i64 hi) := HK1.out.2.2.cell 2
  have n3_1 : P1.cell? ⟨w.heap.size + 1 + 1, 3, none⟩ = some (.int .i64 vv) := HK1.out.2.2.cell 3
  go_wp2_with fail
  refine (HS.out _ (HB1.out.alloc HB1.out.size _) [⟨1, lo, hi, vv⟩] _ (one_mark P1 ⟨1, lo, hi, vv⟩) (fun _ _ h => by cases h) (by simp) (by simp) (prop_one HPL.out (HPA.out.1 1)) HD.out.2.1).mono ?_
  rintro e q1 ⟨A1_, c1_, rfl, sp1, b1⟩
  rw [show ([] : List Sp).length = 0 from rfl]
  have bb1 : Below P1.heap.size P1 q1 := ((Below.refl _ P1).alloc (Nat.le_refl _) (Obj.cells #[.int .i64 1, .int .i64 lo, .int .i64 hi, .int .i64 vv] 49)).trans (b1.mono (by simp))
  have HB2 := Lib.hid ((HB1.out.trans (bb1.mono HB1.out.size)).alloc (by have h1 := HB1.out.size; have h2 := bb1.size; omega) (Obj.cells #[.int .i64 x, .int .i64 y, .int .i64 z, .bool ok, .slice A1_ 0 c1_, .int .i64 0] 52))
  have HK2 := Lib.hid (And.intro ((HK1.out.1.below bb1 HK1.out.1.lt).alloc (Obj.cells #[.int .i64 x, .int .i64 y, .int .i64 z, .bool ok, .slice A1_ 0 c1_, .int .i64 0] 52)) (And.intro ((HK1.out.2.1.below bb1 HK1.out.2.1.lt).alloc (Obj.cells #[.int .i64 x, .int .i64 y, .int .i64 z, .bool ok, .slice A1_ 0 c1_, .int .i64 0] 52)) ((HK1.out.2.2.below bb1 HK1.out.2.2.lt).alloc (Obj.cells #[.int .i64 x, .int .i64 y, .int .i64 z, .bool ok, .slice A1_ 0 c1_, .int .i64 0] 52))))
  have G0_2 := Lib.hid ((G0_1.out.below bb1 G0_1.out.lt).alloc (Obj.cells #[.int .i64 x, .int .i64 y, .int .i64 z, .bool ok, .slice A1_ 0 c1_, .int .i64 0] 52))
  have G1_2 := Lib.hid (Blk.new q1 #[.int .i64 x, .int .i64 y, .int .i64 z, .bool ok, .slice A1_ 0 c1_, .int .i64 0] 52)
  clear s0_1 s1_1 s2_1 m0_1 n0_1 m1_1 n1_1 m2_1 n2_1 m3_1 n3_1 sp1 b1 bb1 HB1 HK1 G0_1 
  go_upto_region 10 with (fail)
  generalize q1.alloc (Obj.cells #[.int .i64 x, .int .i64 y, .int .i64 z, .bool ok, .slice A1_ 0 c1_, .int .i64 0] 52) = P2 at HB2 HK2 G0_2 G1_2 ⊢
  have s0_2 : P2.cell? ⟨w.heap.size, 0, none⟩ = some (.int .i64 lo) := HK2.out.1.cell 0
  have s1_2 : P2.cell? ⟨w.heap.size, 1, none⟩ = some (.int .i64 hi) := HK2.out.1.cell 1
  have s2_2 : P2.cell? ⟨w.heap.size, 2, none⟩ = some (.int .i64 vv) := HK2.out.1.cell 2
  have m0_2 : P2.cell? ⟨w.heap.size + 1, 0, none⟩ = some (.int .i64 1) := HK2.out.2.1.cell 0
  have m1_2 : P2.cell? ⟨w.heap.size + 1, 1, none⟩ = some (.int .i64 lo) := HK2.out.2.1.cell 1
  have m2_2 : P2.cell? ⟨w.heap.size + 1, 2, none⟩ = some (.int .i64 hi) := HK2.out.2.1.cell 2
  have m3_2 : P2.cell? ⟨w.heap.size + 1, 3, none⟩ = some (.int .i64 vv) := HK2.out.2.1.cell 3
  have n0_2 : P2.cell? ⟨w.heap.size + 1 + 1, 0, none⟩ = some (.int .i64 0) := HK2.out.2.2.cell 0
  have n1_2 : P2.cell? ⟨w.heap.size + 1 + 1, 1, none⟩ = some (.int .i64 lo) := HK2.out.2.2.cell 1
  have n2_2 : P2.cell? ⟨w.heap.size + 1 + 1, 2, none⟩ = some (.int .i64 hi) := HK2.out.2.2.cell 2
  have n3_2 : P2.cell? ⟨w.heap.size + 1 + 1, 3, none⟩ = some (.int .i64 vv) := HK2.out.2.2.cell 3
  go_wp2_with fail
  refine (HS.out _ (HB2.out.alloc HB2.out.size _) [⟨0, lo, hi, vv⟩] _ (one_mark P2 ⟨0, lo, hi, vv⟩) (fun _ _ h => by cases h) (by simp) (by simp) (prop_one HPL.out (HPA.out.1 0)) HD.out.2.2.1).mono ?_
  rintro e q2 ⟨A2_, c2_, rfl, sp2, b2⟩
  rw [show ([] : List Sp).length = 0 from rfl]
  have bb2 : Below P2.heap.size P2 q2 := ((Below.refl _ P2).alloc (Nat.le_refl _) (Obj.cells #[.int .i64 0, .int .i64 lo, .int .i64 hi, .int .i64 vv] 49)).trans (b2.mono (by simp))
  have HB3 := Lib.hid ((HB2.out.trans (bb2.mono HB2.out.size)).alloc (by have h1 := HB2.out.size; have h2 := bb2.size; omega) (Obj.cells #[.int .i64 x, .int .i64 y, .int .i64 z, .bool ok, .slice A2_ 0 c2_, .int .i64 0] 52))
  have HK3 := Lib.hid (And.intro ((HK2.out.1.below bb2 HK2.out.1.lt).alloc (Obj.cells #[.int .i64 x, .int .i64 y, .int .i64 z, .bool ok, .slice A2_ 0 c2_, .int .i64 0] 52)) (And.intro ((HK2.out.2.1.below bb2 HK2.out.2.1.lt).alloc (Obj.cells #[.int .i64 x, .int .i64 y, .int .i64 z, .bool ok, .slice A2_ 0 c2_, .int .i64 0] 52)) ((HK2.out.2.2.below bb2 HK2.out.2.2.lt).alloc (Obj.cells #[.int .i64 x, .int .i64 y, .int .i64 z, .bool ok, .slice A2_ 0 c2_, .int .i64 0] 52))))
  have G0_3 := Lib.hid ((G0_2.out.below bb2 G0_2.out.lt).alloc (Obj.cells #[.int .i64 x, .int .i64 y, .int .i64 z, .bool ok, .slice A2_ 0 c2_, .int .i64 0] 52))
  have G1_3 := Lib.hid ((G1_2.out.below bb2 G1_2.out.lt).alloc (Obj.cells #[.int .i64 x, .int .i64 y, .int .i64 z, .bool ok, .slice A2_ 0 c2_, .int .i64 0] 52))
  have G2_3 := Lib.hid (Blk.new q2 #[.int .i64 x, .int .i64 y, .int .i64 z, .bool ok, .slice A2_ 0 c2_, .int .i64 0] 52)
  clear s0_2 s1_2 s2_2 m0_2 n0_2 m1_2 n1_2 m2_2 n2_2 m3_2 n3_2 sp2 b2 bb2 HB2 HK2 G0_2 G1_2 
  go_upto_region 11 with (fail)
  generalize q2.alloc (Obj.cells #[.int .i64 x, .int .i64 y, .int .i64 z, .bool ok, .slice A2_ 0 c2_, .int .i64 0] 52) = P3 at HB3 HK3 G0_3 G1_3 G2_3 ⊢
  have s0_3 : P3.cell? ⟨w.heap.size, 0, none⟩ = some (.int .i64 lo) := HK3.out.1.cell 0
  have s1_3 : P3.cell? ⟨w.heap.size, 1, none⟩ = some (.int .i64 hi) := HK3.out.1.cell 1
  have s2_3 : P3.cell? ⟨w.heap.size, 2, none⟩ = some (.int .i64 vv) := HK3.out.1.cell 2
  have m0_3 : P3.cell? ⟨w.heap.size + 1, 0, none⟩ = some (.int .i64 1) := HK3.out.2.1.cell 0
  have m1_3 : P3.cell? ⟨w.heap.size + 1, 1, none⟩ = some (.int .i64 lo) := HK3.out.2.1.cell 1
  have m2_3 : P3.cell? ⟨w.heap.size + 1, 2, none⟩ = some (.int .i64 hi) := HK3.out.2.1.cell 2
  have m3_3 : P3.cell? ⟨w.heap.size + 1, 3, none⟩ = some (.int .i64 vv) := HK3.out.2.1.cell 3
  have n0_3 : P3.cell? ⟨w.heap.size + 1 + 1, 0, none⟩ = some (.int .i64 0) := HK3.out.2.2.cell 0
  have n1_3 : P3.cell? ⟨w.heap.size + 1 + 1, 1, none⟩ = some (.int .i64 lo) := HK3.out.2.2.cell 1
  have n2_3 : P3.cell? ⟨w.heap.size + 1 + 1, 2, none⟩ = some (.int .i64 hi) := HK3.out.2.2.cell 2
  have n3_3 : P3.cell? ⟨w.heap.size + 1 + 1, 3, none⟩ = some (.int .i64 vv) := HK3.out.2.2.cell 3
  go_wp2_with fail
  refine (HS.out _ (HB3.out.alloc HB3.out.size _) [⟨5, 0, 0, 0⟩] _ (one_mark P3 ⟨5, 0, 0, 0⟩) (fun _ _ h => by cases h) (by simp) (by simp) (prop_one HPL.out HPA.out.2.1) HD.out.2.2.2.1).mono ?_
  rintro e q3 ⟨A3_, c3_, rfl, sp3, b3⟩
  have bb3 : Below P3.heap.size P3 q3 := ((Below.refl _ P3).alloc (Nat.le_refl _) (Obj.cells #[.int .i64 5, .int .i64 0, .int .i64 0, .int .i64 0] 49)).trans (b3.mono (by simp))
  have HB4 := Lib.hid ((HB3.out.trans (bb3.mono HB3.out.size)).alloc (by have h1 := HB3.out.size; have h2 := bb3.size; omega) (Obj.cells #[.int .i64 0, .int .i64 0, .int .i64 0, .bool false, .slice A3_ xs.length c3_, .int .i64 0] 52))
  have HK4 := Lib.hid (And.intro ((HK3.out.1.below bb3 HK3.out.1.lt).alloc (Obj.cells #[.int .i64 0, .int .i64 0, .int .i64 0, .bool false, .slice A3_ xs.length c3_, .int .i64 0] 52)) (And.intro ((HK3.out.2.1.below bb3 HK3.out.2.1.lt).alloc (Obj.cells #[.int .i64 0, .int .i64 0, .int .i64 0, .bool false, .slice A3_ xs.length c3_, .int .i64 0] 52)) ((HK3.out.2.2.below bb3 HK3.out.2.2.lt).alloc (Obj.cells #[.int .i64 0, .int .i64 0, .int .i64 0, .bool false, .slice A3_ xs.length c3_, .int .i64 0] 52))))
  have G0_4 := Lib.hid ((G0_3.out.below bb3 G0_3.out.lt).alloc (Obj.cells #[.int .i64 0, .int .i64 0, .int .i64 0, .bool false, .slice A3_ xs.length c3_, .int .i64 0] 52))
  have G1_4 := Lib.hid ((G1_3.out.below bb3 G1_3.out.lt).alloc (Obj.cells #[.int .i64 0, .int .i64 0, .int .i64 0, .bool false, .slice A3_ xs.length c3_, .int .i64 0] 52))
  have G2_4 := Lib.hid ((G2_3.out.below bb3 G2_3.out.lt).alloc (Obj.cells #[.int .i64 0, .int .i64 0, .int .i64 0, .bool false, .slice A3_ xs.length c3_, .int .i64 0] 52))
  have G3_4 := Lib.hid (Blk.new q3 #[.int .i64 0, .int .i64 0, .int .i64 0, .bool false, .slice A3_ xs.length c3_, .int .i64 0] 52)
  have S3_4 := Lib.hid (sp3.keep (KeepsSp.alloc q3 (Obj.cells #[.int .i64 0, .int .i64 0, .int .i64 0, .bool false, .slice A3_ xs.length c3_, .int .i64 0] 52)))
  clear s0_3 s1_3 s2_3 m0_3 n0_3 m1_3 n1_3 m2_3 n2_3 m3_3 n3_3 sp3 b3 bb3 HB3 HK3 G0_3 G1_3 G2_3 
  go_upto_region 12 with (fail)
  generalize q3.alloc (Obj.cells #[.int .i64 0, .int .i64 0, .int .i64 0, .bool false, .slice A3_ xs.length c3_, .int .i64 0] 52) = P4 at HB4 HK4 G0_4 G1_4 G2_4 G3_4 S3_4 ⊢
  have s0_4 : P4.cell? ⟨w.heap.size, 0, none⟩ = some (.int .i64 lo) := HK4.out.1.cell 0
  have s1_4 : P4.cell? ⟨w.heap.size, 1, none⟩ = some (.int .i64 hi) := HK4.out.1.cell 1
  have s2_4 : P4.cell? ⟨w.heap.size, 2, none⟩ = some (.int .i64 vv) := HK4.out.1.cell 2
  have m0_4 : P4.cell? ⟨w.heap.size + 1, 0, none⟩ = some (.int .i64 1) := HK4.out.2.1.cell 0
  have m1_4 : P4.cell? ⟨w.heap.size + 1, 1, none⟩ = some (.int .i64 lo) := HK4.out.2.1.cell 1
  have m2_4 : P4.cell? ⟨w.heap.size + 1, 2, none⟩ = some (.int .i64 hi) := HK4.out.2.1.cell 2
  have m3_4 : P4.cell? ⟨w.heap.size + 1, 3, none⟩ = some (.int .i64 vv) := HK4.out.2.1.cell 3
  have n0_4 : P4.cell? ⟨w.heap.size + 1 + 1, 0, none⟩ = some (.int .i64 0) := HK4.out.2.2.cell 0
  have n1_4 : P4.cell? ⟨w.heap.size + 1 + 1, 1, none⟩ = some (.int .i64 lo) := HK4.out.2.2.cell 1
  have n2_4 : P4.cell? ⟨w.heap.size + 1 + 1, 2, none⟩ = some (.int .i64 hi) := HK4.out.2.2.cell 2
  have n3_4 : P4.cell? ⟨w.heap.size + 1 + 1, 3, none⟩ = some (.int .i64 vv) := HK4.out.2.2.cell 3
  go_wp2_with fail
  refine (HS.out _ (HB4.out.alloc HB4.out.size _) [⟨1, lo, hi, vv⟩, ⟨5, 0, 0, 0⟩] _ (two_marks P4 ⟨1, lo, hi, vv⟩ ⟨5, 0, 0, 0⟩) (fun _ _ h => by cases h) (by simp) (by simp) (prop_two HPL.out (HPA.out.1 1) HPA.out.2.1) HD.out.2.2.2.2.1).mono ?_
  rintro e q4 ⟨A4_, c4_, rfl, sp4, b4⟩
  have bb4 : Below P4.heap.size P4 q4 := ((Below.refl _ P4).alloc (Nat.le_refl _) (Obj.cells #[.int .i64 1, .int .i64 lo, .int .i64 hi, .int .i64 vv, .int .i64 5, .int .i64 0, .int .i64 0, .int .i64 0] 49)).trans (b4.mono (by simp))
  have HB5 := Lib.hid ((HB4.out.trans (bb4.mono HB4.out.size)).alloc (by have h1 := HB4.out.size; have h2 := bb4.size; omega) (Obj.cells #[.int .i64 0, .int .i64 0, .int .i64 0, .bool false, .slice A4_ zs.length c4_, .int .i64 0] 52))
  have HK5 := Lib.hid (And.intro ((HK4.out.1.below bb4 HK4.out.1.lt).alloc (Obj.cells #[.int .i64 0, .int .i64 0, .int .i64 0, .bool false, .slice A4_ zs.length c4_, .int .i64 0] 52)) (And.intro ((HK4.out.2.1.below bb4 HK4.out.2.1.lt).alloc (Obj.cells #[.int .i64 0, .int .i64 0, .int .i64 0, .bool false, .slice A4_ zs.length c4_, .int .i64 0] 52)) ((HK4.out.2.2.below bb4 HK4.out.2.2.lt).alloc (Obj.cells #[.int .i64 0, .int .i64 0, .int .i64 0, .bool false, .slice A4_ zs.length c4_, .int .i64 0] 52))))
  have G0_5 := Lib.hid ((G0_4.out.below bb4 G0_4.out.lt).alloc (Obj.cells #[.int .i64 0, .int .i64 0, .int .i64 0, .bool false, .slice A4_ zs.length c4_, .int .i64 0] 52))
  have G1_5 := Lib.hid ((G1_4.out.below bb4 G1_4.out.lt).alloc (Obj.cells #[.int .i64 0, .int .i64 0, .int .i64 0, .bool false, .slice A4_ zs.length c4_, .int .i64 0] 52))
  have G2_5 := Lib.hid ((G2_4.out.below bb4 G2_4.out.lt).alloc (Obj.cells #[.int .i64 0, .int .i64 0, .int .i64 0, .bool false, .slice A4_ zs.length c4_, .int .i64 0] 52))
  have G3_5 := Lib.hid ((G3_4.out.below bb4 G3_4.out.lt).alloc (Obj.cells #[.int .i64 0, .int .i64 0, .int .i64 0, .bool false, .slice A4_ zs.length c4_, .int .i64 0] 52))
  have G4_5 := Lib.hid (Blk.new q4 #[.int .i64 0, .int .i64 0, .int .i64 0, .bool false, .slice A4_ zs.length c4_, .int .i64 0] 52)
  have S3_5 := Lib.hid ((S3_4.out.keep (KeepsSp.below bb4)).keep (KeepsSp.alloc q4 (Obj.cells #[.int .i64 0, .int .i64 0, .int .i64 0, .bool false, .slice A4_ zs.length c4_, .int .i64 0] 52)))
  have S4_5 := Lib.hid (sp4.keep (KeepsSp.alloc q4 (Obj.cells #[.int .i64 0, .int .i64 0, .int .i64 0, .bool false, .slice A4_ zs.length c4_, .int .i64 0] 52)))
  clear s0_4 s1_4 s2_4 m0_4 n0_4 m1_4 n1_4 m2_4 n2_4 m3_4 n3_4 sp4 b4 bb4 HB4 HK4 G0_4 G1_4 G2_4 G3_4 S3_4
  go_upto_region 13 with (fail)
  generalize q4.alloc (Obj.cells #[.int .i64 0, .int .i64 0, .int .i64 0, .bool false, .slice A4_ zs.length c4_, .int .i64 0] 52) = P5 at HB5 HK5 G0_5 G1_5 G2_5 G3_5 G4_5 S3_5 S4_5 ⊢
  have s0_5 : P5.cell? ⟨w.heap.size, 0, none⟩ = some (.int .i64 lo) := HK5.out.1.cell 0
  have s1_5 : P5.cell? ⟨w.heap.size, 1, none⟩ = some (.int .i64 hi) := HK5.out.1.cell 1
  have s2_5 : P5.cell? ⟨w.heap.size, 2, none⟩ = some (.int .i64 vv) := HK5.out.1.cell 2
  have m0_5 : P5.cell? ⟨w.heap.size + 1, 0, none⟩ = some (.int .i64 1) := HK5.out.2.1.cell 0
  have m1_5 : P5.cell? ⟨w.heap.size + 1, 1, none⟩ = some (.int .i64 lo) := HK5.out.2.1.cell 1
  have m2_5 : P5.cell? ⟨w.heap.size + 1, 2, none⟩ = some (.int .i64 hi) := HK5.out.2.1.cell 2
  have m3_5 : P5.cell? ⟨w.heap.size + 1, 3, none⟩ = some (.int .i64 vv) := HK5.out.2.1.cell 3
  have n0_5 : P5.cell? ⟨w.heap.size + 1 + 1, 0, none⟩ = some (.int .i64 0) := HK5.out.2.2.cell 0
  have n1_5 : P5.cell? ⟨w.heap.size + 1 + 1, 1, none⟩ = some (.int .i64 lo) := HK5.out.2.2.cell 1
  have n2_5 : P5.cell? ⟨w.heap.size + 1 + 1, 2, none⟩ = some (.int .i64 hi) := HK5.out.2.2.cell 2
  have n3_5 : P5.cell? ⟨w.heap.size + 1 + 1, 3, none⟩ = some (.int .i64 vv) := HK5.out.2.2.cell 3
  go_wp2_with fail
  refine (HS.out _ (HB5.out.alloc HB5.out.size _) [⟨0, lo, hi, vv⟩, ⟨5, 0, 0, 0⟩] _ (two_marks P5 ⟨0, lo, hi, vv⟩ ⟨5, 0, 0, 0⟩) (fun _ _ h => by cases h) (by simp) (by simp) (prop_two HPL.out (HPA.out.1 0) HPA.out.2.1) HD.out.2.2.2.2.2).mono ?_
  rintro e q5 ⟨A5_, c5_, rfl, sp5, b5⟩
  have bb5 : Below P5.heap.size P5 q5 := ((Below.refl _ P5).alloc (Nat.le_refl _) (Obj.cells #[.int .i64 0, .int .i64 lo, .int .i64 hi, .int .i64 vv, .int .i64 5, .int .i64 0, .int .i64 0, .int .i64 0] 49)).trans (b5.mono (by simp))
  have HB6 := Lib.hid ((HB5.out.trans (bb5.mono HB5.out.size)).alloc (by have h1 := HB5.out.size; have h2 := bb5.size; omega) (Obj.cells #[.int .i64 0, .int .i64 0, .int .i64 0, .bool false, .slice A5_ us.length c5_, .int .i64 0] 52))
  have HK6 := Lib.hid (And.intro ((HK5.out.1.below bb5 HK5.out.1.lt).alloc (Obj.cells #[.int .i64 0, .int .i64 0, .int .i64 0, .bool false, .slice A5_ us.length c5_, .int .i64 0] 52)) (And.intro ((HK5.out.2.1.below bb5 HK5.out.2.1.lt).alloc (Obj.cells #[.int .i64 0, .int .i64 0, .int .i64 0, .bool false, .slice A5_ us.length c5_, .int .i64 0] 52)) ((HK5.out.2.2.below bb5 HK5.out.2.2.lt).alloc (Obj.cells #[.int .i64 0, .int .i64 0, .int .i64 0, .bool false, .slice A5_ us.length c5_, .int .i64 0] 52))))
  have G0_6 := Lib.hid ((G0_5.out.below bb5 G0_5.out.lt).alloc (Obj.cells #[.int .i64 0, .int .i64 0, .int .i64 0, .bool false, .slice A5_ us.length c5_, .int .i64 0] 52))
  have G1_6 := Lib.hid ((G1_5.out.below bb5 G1_5.out.lt).alloc (Obj.cells #[.int .i64 0, .int .i64 0, .int .i64 0, .bool false, .slice A5_ us.length c5_, .int .i64 0] 52))
  have G2_6 := Lib.hid ((G2_5.out.below bb5 G2_5.out.lt).alloc (Obj.cells #[.int .i64 0, .int .i64 0, .int .i64 0, .bool false, .slice A5_ us.length c5_, .int .i64 0] 52))
  have G3_6 := Lib.hid ((G3_5.out.below bb5 G3_5.out.lt).alloc (Obj.cells #[.int .i64 0, .int .i64 0, .int .i64 0, .bool false, .slice A5_ us.length c5_, .int .i64 0] 52))
  have G4_6 := Lib.hid ((G4_5.out.below bb5 G4_5.out.lt).alloc (Obj.cells #[.int .i64 0, .int .i64 0, .int .i64 0, .bool false, .slice A5_ us.length c5_, .int .i64 0] 52))
  have G5_6 := Lib.hid (Blk.new q5 #[.int .i64 0, .int .i64 0, .int .i64 0, .bool false, .slice A5_ us.length c5_, .int .i64 0] 52)
  have S3_6 := Lib.hid ((S3_5.out.keep (KeepsSp.below bb5)).keep (KeepsSp.alloc q5 (Obj.cells #[.int .i64 0, .int .i64 0, .int .i64 0, .bool false, .slice A5_ us.length c5_, .int .i64 0] 52)))
  have S4_6 := Lib.hid ((S4_5.out.keep (KeepsSp.below bb5)).keep (KeepsSp.alloc q5 (Obj.cells #[.int .i64 0, .int .i64 0, .int .i64 0, .bool false, .slice A5_ us.length c5_, .int .i64 0] 52)))
  have S5_6 := Lib.hid (sp5.keep (KeepsSp.alloc q5 (Obj.cells #[.int .i64 0, .int .i64 0, .int .i64 0, .bool false, .slice A5_ us.length c5_, .int .i64 0] 52)))
  clear s0_5 s1_5 s2_5 m0_5 n0_5 m1_5 n1_5 m2_5 n2_5 m3_5 n3_5 sp5 b5 bb5 HB5 HK5 G0_5 G1_5 G2_5 G3_5 G4_5 S3_5 S4_5
  go_upto_region 14 with (fail)
  generalize q5.alloc (Obj.cells #[.int .i64 0, .int .i64 0, .int .i64 0, .bool false, .slice A5_ us.length c5_, .int .i64 0] 52) = P6 at HB6 HK6 G0_6 G1_6 G2_6 G3_6 G4_6 G5_6 S3_6 S4_6 S5_6 ⊢
  have g0_0 : P6.cell? ⟨q0.heap.size, 0, none⟩ = some (.int .i64 x) := G0_6.out.cell 0
  have g0_1 : P6.cell? ⟨q0.heap.size, 1, none⟩ = some (.int .i64 y) := G0_6.out.cell 1
  have g0_2 : P6.cell? ⟨q0.heap.size, 2, none⟩ = some (.int .i64 z) := G0_6.out.cell 2
  have g0_3 : P6.cell? ⟨q0.heap.size, 3, none⟩ = some (.bool ok) := G0_6.out.cell 3
  have g1_0 : P6.cell? ⟨q1.heap.size, 0, none⟩ = some (.int .i64 x) := G1_6.out.cell 0
  have g1_1 : P6.cell? ⟨q1.heap.size, 1, none⟩ = some (.int .i64 y) := G1_6.out.cell 1
  have g1_2 : P6.cell? ⟨q1.heap.size, 2, none⟩ = some (.int .i64 z) := G1_6.out.cell 2
  have g1_3 : P6.cell? ⟨q1.heap.size, 3, none⟩ = some (.bool ok) := G1_6.out.cell 3
  have g2_0 : P6.cell? ⟨q2.heap.size, 0, none⟩ = some (.int .i64 x) := G2_6.out.cell 0
  have g2_1 : P6.cell? ⟨q2.heap.size, 1, none⟩ = some (.int .i64 y) := G2_6.out.cell 1
  have g2_2 : P6.cell? ⟨q2.heap.size, 2, none⟩ = some (.int .i64 z) := G2_6.out.cell 2
  have g2_3 : P6.cell? ⟨q2.heap.size, 3, none⟩ = some (.bool ok) := G2_6.out.cell 3
  have g3_4 : P6.cell? ⟨q3.heap.size, 4, none⟩ = some (.slice A3_ xs.length c3_) := G3_6.out.cell 4
  have g4_4 : P6.cell? ⟨q4.heap.size, 4, none⟩ = some (.slice A4_ zs.length c4_) := G4_6.out.cell 4
  have g5_4 : P6.cell? ⟨q5.heap.size, 4, none⟩ = some (.slice A5_ us.length c5_) := G5_6.out.cell 4
  cases ok with
  | true =>
    have e1 : zs = xs := HZ.out.1 rfl
    subst e1
    go_wp2_with fail
    refine (sameSpans_calls _ _ _ _ zs _ (SpSl.toC S3_6.out) (SpSl.toC S4_6.out) HZ.out.2.2.2).mono ?_
    rintro e w7 ⟨rfl, n7, rfl⟩
    go_wp2_with fail
    go_ret
    exact ⟨rfl, HB6.out.trans (Below.drewN _ _)⟩
  | false =>
    have e1 : us = zs := HZ.out.2.1 rfl
    subst e1
    go_wp2_with fail
    refine (sameSpans_calls _ _ _ _ us _ (SpSl.toC S4_6.out) (SpSl.toC S5_6.out) HZ.out.2.2.2).mono ?_
    rintro e w7 ⟨rfl, n7, rfl⟩
    go_wp2_with fail
    go_ret
    exact ⟨rfl, HB6.out.trans (Below.drewN _ _)⟩
end Go.Proofs.Ytomclflknjkhfaa
