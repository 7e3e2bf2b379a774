/- laws.FnOverlapsMean. -/
import Derived.Test.YtomclflknjkhfaaLOver
namespace Go.Proofs.Ytomclflknjkhfaa
open Go.RowKit ItP

set_option maxRecDepth 100000 in
set_option maxHeartbeats 100000000 in
theorem overlapsMean_calls (lv : Value) (l : List MarkD) (lo hi : Int) (w : World) (hl : SlC 4 markCell w w.heap.size lv l) (hln : ∀ n c, lv = .slice none n c → n = 0 ∧ c = 0) :
    Calls Try.prog 10 #[lv, .int .i64 lo, .int .i64 hi] w fun e w' => e = .returned (.bool true) ∧ Below w.heap.size w w' := by
  obtain ⟨A3, c3, rfl⟩ := hl.form
  have HL := Lib.hid (And.intro hl hln)
  clear hl hln
  by_cases b3 : (l.length : Int) ≤ 2147483647
  case neg =>
    go_enter Try.func10, Try.ntmps10
    go_wp2
    go_ret
    exact ⟨rfl, Below.refl _ _⟩
  have HP := Lib.hid (proper_calls w.heap.size _ l w HL.out.1 (by omega))
  by_cases cc : hi ≤ lo
  case pos =>
    go_enter Try.func10, Try.ntmps10
    go_wp2_with fail
    refine HP.out.mono ?_
    rintro e w1 ⟨q, rfl, hq, n1, rfl⟩
    cases q <;> (clear hq; go_wp2_with fail; go_ret; exact ⟨rfl, Below.drewN _ _⟩)
  go_enter Try.func10, Try.ntmps10
  go_wp2_with fail
  refine HP.out.mono ?_
  rintro e w1 ⟨q, rfl, hq, n1, rfl⟩
  cases q
  case false =>
    clear hq
    go_wp2_with fail
    go_ret
    exact ⟨rfl, Below.drewN _ _⟩
  have HPL := Lib.hid (hq rfl)
  clear hq
  have hg := good_run l .nil good_nil
  have hlen : (runI .nil l).1.list.length ≤ l.length := by
    have : ∀ (l : List MarkD) (t : IT), t.Good → (runI t l).1.list.length ≤ t.list.length + l.length := by
      intro l
      induction l with
      | nil => intro t _; simp [runI]
      | cons a l ih =>
        intro t ht
        have h1 := ih _ (good_next (a := a) (nb := 0) ht)
        have h2 := next_len (a := a) (nb := 0) ht
        simp only [runI, List.length_cons]; omega
    have := this l .nil good_nil
    simpa [IT.list] using this
  have ho := over_list lo hi (runI .nil l).1 [] hg.rt hg.ri
  rw [List.nil_append] at ho
  obtain ⟨xs, hxs⟩ : ∃ xs, xs = (runI .nil l).1.list := ⟨_, rfl⟩
  rw [← hxs] at ho hlen
  have d1 : lastD (l ++ [⟨5, 0, 0, 0⟩]) = ⟨⟨0, 0, 0⟩, false, xs, 0⟩ := by rw [last_one, hxs]; rfl
  have d2 : lastD (l ++ [⟨4, lo, hi, 0⟩]) = ⟨⟨0, 0, 0⟩, false, xs.filter (fun s => meet s lo hi), 0⟩ := by rw [last_one, ← ho]; rfl
  have HD := Lib.hid (And.intro d1 d2)
  have hxl : xs.length ≤ 10000000000 := by omega
  have hfl : (xs.filter (fun s => meet s lo hi)).length ≤ 1000000000000 := Nat.le_trans (List.length_filter_le _ _) (by omega)
  have HPA := Lib.hid (show PropA ⟨4, lo, hi, 0⟩ from fun _ => by simp only; omega)
  have HXS := Lib.hid (And.intro hxl hfl)
  clear hg ho hxs d1 d2 hlen hxl hfl
  have HW1 := Lib.hid (show Below w.heap.size w (w.drewN n1) from Below.drewN _ _)
  generalize w.drewN n1 = w1 at HW1 ⊢
  have HS1 := Lib.hid (fun (w2 : World) (h : Below w.heap.size w w2) (m : List MarkD) (mv : Value) (hm : SlC 4 markCell w2 w2.heap.size mv m) (hmn : ∀ n c, mv = .slice none n c → n = 0 ∧ c = 0) (hmm : m.length ≤ 3000000000) (h0 : 0 < m.length) (hp : PropL (l ++ m)) => @spanLast_at (.slice A3 l.length c3) mv l m w2 ((HL.out.1.below h).mono h.size) HL.out.2 hm hmn (by omega) hmm h0 hp)
  go_upto_region 5 with (fail)
  go_wp2_with fail
  refine (HS1.out _ (HW1.out.alloc HW1.out.size _) [⟨5, 0, 0, 0⟩] _ (one_mark w1 ⟨5, 0, 0, 0⟩) (fun _ _ h => by cases h) (by simp) (by simp) (prop_one HPL.out (fun h => by simp only at h; omega)) HD.out.1).mono ?_
  rintro e w2 ⟨A4, c4, rfl, s2, b2⟩
  have HB2 := Lib.hid ((HW1.out.alloc HW1.out.size (Obj.cells #[.int .i64 5, .int .i64 0, .int .i64 0, .int .i64 0] 49)).trans (b2.mono (by have := HW1.out.size; simp; omega)))
  have HQ2 := Lib.hid s2
  clear b2 s2
  go_upto_region 6 with (fail)
  have HX2 := Lib.hid (Blk.new w2 #[.int .i64 0, .int .i64 0, .int .i64 0, .bool false, .slice A4 xs.length c4, .int .i64 0] 52)
  have HB2' := Lib.hid (HB2.out.alloc HB2.out.size (Obj.cells #[.int .i64 0, .int .i64 0, .int .i64 0, .bool false, .slice A4 xs.length c4, .int .i64 0] 52))
  have HQ2' := Lib.hid (HQ2.out.keep (KeepsSp.alloc w2 (Obj.cells #[.int .i64 0, .int .i64 0, .int .i64 0, .bool false, .slice A4 xs.length c4, .int .i64 0] 52)))
  generalize w2.alloc (Obj.cells #[.int .i64 0, .int .i64 0, .int .i64 0, .bool false, .slice A4 xs.length c4, .int .i64 0] 52) = w3 at HX2 HB2' HQ2' ⊢
  go_wp2_with fail
  refine (HS1.out _ (HB2'.out.alloc HB2'.out.size _) [⟨4, lo, hi, 0⟩] _ (one_mark w3 ⟨4, lo, hi, 0⟩) (fun _ _ h => by cases h) (by simp) (by simp) (prop_one HPL.out HPA.out) HD.out.2).mono ?_
  rintro e w4 ⟨A5, c5, rfl, s4, b4⟩
  have bb : Below w3.heap.size w3 w4 := ((Below.refl _ w3).alloc (Nat.le_refl _) _).trans (b4.mono (by simp))
  have HB4 := Lib.hid (HB2'.out.trans (bb.mono HB2'.out.size))
  have HX4 := Lib.hid (HX2.out.below bb HX2.out.lt)
  have HQ4 := Lib.hid (And.intro (HQ2'.out.keep (KeepsSp.below bb)) s4)
  clear b4 s4 bb HX2 HB2' HQ2' HQ2 HB2
  obtain ⟨ys, hys⟩ : ∃ ys, ys = xs.filter (fun s => meet s lo hi) := ⟨_, rfl⟩
  rw [← hys] at HQ4 HXS ⊢
  have HYS := Lib.hid hys
  clear hys
  go_upto_region 7 with (fail)
  have HX5 := Lib.hid (And.intro (HX4.out.alloc (Obj.cells #[.int .i64 0, .int .i64 0, .int .i64 0, .bool false, .slice A5 ys.length c5, .int .i64 0] 52)) (Blk.new w4 #[.int .i64 0, .int .i64 0, .int .i64 0, .bool false, .slice A5 ys.length c5, .int .i64 0] 52))
  have HB5 := Lib.hid (HB4.out.alloc HB4.out.size (Obj.cells #[.int .i64 0, .int .i64 0, .int .i64 0, .bool false, .slice A5 ys.length c5, .int .i64 0] 52))
  have HQ5 := Lib.hid (And.intro (HQ4.out.1.keep (KeepsSp.alloc w4 (Obj.cells #[.int .i64 0, .int .i64 0, .int .i64 0, .bool false, .slice A5 ys.length c5, .int .i64 0] 52))) (HQ4.out.2.keep (KeepsSp.alloc w4 (Obj.cells #[.int .i64 0, .int .i64 0, .int .i64 0, .bool false, .slice A5 ys.length c5, .int .i64 0] 52))))
  generalize w4.alloc (Obj.cells #[.int .i64 0, .int .i64 0, .int .i64 0, .bool false, .slice A5 ys.length c5, .int .i64 0] 52) = w5 at HX5 HB5 HQ5 ⊢
  have x4 : w5.cell? ⟨w2.heap.size, 4, none⟩ = some (.slice A4 xs.length c4) := HX5.out.1.cell 4
  have y4 : w5.cell? ⟨w4.heap.size, 4, none⟩ = some (.slice A5 ys.length c5) := HX5.out.2.cell 4
  clear HS1 HD HPA HX4 HB4 HQ4 HPL HP HL HW1 cc b3
  go_region_with (first
    | (go_at_call 30; refine (specOver_calls _ xs lo hi _ (by exact (SpSl.toC (HQ5.out.1.keep (KeepsSp.fr (Fr.drewN [] _ 1) (by simp))))) HXS.out.1).mono ?_; rintro e w6 ⟨v6, rfl, ho6, hb6⟩; rw [← HYS.out] at ho6; obtain ⟨A6, c6, rfl⟩ := own_form ho6; have hb6' : Below w5.heap.size w5 w6 := (Below.drewN w5 1).trans hb6; have x46 : w6.cell? ⟨w2.heap.size, 4, none⟩ = some (.slice A4 xs.length c4) := (hb6'.cell (p := ⟨w2.heap.size, 4, none⟩) HX5.out.1.lt).trans x4; have y46 : w6.cell? ⟨w4.heap.size, 4, none⟩ = some (.slice A5 ys.length c5) := (hb6'.cell (p := ⟨w4.heap.size, 4, none⟩) HX5.out.2.lt).trans y4; have H6 := Lib.hid (And.intro (own_SlC spC_len ho6) (And.intro (HQ5.out.2.keep (KeepsSp.below hb6')) hb6')); clear ho6 hb6 hb6')
    | (go_at_call 27; refine (sameSpans_calls _ _ _ _ ys _ (SpSl.toC H6.out.2.1) H6.out.1 (by exact HXS.out.2)).mono ?_; rintro e w7 ⟨rfl, n7, rfl⟩))
  all_goals
    go_wp2_with fail
    go_ret
    exact ⟨rfl, (HB5.out.trans (H6.out.2.2.mono HB5.out.size)).trans (Below.drewN _ _)⟩
end Go.Proofs.Ytomclflknjkhfaa
