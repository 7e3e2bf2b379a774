/- laws.FnHeapRuns. -/
import Derived.Test.YtinajjceojfflaaHeapKd
namespace Go.Proofs.Ytinajjceojfflaa
open Go.RowKit HeapP PFnHeapRuns Go.Proofs.YtinajjceojfflaaW.PrintWords
attribute [local go_sem ↓] Go.wp_at_zero Go.wp_at_succ

theorem seen_len (ts : List Int) (how : Int) (first : List Int) (l : List StepD) : (runH ts (heapOfP ts how first) l).2.length = l.length := runH_len _ _ _
set_option maxRecDepth 100000 in
set_option maxHeartbeats 3200000 in
theorem heapRuns_calls (ts : List Int) (tv fv lv : Value) (how : Int) (first : List Int) (l : List StepD) (w : World) (ht : SlR w w.heap.size tv (ts.map i64v)) (hfi : SlI w w.heap.size fv first) (hnone : ∀ m c, fv = .slice none m c → m = 0 ∧ c = 0) (hl : SlC 4 stepCell w w.heap.size lv l) :
    Calls Try.prog 3 #[tv, .int .i64 how, fv, lv] w fun e w' => e = .returned (.bool true) ∧ Below w.heap.size w w' := by
  obtain ⟨A, c, rfl⟩ := ht.form
  obtain ⟨A2, c2, rfl⟩ := hfi.form
  obtain ⟨A3, c3, rfl⟩ := hl.form
  rw [List.length_map] at *
  have HT := Lib.hid ht
  have HF := Lib.hid hfi
  have HL := Lib.hid hl
  have HN := Lib.hid hnone
  clear ht hfi hl hnone
  by_cases b1 : (ts.length : Int) ≤ 2147483647
  case neg =>
    go_enter Try.func3, Try.ntmps3
    go_wp2
    go_ret
    exact ⟨rfl, Below.refl _ _⟩
  by_cases b2 : (first.length : Int) ≤ 2147483647
  case neg =>
    go_enter Try.func3, Try.ntmps3
    go_wp2
    go_ret
    exact ⟨rfl, Below.refl _ _⟩
  by_cases b3 : (l.length : Int) ≤ 2147483647
  case neg =>
    go_enter Try.func3, Try.ntmps3
    go_wp2
    go_ret
    exact ⟨rfl, Below.refl _ _⟩
  obtain ⟨k, hk⟩ := right_f ts first how l (by omega) (by omega) (by omega)
  have HK := Lib.hid hk
  clear hk
  go_enter Try.func3, Try.ntmps3
  go_wp2_with fail
  refine (heapRun_calls ts _ _ _ how first l w HT.out HF.out HN.out HL.out (by omega) (by omega)).mono ?_
  rintro e w1 ⟨v1, rfl, hown, hb⟩
  have hS : SlC 4 seenCell w1 w1.heap.size v1 (runH ts (heapOfP ts how first) l).2 := own_SlC seenCell_len (by rw [seen_len]; exact hown)
  obtain ⟨A4, c4, rfl⟩ := hS.form
  have HS := Lib.hid hS
  have HBl := Lib.hid hb
  clear hS hown hb
  have hr := spec_HeapRight.calls k A c ts A2 c2 first A3 c3 (l.map toS) A4 c4 ((runH ts (heapOfP ts how first) l).2.map toSeen) true w1
    (SlI.kd (HT.out.toI.below HBl.out) (by omega)) (HT.out.toI.le) (SlI.kd (HF.out.below HBl.out) (by omega)) (HF.out.le)
    (by rw [List.length_map]; exact step_kd (HL.out.below HBl.out) (by omega)) (by rw [List.length_map]; exact HL.out.le)
    (by rw [List.length_map]; exact seen_kd HS.out (by rw [seen_len]; omega)) (by rw [List.length_map]; exact HS.out.le) HK.out
  rw [List.length_map, List.length_map] at hr
  have HR := Lib.hid hr
  clear hr
  go_wp2_with fail
  refine HR.out.mono ?_
  rintro e w2 ⟨rfl, hb2⟩
  have HB2 := Lib.hid (HBl.out.trans (hb2.mono HBl.out.size))
  clear hb2 HR
  have one : SlC 4 stepCell (w2.alloc (Obj.cells #[.int .i64 0, .int .i64 0, .int .i64 0, .int .i64 0] 28)) (w2.alloc (Obj.cells #[.int .i64 0, .int .i64 0, .int .i64 0, .int .i64 0] 28)).heap.size (.slice (some ⟨w2.heap.size, 0, none⟩) 1 1) [⟨0, 0, 0, 0⟩] := by
    refine ⟨⟨_, 1, rfl, .inr ⟨w2.heap.size, 0, rfl, by simp, by simp, by simp, fun i a hi j u hj => ?_⟩⟩⟩
    cases i with
    | succ i => simp at hi
    | zero =>
      simp at hi; subst hi
      have := (Blk.new w2 #[.int .i64 0, .int .i64 0, .int .i64 0, .int .i64 0] 28).cell j
      rw [show 0 + 0 * 4 + j = j by omega, this]
      rw [← hj]; simp [stepCell]
  have B3 := HB2.out.alloc HB2.out.size (Obj.cells #[.int .i64 0, .int .i64 0, .int .i64 0, .int .i64 0] 28)
  have HO := Lib.hid one
  have HB3 := Lib.hid B3
  clear one B3
  go_wp2_with fail
  refine (heapRun_calls ts _ _ _ how [] [⟨0, 0, 0, 0⟩] _ ((HT.out.below HB3.out).mono HB3.out.size) (SlC.nil _ _) (fun m c e => by cases e; exact ⟨rfl, rfl⟩) HO.out (by simp) (by simp)).mono ?_
  rintro e w4 ⟨v4, rfl, hown4, hb4⟩
  have s4 : SlC 4 seenCell w4 w4.heap.size v4 (runH ts (heapOfP ts how []) [⟨0, 0, 0, 0⟩]).2 := own_SlC seenCell_len (by rw [seen_len]; exact hown4)
  obtain ⟨A6, c6, e6⟩ := s4.form
  rw [seen_len] at e6
  replace e6 : v4 = .slice A6 1 c6 := e6
  subst e6
  clear s4
  have HB4 := Lib.hid (HB3.out.trans (hb4.mono HB3.out.size))
  clear hown4 hb4
  go_wp2_with fail
  go_ret
  exact ⟨rfl, HB4.out⟩
end Go.Proofs.Ytinajjceojfflaa
