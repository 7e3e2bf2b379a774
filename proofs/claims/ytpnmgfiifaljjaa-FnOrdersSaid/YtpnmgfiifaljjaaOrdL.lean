/- FnOrders: the walks of the thin package's functions and of the law. -/
import Derived.Test.YtpnmgfiifaljjaaOrds
import Derived.Test.YtpnmgfiifaljjaaLess
namespace Go.Proofs.Ytpnmgfiifaljjaa
open Go.RowKit

set_option maxHeartbeats 400000 in
theorem implMaxF_calls (xs : List Int) (ov : Value) (a b : Int) (w : World) (ho : SlR w w.heap.size ov (xs.map i64v)) :
    Calls Try.prog 22 #[ov, .int .i64 a, .int .i64 b] w fun e w' => e = .returned (.int .i64 (maxF xs a b)) ∧ Below w.heap.size w w' := by
  obtain ⟨A, c, rfl⟩ := ho.form
  rw [List.length_map] at *
  have HO := Lib.hid ho
  clear ho
  go_enter Try.func22, Try.ntmps22
  go_wp2_with fail
  refine (lessMake_calls xs _ w HO.out).mono ?_
  rintro e w1 ⟨f, rfl, hf, hb1⟩
  obtain ⟨g, fi, ca, rfl⟩ := hf.fn
  have HF := Lib.hid hf
  clear hf
  go_wp2_with fail
  refine (gmaxF_calls xs _ _ _ _ w1 HF.out).mono ?_
  rintro e w2 ⟨rfl, n, rfl⟩
  go_wp2
  go_ret
  exact ⟨rfl, hb1.trans (Below.drewN _ _)⟩
set_option maxHeartbeats 400000 in
theorem implMinF_calls (xs : List Int) (ov : Value) (a b : Int) (w : World) (ho : SlR w w.heap.size ov (xs.map i64v)) :
    Calls Try.prog 23 #[ov, .int .i64 a, .int .i64 b] w fun e w' => e = .returned (.int .i64 (minF xs a b)) ∧ Below w.heap.size w w' := by
  obtain ⟨A, c, rfl⟩ := ho.form
  rw [List.length_map] at *
  have HO := Lib.hid ho
  clear ho
  go_enter Try.func23, Try.ntmps23
  go_wp2_with fail
  refine (lessMake_calls xs _ w HO.out).mono ?_
  rintro e w1 ⟨f, rfl, hf, hb1⟩
  obtain ⟨g, fi, ca, rfl⟩ := hf.fn
  have HF := Lib.hid hf
  clear hf
  go_wp2_with fail
  refine (gminF_calls xs _ _ _ _ w1 HF.out).mono ?_
  rintro e w2 ⟨rfl, n, rfl⟩
  go_wp2
  go_ret
  exact ⟨rfl, hb1.trans (Below.drewN _ _)⟩
set_option maxHeartbeats 400000 in
theorem implCmp_calls (xs : List Int) (ov : Value) (a b : Int) (w : World) (ho : SlR w w.heap.size ov (xs.map i64v)) :
    Calls Try.prog 24 #[ov, .int .i64 a, .int .i64 b] w fun e w' => e = .returned (.int .i64 (cmpOf xs a b)) ∧ Below w.heap.size w w' := by
  obtain ⟨A, c, rfl⟩ := ho.form
  rw [List.length_map] at *
  have HO := Lib.hid ho
  clear ho
  go_enter Try.func24, Try.ntmps24
  go_wp2_with fail
  refine (lessMake_calls xs _ w HO.out).mono ?_
  rintro e w1 ⟨f, rfl, hf, hb1⟩
  obtain ⟨g, fi, ca, rfl⟩ := hf.fn
  have HF := Lib.hid hf
  clear hf
  go_wp2_with fail
  refine (compare_calls xs _ _ _ _ w1 HF.out).mono ?_
  rintro e w2 ⟨rfl, n, rfl⟩
  go_wp2
  go_ret
  exact ⟨rfl, hb1.trans (Below.drewN _ _)⟩
set_option maxHeartbeats 400000 in
theorem implClampF_calls (xs : List Int) (ov : Value) (x lo hi : Int) (w : World) (ho : SlR w w.heap.size ov (xs.map i64v)) :
    Calls Try.prog 26 #[ov, .int .i64 x, .int .i64 lo, .int .i64 hi] w fun e w' => e = .returned (.int .i64 (maxF xs lo (minF xs hi x))) ∧ Below w.heap.size w w' := by
  obtain ⟨A, c, rfl⟩ := ho.form
  rw [List.length_map] at *
  have HO := Lib.hid ho
  clear ho
  go_enter Try.func26, Try.ntmps26
  go_wp2_with fail
  refine (lessMake_calls xs _ w HO.out).mono ?_
  rintro e w1 ⟨f, rfl, hf, hb1⟩
  obtain ⟨g, fi, ca, rfl⟩ := hf.fn
  have HF := Lib.hid hf
  clear hf
  go_wp2_with fail
  refine (gclampF_calls xs _ _ _ _ _ w1 HF.out).mono ?_
  rintro e w2 ⟨rfl, n, rfl⟩
  go_wp2
  go_ret
  exact ⟨rfl, hb1.trans (Below.drewN _ _)⟩
theorem id_calls (k : Int) (w : World) :
    Calls Try.prog 28 #[.int .i64 k] w fun e w' => e = .returned (.int .i64 k) ∧ ∃ n, w' = w.drewN n := by
  go_enter Try.func28, Try.ntmps28
  go_wp2
  go_ret
  exact ⟨rfl, 0, rfl⟩
def heldROf (xs : List Int) (x a b : Int) : Int := if rankOf xs x < rankOf xs a then a else if rankOf xs b < rankOf xs x then b else x
set_option maxHeartbeats 1000000 in
theorem heldR_calls (xs : List Int) (tb : Nat) (tv : Value) (B : Nat) (xb ab bb : Nat) (x a b : Int) (w : World) (h1 : w.cell? ⟨xb, 0, none⟩ = some (.int .i64 x)) (h2 : w.cell? ⟨ab, 0, none⟩ = some (.int .i64 a)) (h0 : w.cell? ⟨tb, 0, none⟩ = some tv) (ht : SlR w B tv (xs.map i64v)) (h3 : w.cell? ⟨bb, 0, none⟩ = some (.int .i64 b)) :
    Calls Try.prog 25 #[.func (.func 20) #[] #[.pointer (some ⟨tb, 0, none⟩)], .pointer (some ⟨xb, 0, none⟩), .pointer (some ⟨ab, 0, none⟩), .pointer (some ⟨bb, 0, none⟩)] w fun e w' => e = .returned (.int .i64 (heldROf xs x a b)) ∧ ∃ n, w' = w.drewN n := by
  by_cases c1 : rankOf xs x < rankOf xs a
  · have H := Lib.hid (show heldROf xs x a b = a from if_pos c1)
    have d1 : decide (rankOf xs x < rankOf xs a) = true := decide_eq_true c1
    clear c1
    go_enter Try.func25, Try.ntmps25
    go_wp2_with fail
    go_quiet ((go_at_call 20; exact Calls.quiet_of (rankFn_calls xs tb tv B _ _ (by exact h0) (by exact ht.drewN _))))
    go_wp2
    go_ret
    exact ⟨ret_int H.out.symm, _, rfl⟩
  · by_cases c2 : rankOf xs b < rankOf xs x
    · have H := Lib.hid (show heldROf xs x a b = b from (if_neg c1).trans (if_pos c2))
      have d1 : decide (rankOf xs x < rankOf xs a) = false := decide_eq_false c1
      have d2 : decide (rankOf xs b < rankOf xs x) = true := decide_eq_true c2
      clear c1 c2
      go_enter Try.func25, Try.ntmps25
      go_wp2_with fail
      go_quiet ((go_at_call 20; exact Calls.quiet_of (rankFn_calls xs tb tv B _ _ (by exact h0) (by exact ht.drewN _))))
      have ht := ht.drewN nq
      replace h0 : (w.drewN nq).cell? ⟨tb, 0, none⟩ = _ := h0
      replace h1 : (w.drewN nq).cell? ⟨xb, 0, none⟩ = _ := h1
      replace h2 : (w.drewN nq).cell? ⟨ab, 0, none⟩ = _ := h2
      replace h3 : (w.drewN nq).cell? ⟨bb, 0, none⟩ = _ := h3
      have Hw : ∀ n, ∃ m, (w.drewN nq).drewN n = w.drewN m := fun _ => ⟨_, World.drewN_drewN _ _ _⟩
      generalize w.drewN nq = w2 at *
      go_wp2_with fail
      go_quiet ((go_at_call 20; exact Calls.quiet_of (rankFn_calls xs tb tv B _ _ (by exact h0) (by exact ht.drewN _))))
      go_wp2
      go_ret
      exact ⟨ret_int H.out.symm, Hw _⟩
    · have H := Lib.hid (show heldROf xs x a b = x from (if_neg c1).trans (if_neg c2))
      have d1 : decide (rankOf xs x < rankOf xs a) = false := decide_eq_false c1
      have d2 : decide (rankOf xs b < rankOf xs x) = false := decide_eq_false c2
      clear c1 c2
      go_enter Try.func25, Try.ntmps25
      go_wp2_with fail
      go_quiet ((go_at_call 20; exact Calls.quiet_of (rankFn_calls xs tb tv B _ _ (by exact h0) (by exact ht.drewN _))))
      have ht := ht.drewN nq
      replace h0 : (w.drewN nq).cell? ⟨tb, 0, none⟩ = _ := h0
      replace h1 : (w.drewN nq).cell? ⟨xb, 0, none⟩ = _ := h1
      replace h2 : (w.drewN nq).cell? ⟨ab, 0, none⟩ = _ := h2
      replace h3 : (w.drewN nq).cell? ⟨bb, 0, none⟩ = _ := h3
      have Hw : ∀ n, ∃ m, (w.drewN nq).drewN n = w.drewN m := fun _ => ⟨_, World.drewN_drewN _ _ _⟩
      generalize w.drewN nq = w2 at *
      go_wp2_with fail
      go_quiet ((go_at_call 20; exact Calls.quiet_of (rankFn_calls xs tb tv B _ _ (by exact h0) (by exact ht.drewN _))))
      go_wp2
      go_ret
      exact ⟨ret_int H.out.symm, Hw _⟩
def heldIOf (_xs : List Int) (x a b : Int) : Int := if x < a then a else if b < x then b else x
set_option maxHeartbeats 1000000 in
theorem heldI_calls (xs : List Int) (xb ab bb : Nat) (x a b : Int) (w : World) (h1 : w.cell? ⟨xb, 0, none⟩ = some (.int .i64 x)) (h2 : w.cell? ⟨ab, 0, none⟩ = some (.int .i64 a)) (h3 : w.cell? ⟨bb, 0, none⟩ = some (.int .i64 b)) :
    Calls Try.prog 25 #[.func (.func 28) #[] #[], .pointer (some ⟨xb, 0, none⟩), .pointer (some ⟨ab, 0, none⟩), .pointer (some ⟨bb, 0, none⟩)] w fun e w' => e = .returned (.int .i64 (heldIOf xs x a b)) ∧ ∃ n, w' = w.drewN n := by
  by_cases c1 : x < a
  · have H := Lib.hid (show heldIOf xs x a b = a from if_pos c1)
    have d1 : decide (x < a) = true := decide_eq_true c1
    clear c1
    go_enter Try.func25, Try.ntmps25
    go_wp2_with fail
    go_quiet ((go_at_call 28; exact Calls.quiet_of (id_calls _ _)))
    go_wp2
    go_ret
    exact ⟨ret_int H.out.symm, _, rfl⟩
  · by_cases c2 : b < x
    · have H := Lib.hid (show heldIOf xs x a b = b from (if_neg c1).trans (if_pos c2))
      have d1 : decide (x < a) = false := decide_eq_false c1
      have d2 : decide (b < x) = true := decide_eq_true c2
      clear c1 c2
      go_enter Try.func25, Try.ntmps25
      go_wp2_with fail
      go_quiet ((go_at_call 28; exact Calls.quiet_of (id_calls _ _)))
      replace h1 : (w.drewN nq).cell? ⟨xb, 0, none⟩ = _ := h1
      replace h2 : (w.drewN nq).cell? ⟨ab, 0, none⟩ = _ := h2
      replace h3 : (w.drewN nq).cell? ⟨bb, 0, none⟩ = _ := h3
      have Hw : ∀ n, ∃ m, (w.drewN nq).drewN n = w.drewN m := fun _ => ⟨_, World.drewN_drewN _ _ _⟩
      generalize w.drewN nq = w2 at *
      go_wp2_with fail
      go_quiet ((go_at_call 28; exact Calls.quiet_of (id_calls _ _)))
      go_wp2
      go_ret
      exact ⟨ret_int H.out.symm, Hw _⟩
    · have H := Lib.hid (show heldIOf xs x a b = x from (if_neg c1).trans (if_neg c2))
      have d1 : decide (x < a) = false := decide_eq_false c1
      have d2 : decide (b < x) = false := decide_eq_false c2
      clear c1 c2
      go_enter Try.func25, Try.ntmps25
      go_wp2_with fail
      go_quiet ((go_at_call 28; exact Calls.quiet_of (id_calls _ _)))
      replace h1 : (w.drewN nq).cell? ⟨xb, 0, none⟩ = _ := h1
      replace h2 : (w.drewN nq).cell? ⟨ab, 0, none⟩ = _ := h2
      replace h3 : (w.drewN nq).cell? ⟨bb, 0, none⟩ = _ := h3
      have Hw : ∀ n, ∃ m, (w.drewN nq).drewN n = w.drewN m := fun _ => ⟨_, World.drewN_drewN _ _ _⟩
      generalize w.drewN nq = w2 at *
      go_wp2_with fail
      go_quiet ((go_at_call 28; exact Calls.quiet_of (id_calls _ _)))
      go_wp2
      go_ret
      exact ⟨ret_int H.out.symm, Hw _⟩
theorem clampF_held (xs : List Int) (x a b : Int) (h : rankOf xs a ≤ rankOf xs b) : maxF xs a (minF xs b x) = heldROf xs x a b := by
  unfold maxF minF heldROf
  by_cases c1 : rankOf xs x < rankOf xs a
  · rw [if_pos c1, if_neg (show ¬ rankOf xs b < rankOf xs x by omega), if_pos c1]
  · rw [if_neg c1]
    by_cases c2 : rankOf xs b < rankOf xs x
    · rw [if_pos c2, if_neg (show ¬ rankOf xs b < rankOf xs a by omega)]
    · rw [if_neg c2, if_neg c1]
theorem clamp_held (xs : List Int) (x a b : Int) (h : a ≤ b) : max a (min b x) = heldIOf xs x a b := by
  unfold heldIOf
  split
  · omega
  · split <;> omega
end Go.Proofs.Ytpnmgfiifaljjaa
