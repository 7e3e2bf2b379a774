-- PRINTED BY print.sh 35421559b90ae4d0a3588c463048766b98c2df88dd9212a6774a882060cdf62d: not written by this session
import Derived.Test.YtaljobijdbgohaaPFnGlobBetweenx0
namespace Go.Proofs.Ytaljobijdbgohaa.PFnGlobBetween
open Go.RowKit Go.Proofs.YtaljobijdbgohaaW.PrintWords Go.Proofs.YtaljobijdbgohaaW.PrintLast Go.Proofs.YtaljobijdbgohaaW.PrintMore
attribute [local go_sem] max2_int min2_int max_two min_two max_three min_three max_four min_four   -- for this text's walks alone
set_option linter.unusedVariables false
set_option linter.unusedSimpArgs false

/-! ### doublestar_matchRuneRange: function 36 -/
def doublestar_matchRuneRange.f (a0 : Int) (a1 : Int) (a2 : Int) (a3 : Bool) : Option (Bool) := if a0 ≤ a2 then (some (decide (a2 ≤ a1))) else (some false)
set_option maxHeartbeats 8000000 in
set_option maxRecDepth 100000 in
theorem doublestar_matchRuneRange.calls (a0 : Int) (a1 : Int) (a2 : Int) (a3 : Bool) (r : Bool) (w : World) (h : doublestar_matchRuneRange.f a0 a1 a2 a3 = some r) :
    Calls Try.prog 36 #[.int .i32 a0, .int .i32 a1, .int .i32 a2, .bool a3] w fun e w' => e = .returned (.bool r) ∧ Drawn0 w w' := by
  have H : (if a0 ≤ a2 then (some (decide (a2 ≤ a1))) else (some false)) = some r := h
  clear h
  by_cases c5 : a0 ≤ a2
  · rw [if_pos c5] at H
    have c5b0 : decide (a0 ≤ a2) = true := decide_eq_true c5
    clear c5
    obtain rfl := Option.some.inj H
    go_enter Try.func36, Try.ntmps36
    go_wp2
    go_ret
    exact ⟨by first | rfl | (simp; done) | (simp [*]; done), by repeat (first | exact Drawn0.refl _ | apply Drawn0.step)⟩
  · rw [if_neg c5] at H
    have c5b0 : decide (a0 ≤ a2) = false := decide_eq_false c5
    clear c5
    obtain rfl := Option.some.inj H
    go_enter Try.func36, Try.ntmps36
    go_wp2
    go_ret
    exact ⟨by first | rfl | (simp; done) | (simp [*]; done), by repeat (first | exact Drawn0.refl _ | apply Drawn0.step)⟩

/-! ### doublestar_ZzRuneRange: function 23 -/
def doublestar_ZzRuneRange.f (a0 : Int) (a1 : Int) (a2 : Int) : Option (Bool) := (doublestar_matchRuneRange.f a0 a1 a2 false).bind fun t101 => (some t101)
set_option maxHeartbeats 8000000 in
set_option maxRecDepth 100000 in
theorem doublestar_ZzRuneRange.calls (a0 : Int) (a1 : Int) (a2 : Int) (r : Bool) (w : World) (h : doublestar_ZzRuneRange.f a0 a1 a2 = some r) :
    Calls Try.prog 23 #[.int .i32 a0, .int .i32 a1, .int .i32 a2] w fun e w' => e = .returned (.bool r) ∧ Drawn0 w w' := by
  have H : ((doublestar_matchRuneRange.f a0 a1 a2 false).bind fun t101 => (some t101)) = some r := h
  clear h
  replace H := Option.bind_eq_some_iff.mp H
  obtain ⟨t101, A40, H⟩ := H
  replace H : (some t101) = some r := H
  have A4 := Aside0.mk A40
  clear A40
  obtain rfl := Option.some.inj H
  go_enter Try.func23, Try.ntmps23
  go_wp2_with (first | ((with_reducible refine gate_callee (f := 36) rfl ?_); refine goesL_ (some 10) rfl rfl Try.func36 (by kernel_rfl) rfl #[.int .i32 a0, .int .i32 a1, .int .i32 a2, .bool false] rfl (by (try simp only [List.map_toArray, List.map_cons, List.map_nil]); first | done | rfl | (simp only [List.length_drop, List.length_take]; rfl)) ?_; (with_reducible refine (doublestar_matchRuneRange.calls a0 a1 a2 false t101 _ A4.out).mono ?_); rintro e w' ⟨rfl, ⟨nd, rfl⟩⟩; refine ⟨_, rfl, ?_⟩))
  go_ret
  exact ⟨by first | rfl | (simp; done) | (simp [*]; done), by repeat (first | exact Drawn0.refl _ | apply Drawn0.step)⟩

/-! ### impl_GlobRuneInRange: function 10 -/
def impl_GlobRuneInRange.f (a0 : Int) (a1 : Int) (a2 : Int) : Option (Bool) := (doublestar_ZzRuneRange.f a0 a1 a2).bind fun t102 => (some t102)
set_option maxHeartbeats 8000000 in
set_option maxRecDepth 100000 in
theorem impl_GlobRuneInRange.calls (a0 : Int) (a1 : Int) (a2 : Int) (r : Bool) (w : World) (h : impl_GlobRuneInRange.f a0 a1 a2 = some r) :
    Calls Try.prog 10 #[.int .i32 a0, .int .i32 a1, .int .i32 a2] w fun e w' => e = .returned (.bool r) ∧ Drawn0 w w' := by
  have H : ((doublestar_ZzRuneRange.f a0 a1 a2).bind fun t102 => (some t102)) = some r := h
  clear h
  replace H := Option.bind_eq_some_iff.mp H
  obtain ⟨t102, A40, H⟩ := H
  replace H : (some t102) = some r := H
  have A4 := Aside0.mk A40
  clear A40
  obtain rfl := Option.some.inj H
  go_enter Try.func10, Try.ntmps10
  go_wp2_with (first | ((with_reducible refine gate_callee (f := 23) rfl ?_); refine goesL_ (some 10) rfl rfl Try.func23 (by kernel_rfl) rfl #[.int .i32 a0, .int .i32 a1, .int .i32 a2] rfl (by (try simp only [List.map_toArray, List.map_cons, List.map_nil]); first | done | rfl | (simp only [List.length_drop, List.length_take]; rfl)) ?_; (with_reducible refine (doublestar_ZzRuneRange.calls a0 a1 a2 t102 _ A4.out).mono ?_); rintro e w' ⟨rfl, ⟨nd, rfl⟩⟩; refine ⟨_, rfl, ?_⟩))
  go_ret
  exact ⟨by first | rfl | (simp; done) | (simp [*]; done), by repeat (first | exact Drawn0.refl _ | apply Drawn0.step)⟩

/-! ### laws_FnGlobBetween: function 3 -/
def laws_FnGlobBetween.f (a0 : Int) (a1 : Int) (a2 : Int) : Option (Bool) := (impl_GlobRuneInRange.f a0 a1 a2).bind fun t103 => (if a0 ≤ a2 then (if (t103 == (decide (a2 ≤ a1))) = true then ((impl_GlobRuneInRange.f 97 99 98).bind fun t104 => (some t104)) else (some false)) else (if (t103 == false) = true then ((impl_GlobRuneInRange.f 97 99 98).bind fun t105 => (some t105)) else (some false)))
set_option maxHeartbeats 8000000 in
set_option maxRecDepth 100000 in
theorem laws_FnGlobBetween.calls (a0 : Int) (a1 : Int) (a2 : Int) (r : Bool) (w : World) (h : laws_FnGlobBetween.f a0 a1 a2 = some r) :
    Calls Try.prog 3 #[.int .i32 a0, .int .i32 a1, .int .i32 a2] w fun e w' => e = .returned (.bool r) ∧ Drawn0 w w' := by
  have H : ((impl_GlobRuneInRange.f a0 a1 a2).bind fun t103 => (if a0 ≤ a2 then (if (t103 == (decide (a2 ≤ a1))) = true then ((impl_GlobRuneInRange.f 97 99 98).bind fun t104 => (some t104)) else (some false)) else (if (t103 == false) = true then ((impl_GlobRuneInRange.f 97 99 98).bind fun t105 => (some t105)) else (some false)))) = some r := h
  clear h
  replace H := Option.bind_eq_some_iff.mp H
  obtain ⟨t103, A40, H⟩ := H
  replace H : (if a0 ≤ a2 then (if (t103 == (decide (a2 ≤ a1))) = true then ((impl_GlobRuneInRange.f 97 99 98).bind fun t104 => (some t104)) else (some false)) else (if (t103 == false) = true then ((impl_GlobRuneInRange.f 97 99 98).bind fun t105 => (some t105)) else (some false))) = some r := H
  have A4 := Aside0.mk A40
  clear A40
  by_cases c5 : a0 ≤ a2
  · rw [if_pos c5] at H
    have c5b0 : decide (a0 ≤ a2) = true := decide_eq_true c5
    clear c5
    by_cases c6 : (t103 == (decide (a2 ≤ a1))) = true
    · rw [if_pos c6] at H
      have c6b0 : (t103 == (decide (a2 ≤ a1))) = true := c6
      (try (have c6b1 : decide (t103 = (decide (a2 ≤ a1))) = true := by simpa using c6))
      (try (have c6b2 : (t103 == (decide (a2 ≤ a1))) = true := by simpa using c6))
      clear c6
      replace H := Option.bind_eq_some_iff.mp H
      obtain ⟨t104, A70, H⟩ := H
      replace H : (some t104) = some r := H
      have A7 := Aside0.mk A70
      clear A70
      obtain rfl := Option.some.inj H
      go_enter Try.func3, Try.ntmps3
      go_wp2_with (first | ((with_reducible refine gate_callee (f := 10) rfl ?_); refine goesL_ (some 10) rfl rfl Try.func10 (by kernel_rfl) rfl #[.int .i32 a0, .int .i32 a1, .int .i32 a2] rfl (by (try simp only [List.map_toArray, List.map_cons, List.map_nil]); first | done | rfl | (simp only [List.length_drop, List.length_take]; rfl)) ?_; (with_reducible refine (impl_GlobRuneInRange.calls a0 a1 a2 t103 _ A4.out).mono ?_); rintro e w' ⟨rfl, ⟨nd, rfl⟩⟩; refine ⟨_, rfl, ?_⟩) | (go_at_call 10; (with_reducible refine (impl_GlobRuneInRange.calls 97 99 98 t104 _ A7.out).mono ?_); rintro e w' ⟨rfl, ⟨nd, rfl⟩⟩))
      go_ret
      exact ⟨by first | rfl | (simp; done) | (simp [*]; done), by repeat (first | exact Drawn0.refl _ | apply Drawn0.step)⟩
    · rw [if_neg c6] at H
      have c6b0 : (t103 == (decide (a2 ≤ a1))) = false := by simpa using c6
      (try (have c6b1 : decide (t103 = (decide (a2 ≤ a1))) = false := by simpa using c6))
      (try (have c6b2 : (t103 == (decide (a2 ≤ a1))) = false := by simpa using c6))
      (try (have c6b3 : ¬ (t103 = (decide (a2 ≤ a1))) := by simpa using c6))
      clear c6
      obtain rfl := Option.some.inj H
      go_enter Try.func3, Try.ntmps3
      go_wp2_with (first | ((with_reducible refine gate_callee (f := 10) rfl ?_); refine goesL_ (some 10) rfl rfl Try.func10 (by kernel_rfl) rfl #[.int .i32 a0, .int .i32 a1, .int .i32 a2] rfl (by (try simp only [List.map_toArray, List.map_cons, List.map_nil]); first | done | rfl | (simp only [List.length_drop, List.length_take]; rfl)) ?_; (with_reducible refine (impl_GlobRuneInRange.calls a0 a1 a2 t103 _ A4.out).mono ?_); rintro e w' ⟨rfl, ⟨nd, rfl⟩⟩; refine ⟨_, rfl, ?_⟩))
      go_ret
      exact ⟨by first | rfl | (simp; done) | (simp [*]; done), by repeat (first | exact Drawn0.refl _ | apply Drawn0.step)⟩
  · rw [if_neg c5] at H
    have c5b0 : decide (a0 ≤ a2) = false := decide_eq_false c5
    clear c5
    by_cases c8 : (t103 == false) = true
    · rw [if_pos c8] at H
      have c8b0 : (t103 == false) = true := c8
      (try (have c8b1 : decide (t103 = false) = true := by simpa using c8))
      (try (have c8b2 : (t103 == false) = true := by simpa using c8))
      clear c8
      replace H := Option.bind_eq_some_iff.mp H
      obtain ⟨t105, A90, H⟩ := H
      replace H : (some t105) = some r := H
      have A9 := Aside0.mk A90
      clear A90
      obtain rfl := Option.some.inj H
      go_enter Try.func3, Try.ntmps3
      go_wp2_with (first | ((with_reducible refine gate_callee (f := 10) rfl ?_); refine goesL_ (some 10) rfl rfl Try.func10 (by kernel_rfl) rfl #[.int .i32 a0, .int .i32 a1, .int .i32 a2] rfl (by (try simp only [List.map_toArray, List.map_cons, List.map_nil]); first | done | rfl | (simp only [List.length_drop, List.length_take]; rfl)) ?_; (with_reducible refine (impl_GlobRuneInRange.calls a0 a1 a2 t103 _ A4.out).mono ?_); rintro e w' ⟨rfl, ⟨nd, rfl⟩⟩; refine ⟨_, rfl, ?_⟩) | (go_at_call 10; (with_reducible refine (impl_GlobRuneInRange.calls 97 99 98 t105 _ A9.out).mono ?_); rintro e w' ⟨rfl, ⟨nd, rfl⟩⟩))
      go_ret
      exact ⟨by first | rfl | (simp; done) | (simp [*]; done), by repeat (first | exact Drawn0.refl _ | apply Drawn0.step)⟩
    · rw [if_neg c8] at H
      have c8b0 : (t103 == false) = false := by simpa using c8
      (try (have c8b1 : decide (t103 = false) = false := by simpa using c8))
      (try (have c8b2 : (t103 == false) = false := by simpa using c8))
      (try (have c8b3 : ¬ (t103 = false) := by simpa using c8))
      clear c8
      obtain rfl := Option.some.inj H
      go_enter Try.func3, Try.ntmps3
      go_wp2_with (first | ((with_reducible refine gate_callee (f := 10) rfl ?_); refine goesL_ (some 10) rfl rfl Try.func10 (by kernel_rfl) rfl #[.int .i32 a0, .int .i32 a1, .int .i32 a2] rfl (by (try simp only [List.map_toArray, List.map_cons, List.map_nil]); first | done | rfl | (simp only [List.length_drop, List.length_take]; rfl)) ?_; (with_reducible refine (impl_GlobRuneInRange.calls a0 a1 a2 t103 _ A4.out).mono ?_); rintro e w' ⟨rfl, ⟨nd, rfl⟩⟩; refine ⟨_, rfl, ?_⟩))
      go_ret
      exact ⟨by first | rfl | (simp; done) | (simp [*]; done), by repeat (first | exact Drawn0.refl _ | apply Drawn0.step)⟩

/-- THE ONE PURE STATEMENT of laws_FnGlobBetween: yours. -/
def laws_FnGlobBetween.Pure : Prop := ∀ (a0 : Int) (a1 : Int) (a2 : Int), (Lit.int .i32 a0).wf = true → (Lit.int .i32 a1).wf = true → (Lit.int .i32 a2).wf = true → laws_FnGlobBetween.f a0 a1 a2 = some true
theorem laws_FnGlobBetween.walk (P : laws_FnGlobBetween.Pure) (a0 : Int) (a1 : Int) (a2 : Int) (w : World) (w0 : (Lit.int .i32 a0).wf = true) (w1 : (Lit.int .i32 a1).wf = true) (w2 : (Lit.int .i32 a2).wf = true) :
    Calls Try.prog 3 #[.int .i32 a0, .int .i32 a1, .int .i32 a2] w fun e w' => e = .returned (.bool true) ∧ Below w.heap.size w w' := by
  have h := P a0 a1 a2 w0 w1 w2
  refine (laws_FnGlobBetween.calls a0 a1 a2 true w h).mono ?_
  rintro e w' ⟨rfl, hd⟩
  exact ⟨rfl, hd.below⟩

end Go.Proofs.Ytaljobijdbgohaa.PFnGlobBetween
