-- PRINTED BY print.sh 35421559b90ae4d0a3588c463048766b98c2df88dd9212a6774a882060cdf62d: not written by this session
import Derived.Test.YtaljobijdbgohaaPFnGlobClosingx0
import Derived.Test.YtaljobijdbgohaaPFnGlobClosingx1
import Derived.Test.YtaljobijdbgohaaPFnGlobClosingx2
namespace Go.Proofs.Ytaljobijdbgohaa.PFnGlobClosing
open Go.RowKit Go.Proofs.YtaljobijdbgohaaW.PrintWords Go.Proofs.YtaljobijdbgohaaW.PrintLast Go.Proofs.YtaljobijdbgohaaW.PrintMore
attribute [local go_sem] max2_int min2_int max_two min_two max_three min_three max_four min_four   -- for this text's walks alone
set_option linter.unusedVariables false
set_option linter.unusedSimpArgs false

/-! ### spec_GlobComma: function 21 -/
def spec_GlobComma.l0 : Nat → ByteArray → Bool → Int → Int → Option (Int × Bool)
  | 0, _, _, _, _ => none
  | k + 1, x0, x1, x6, x7 => if x7 < (x0.size : Int) then (if 0 ≤ x7 then (if (bt x0 x7) = 123 then (if (wrap64 (x6 + 1)) < 0 then (some ((-1), false)) else ((spec_globSkip.f x0 x7 x1).bind fun t105 => (spec_GlobComma.l0 k x0 x1 (wrap64 (x6 + 1)) t105))) else (if (bt x0 x7) = 125 then (if (wrap64 (x6 - 1)) < 0 then (some ((-1), false)) else ((spec_globSkip.f x0 x7 x1).bind fun t106 => (spec_GlobComma.l0 k x0 x1 (wrap64 (x6 - 1)) t106))) else (if (bt x0 x7) = 44 then (if x6 = 0 then (some (x7, true)) else (if x6 < 0 then (some ((-1), false)) else ((spec_globSkip.f x0 x7 x1).bind fun t107 => (spec_GlobComma.l0 k x0 x1 x6 t107)))) else (if x6 < 0 then (some ((-1), false)) else ((spec_globSkip.f x0 x7 x1).bind fun t108 => (spec_GlobComma.l0 k x0 x1 x6 t108)))))) else (none)) else (some ((-1), true))
def spec_GlobComma.f (k : Nat) (a0 : ByteArray) (a1 : Bool) : Option (Int × Bool) := spec_GlobComma.l0 k a0 a1 0 0
theorem spec_GlobComma.mono_l : ∀ k, (∀ y0 y1 y2 y3, LeO (spec_GlobComma.l0 k y0 y1 y2 y3) (spec_GlobComma.l0 (k + 1) y0 y1 y2 y3))
  | 0 => fun _ _ _ _ r h => by simp [spec_GlobComma.l0] at h
  | k + 1 => by
    have ih0 := spec_GlobComma.mono_l k
    · intro y0 y1 y2 y3
      unfold spec_GlobComma.l0
      repeat' first
      | (with_reducible exact ih0 _ _ _ _)
      | (with_reducible exact LeO.refl _)
      | (with_reducible exact LeO.none _)
      | (with_reducible refine LeO.ite ?_ ?_)
      | (with_reducible refine LeO.bind ?_ (fun _ => ?_))
      | exact ih0 _ _ _ _
      | exact LeO.none _
      | refine LeO.ite ?_ ?_
      | refine LeO.bind ?_ (fun _ => ?_)
theorem spec_GlobComma.mono : ∀ a0 a1 k, LeO (spec_GlobComma.f k a0 a1) (spec_GlobComma.f (k + 1) a0 a1) := by
  intro a0 a1 k
  have ih0 := spec_GlobComma.mono_l k
  unfold spec_GlobComma.f
  repeat' first
      | (with_reducible exact ih0 _ _ _ _)
      | (with_reducible exact LeO.refl _)
      | (with_reducible exact LeO.none _)
      | (with_reducible refine LeO.ite ?_ ?_)
      | (with_reducible refine LeO.bind ?_ (fun _ => ?_))
      | exact ih0 _ _ _ _
      | exact LeO.none _
      | refine LeO.ite ?_ ?_
      | refine LeO.bind ?_ (fun _ => ?_)
set_option maxHeartbeats 8000000 in
set_option maxRecDepth 100000 in
theorem spec_GlobComma.calls (k : Nat) (a0 : ByteArray) (a1 : Bool) (r1 : Int) (r2 : Bool) (w : World) (h : spec_GlobComma.f k a0 a1 = some (r1, r2)) :
    Calls Try.prog 21 #[.string a0, .bool a1] w fun e w' => e = .returned (.tuple #[.int .i64 r1, .bool r2]) ∧ Drawn0 w w' := by
  have H : (spec_GlobComma.l0 k a0 a1 0 0) = some (r1, r2) := h
  clear h
  have H' := Aside0.mk H
  clear H
  go_enter Try.func21, Try.ntmps21
  go_wp2
  go_loopg [6, 7] k (fun kq v6 v7 w' => ∃ (x6_1 : Int) (x7_1 : Int), v6 = .int .i64 x6_1 ∧ v7 = .int .i64 x7_1 ∧ Aside0 (spec_GlobComma.l0 kq a0 a1 x6_1 x7_1 = some (r1, r2)) ∧ Aside0 (kq ≤ k) ∧ Drawn0 w w')
  case atStart => exact ⟨(0), (0), (by first | rfl | (simp; done) | (simp [*]; done)), (by first | rfl | (simp; done) | (simp [*]; done)), H', ⟨Nat.le_refl _⟩, by repeat (first | exact Drawn0.refl _ | apply Drawn0.step)⟩
  case round =>
    clear H'
    try clear c2
    try clear p2
    obtain ⟨x6_1, x7_1, rfl, rfl, HA, HK1, ⟨m1, rfl⟩⟩ := hrel
    cases gk with
    | zero => exact absurd HA.out (by simp [spec_GlobComma.l0])
    | succ k1 =>
      have H := HA.out
      clear HA
      simp only [spec_GlobComma.l0] at H
      by_cases c3 : x7_1 < (a0.size : Int)
      · rw [if_pos c3] at H
        have c3b0 : decide (x7_1 < (a0.size : Int)) = true := decide_eq_true c3
        clear c3
        by_cases c4 : 0 ≤ x7_1
        · rw [if_pos c4] at H
          have c4b0 : decide (0 ≤ x7_1) = true := decide_eq_true c4
          clear c4
          by_cases c6 : (bt a0 x7_1) = 123
          · rw [if_pos c6] at H
            have c6b0 : ((bt a0 x7_1) == 123) = true := beq_iff_eq.mpr c6
            have c6b1 : ((bt a0 x7_1) != 123) = false := bne_eq_false_iff_eq.mpr c6
            clear c6
            by_cases c7 : (wrap64 (x6_1 + 1)) < 0
            · rw [if_pos c7] at H
              have c7b0 : decide ((wrap64 (x6_1 + 1)) < 0) = true := decide_eq_true c7
              clear c7
              simp only [Option.some.injEq, Prod.mk.injEq] at H
              obtain ⟨rfl, rfl⟩ := H
              have p5 : 0 ≤ (x7_1 : Int) := of_decide_eq_true (by first | (with_reducible assumption) | assumption)
              have q5 : x7_1 < (a0.size : Int) := of_decide_eq_true (by first | (with_reducible assumption) | assumption)
              have hx5 := bt_at a0 x7_1
              replace p5 := eq_true p5
              replace q5 := eq_true q5
              go_wp2
              go_ret2
              exact ⟨by first | rfl | (simp; done) | (simp [*]; done), by repeat (first | exact Drawn0.refl _ | apply Drawn0.step)⟩
            · rw [if_neg c7] at H
              have c7b0 : decide ((wrap64 (x6_1 + 1)) < 0) = false := decide_eq_false c7
              clear c7
              replace H := Option.bind_eq_some_iff.mp H
              obtain ⟨t105, A80, H⟩ := H
              replace H : (spec_GlobComma.l0 k1 a0 a1 (wrap64 (x6_1 + 1)) t105) = some (r1, r2) := H
              have A8 := Aside0.mk A80
              clear A80
              have H' := Aside0.mk H
              clear H
              have p5 : 0 ≤ (x7_1 : Int) := of_decide_eq_true (by first | (with_reducible assumption) | assumption)
              have q5 : x7_1 < (a0.size : Int) := of_decide_eq_true (by first | (with_reducible assumption) | assumption)
              have hx5 := bt_at a0 x7_1
              replace p5 := eq_true p5
              replace q5 := eq_true q5
              go_wp2_with (first | ((with_reducible refine gate_callee (f := 35) rfl ?_); refine goesL_ (some 15) rfl rfl Try.func35 (by kernel_rfl) rfl #[.string a0, .int .i64 x7_1, .bool a1] rfl (by (try simp only [List.map_toArray, List.map_cons, List.map_nil]); first | done | rfl | (simp only [List.length_drop, List.length_take]; rfl)) ?_; (with_reducible refine (spec_globSkip.calls a0 x7_1 a1 t105 _ A8.out).mono ?_); rintro e w' ⟨rfl, ⟨nd, rfl⟩⟩; refine ⟨_, rfl, ?_⟩))
              go_roundg k1
              case measure => have := HK1.out; omega
              case rel => exact ⟨(wrap64 (x6_1 + 1)), (t105), (by first | rfl | (simp; done) | (simp [*]; done)), (by first | rfl | (simp; done) | (simp [*]; done)), H', ⟨by have := HK1.out; omega⟩, by repeat (first | exact Drawn0.refl _ | apply Drawn0.step)⟩
          · rw [if_neg c6] at H
            have c6b0 : ((bt a0 x7_1) == 123) = false := beq_eq_false_iff_ne.mpr c6
            have c6b1 : ((bt a0 x7_1) != 123) = true := bne_iff_ne.mpr c6
            by_cases c9 : (bt a0 x7_1) = 125
            · rw [if_pos c9] at H
              have c9b0 : ((bt a0 x7_1) == 125) = true := beq_iff_eq.mpr c9
              have c9b1 : ((bt a0 x7_1) != 125) = false := bne_eq_false_iff_eq.mpr c9
              clear c9
              by_cases c10 : (wrap64 (x6_1 - 1)) < 0
              · rw [if_pos c10] at H
                have c10b0 : decide ((wrap64 (x6_1 - 1)) < 0) = true := decide_eq_true c10
                clear c10
                simp only [Option.some.injEq, Prod.mk.injEq] at H
                obtain ⟨rfl, rfl⟩ := H
                have p5 : 0 ≤ (x7_1 : Int) := of_decide_eq_true (by first | (with_reducible assumption) | assumption)
                have q5 : x7_1 < (a0.size : Int) := of_decide_eq_true (by first | (with_reducible assumption) | assumption)
                have hx5 := bt_at a0 x7_1
                replace p5 := eq_true p5
                replace q5 := eq_true q5
                go_wp2
                go_ret2
                exact ⟨by first | rfl | (simp; done) | (simp [*]; done), by repeat (first | exact Drawn0.refl _ | apply Drawn0.step)⟩
              · rw [if_neg c10] at H
                have c10b0 : decide ((wrap64 (x6_1 - 1)) < 0) = false := decide_eq_false c10
                clear c10
                replace H := Option.bind_eq_some_iff.mp H
                obtain ⟨t106, A110, H⟩ := H
                replace H : (spec_GlobComma.l0 k1 a0 a1 (wrap64 (x6_1 - 1)) t106) = some (r1, r2) := H
                have A11 := Aside0.mk A110
                clear A110
                have H' := Aside0.mk H
                clear H
                have p5 : 0 ≤ (x7_1 : Int) := of_decide_eq_true (by first | (with_reducible assumption) | assumption)
                have q5 : x7_1 < (a0.size : Int) := of_decide_eq_true (by first | (with_reducible assumption) | assumption)
                have hx5 := bt_at a0 x7_1
                replace p5 := eq_true p5
                replace q5 := eq_true q5
                go_wp2_with (first | ((with_reducible refine gate_callee (f := 35) rfl ?_); refine goesL_ (some 15) rfl rfl Try.func35 (by kernel_rfl) rfl #[.string a0, .int .i64 x7_1, .bool a1] rfl (by (try simp only [List.map_toArray, List.map_cons, List.map_nil]); first | done | rfl | (simp only [List.length_drop, List.length_take]; rfl)) ?_; (with_reducible refine (spec_globSkip.calls a0 x7_1 a1 t106 _ A11.out).mono ?_); rintro e w' ⟨rfl, ⟨nd, rfl⟩⟩; refine ⟨_, rfl, ?_⟩))
                go_roundg k1
                case measure => have := HK1.out; omega
                case rel => exact ⟨(wrap64 (x6_1 - 1)), (t106), (by first | rfl | (simp; done) | (simp [*]; done)), (by first | rfl | (simp; done) | (simp [*]; done)), H', ⟨by have := HK1.out; omega⟩, by repeat (first | exact Drawn0.refl _ | apply Drawn0.step)⟩
            · rw [if_neg c9] at H
              have c9b0 : ((bt a0 x7_1) == 125) = false := beq_eq_false_iff_ne.mpr c9
              have c9b1 : ((bt a0 x7_1) != 125) = true := bne_iff_ne.mpr c9
              by_cases c12 : (bt a0 x7_1) = 44
              · rw [if_pos c12] at H
                have c12b0 : ((bt a0 x7_1) == 44) = true := beq_iff_eq.mpr c12
                have c12b1 : ((bt a0 x7_1) != 44) = false := bne_eq_false_iff_eq.mpr c12
                clear c12
                by_cases c13 : x6_1 = 0
                · rw [if_pos c13] at H
                  have c13b0 : (x6_1 == 0) = true := beq_iff_eq.mpr c13
                  have c13b1 : (x6_1 != 0) = false := bne_eq_false_iff_eq.mpr c13
                  clear c13
                  simp only [Option.some.injEq, Prod.mk.injEq] at H
                  obtain ⟨rfl, rfl⟩ := H
                  have p5 : 0 ≤ (x7_1 : Int) := of_decide_eq_true (by first | (with_reducible assumption) | assumption)
                  have q5 : x7_1 < (a0.size : Int) := of_decide_eq_true (by first | (with_reducible assumption) | assumption)
                  have hx5 := bt_at a0 x7_1
                  replace p5 := eq_true p5
                  replace q5 := eq_true q5
                  go_wp2
                  go_ret2
                  exact ⟨by first | rfl | (simp; done) | (simp [*]; done), by repeat (first | exact Drawn0.refl _ | apply Drawn0.step)⟩
                · rw [if_neg c13] at H
                  have c13b0 : (x6_1 == 0) = false := beq_eq_false_iff_ne.mpr c13
                  have c13b1 : (x6_1 != 0) = true := bne_iff_ne.mpr c13
                  by_cases c14 : x6_1 < 0
                  · rw [if_pos c14] at H
                    have c14b0 : decide (x6_1 < 0) = true := decide_eq_true c14
                    clear c14
                    simp only [Option.some.injEq, Prod.mk.injEq] at H
                    obtain ⟨rfl, rfl⟩ := H
                    have p5 : 0 ≤ (x7_1 : Int) := of_decide_eq_true (by first | (with_reducible assumption) | assumption)
                    have q5 : x7_1 < (a0.size : Int) := of_decide_eq_true (by first | (with_reducible assumption) | assumption)
                    have hx5 := bt_at a0 x7_1
                    replace p5 := eq_true p5
                    replace q5 := eq_true q5
                    go_wp2
                    go_ret2
                    exact ⟨by first | rfl | (simp; done) | (simp [*]; done), by repeat (first | exact Drawn0.refl _ | apply Drawn0.step)⟩
                  · rw [if_neg c14] at H
                    have c14b0 : decide (x6_1 < 0) = false := decide_eq_false c14
                    clear c14
                    replace H := Option.bind_eq_some_iff.mp H
                    obtain ⟨t107, A150, H⟩ := H
                    replace H : (spec_GlobComma.l0 k1 a0 a1 x6_1 t107) = some (r1, r2) := H
                    have A15 := Aside0.mk A150
                    clear A150
                    have H' := Aside0.mk H
                    clear H
                    have p5 : 0 ≤ (x7_1 : Int) := of_decide_eq_true (by first | (with_reducible assumption) | assumption)
                    have q5 : x7_1 < (a0.size : Int) := of_decide_eq_true (by first | (with_reducible assumption) | assumption)
                    have hx5 := bt_at a0 x7_1
                    replace p5 := eq_true p5
                    replace q5 := eq_true q5
                    go_wp2_with (first | ((with_reducible refine gate_callee (f := 35) rfl ?_); refine goesL_ (some 15) rfl rfl Try.func35 (by kernel_rfl) rfl #[.string a0, .int .i64 x7_1, .bool a1] rfl (by (try simp only [List.map_toArray, List.map_cons, List.map_nil]); first | done | rfl | (simp only [List.length_drop, List.length_take]; rfl)) ?_; (with_reducible refine (spec_globSkip.calls a0 x7_1 a1 t107 _ A15.out).mono ?_); rintro e w' ⟨rfl, ⟨nd, rfl⟩⟩; refine ⟨_, rfl, ?_⟩))
                    go_roundg k1
                    case measure => have := HK1.out; omega
                    case rel => exact ⟨(x6_1), (t107), (by first | rfl | (simp; done) | (simp [*]; done)), (by first | rfl | (simp; done) | (simp [*]; done)), H', ⟨by have := HK1.out; omega⟩, by repeat (first | exact Drawn0.refl _ | apply Drawn0.step)⟩
              · rw [if_neg c12] at H
                have c12b0 : ((bt a0 x7_1) == 44) = false := beq_eq_false_iff_ne.mpr c12
                have c12b1 : ((bt a0 x7_1) != 44) = true := bne_iff_ne.mpr c12
                by_cases c16 : x6_1 < 0
                · rw [if_pos c16] at H
                  have c16b0 : decide (x6_1 < 0) = true := decide_eq_true c16
                  clear c16
                  simp only [Option.some.injEq, Prod.mk.injEq] at H
                  obtain ⟨rfl, rfl⟩ := H
                  have p5 : 0 ≤ (x7_1 : Int) := of_decide_eq_true (by first | (with_reducible assumption) | assumption)
                  have q5 : x7_1 < (a0.size : Int) := of_decide_eq_true (by first | (with_reducible assumption) | assumption)
                  have hx5 := bt_at a0 x7_1
                  replace p5 := eq_true p5
                  replace q5 := eq_true q5
                  go_wp2
                  go_ret2
                  exact ⟨by first | rfl | (simp; done) | (simp [*]; done), by repeat (first | exact Drawn0.refl _ | apply Drawn0.step)⟩
                · rw [if_neg c16] at H
                  have c16b0 : decide (x6_1 < 0) = false := decide_eq_false c16
                  clear c16
                  replace H := Option.bind_eq_some_iff.mp H
                  obtain ⟨t108, A170, H⟩ := H
                  replace H : (spec_GlobComma.l0 k1 a0 a1 x6_1 t108) = some (r1, r2) := H
                  have A17 := Aside0.mk A170
                  clear A170
                  have H' := Aside0.mk H
                  clear H
                  have p5 : 0 ≤ (x7_1 : Int) := of_decide_eq_true (by first | (with_reducible assumption) | assumption)
                  have q5 : x7_1 < (a0.size : Int) := of_decide_eq_true (by first | (with_reducible assumption) | assumption)
                  have hx5 := bt_at a0 x7_1
                  replace p5 := eq_true p5
                  replace q5 := eq_true q5
                  go_wp2_with (first | ((with_reducible refine gate_callee (f := 35) rfl ?_); refine goesL_ (some 15) rfl rfl Try.func35 (by kernel_rfl) rfl #[.string a0, .int .i64 x7_1, .bool a1] rfl (by (try simp only [List.map_toArray, List.map_cons, List.map_nil]); first | done | rfl | (simp only [List.length_drop, List.length_take]; rfl)) ?_; (with_reducible refine (spec_globSkip.calls a0 x7_1 a1 t108 _ A17.out).mono ?_); rintro e w' ⟨rfl, ⟨nd, rfl⟩⟩; refine ⟨_, rfl, ?_⟩))
                  go_roundg k1
                  case measure => have := HK1.out; omega
                  case rel => exact ⟨(x6_1), (t108), (by first | rfl | (simp; done) | (simp [*]; done)), (by first | rfl | (simp; done) | (simp [*]; done)), H', ⟨by have := HK1.out; omega⟩, by repeat (first | exact Drawn0.refl _ | apply Drawn0.step)⟩
        · rw [if_neg c4] at H
          exact absurd H (by simp)
      · rw [if_neg c3] at H
        have c3b0 : decide (x7_1 < (a0.size : Int)) = false := decide_eq_false c3
        clear c3
        simp only [Option.some.injEq, Prod.mk.injEq] at H
        obtain ⟨rfl, rfl⟩ := H
        go_wp2
        go_ret2
        exact ⟨by first | rfl | (simp; done) | (simp [*]; done), by repeat (first | exact Drawn0.refl _ | apply Drawn0.step)⟩

/-! ### spec_GlobCloses: function 22 -/
def spec_GlobCloses.l0 : Nat → ByteArray → Bool → Int → Int → Option (Int)
  | 0, _, _, _, _ => none
  | k + 1, x0, x1, x5, x6 => if x6 < (x0.size : Int) then (if 0 ≤ x6 then (if (bt x0 x6) = 123 then (if (wrap64 (x5 + 1)) = 0 then (some x6) else ((spec_globSkip.f x0 x6 x1).bind fun t109 => (spec_GlobCloses.l0 k x0 x1 (wrap64 (x5 + 1)) t109))) else (if (bt x0 x6) = 125 then (if (wrap64 (x5 - 1)) = 0 then (some x6) else ((spec_globSkip.f x0 x6 x1).bind fun t110 => (spec_GlobCloses.l0 k x0 x1 (wrap64 (x5 - 1)) t110))) else (if x5 = 0 then (some x6) else ((spec_globSkip.f x0 x6 x1).bind fun t111 => (spec_GlobCloses.l0 k x0 x1 x5 t111))))) else (none)) else (some (-1))
def spec_GlobCloses.f (k : Nat) (a0 : ByteArray) (a1 : Bool) : Option (Int) := spec_GlobCloses.l0 k a0 a1 1 0
theorem spec_GlobCloses.mono_l : ∀ k, (∀ y0 y1 y2 y3, LeO (spec_GlobCloses.l0 k y0 y1 y2 y3) (spec_GlobCloses.l0 (k + 1) y0 y1 y2 y3))
  | 0 => fun _ _ _ _ r h => by simp [spec_GlobCloses.l0] at h
  | k + 1 => by
    have ih0 := spec_GlobCloses.mono_l k
    · intro y0 y1 y2 y3
      unfold spec_GlobCloses.l0
      repeat' first
      | (with_reducible exact ih0 _ _ _ _)
      | (with_reducible exact LeO.refl _)
      | (with_reducible exact LeO.none _)
      | (with_reducible refine LeO.ite ?_ ?_)
      | (with_reducible refine LeO.bind ?_ (fun _ => ?_))
      | exact ih0 _ _ _ _
      | exact LeO.none _
      | refine LeO.ite ?_ ?_
      | refine LeO.bind ?_ (fun _ => ?_)
theorem spec_GlobCloses.mono : ∀ a0 a1 k, LeO (spec_GlobCloses.f k a0 a1) (spec_GlobCloses.f (k + 1) a0 a1) := by
  intro a0 a1 k
  have ih0 := spec_GlobCloses.mono_l k
  unfold spec_GlobCloses.f
  repeat' first
      | (with_reducible exact ih0 _ _ _ _)
      | (with_reducible exact LeO.refl _)
      | (with_reducible exact LeO.none _)
      | (with_reducible refine LeO.ite ?_ ?_)
      | (with_reducible refine LeO.bind ?_ (fun _ => ?_))
      | exact ih0 _ _ _ _
      | exact LeO.none _
      | refine LeO.ite ?_ ?_
      | refine LeO.bind ?_ (fun _ => ?_)
set_option maxHeartbeats 8000000 in
set_option maxRecDepth 100000 in
theorem spec_GlobCloses.calls (k : Nat) (a0 : ByteArray) (a1 : Bool) (r : Int) (w : World) (h : spec_GlobCloses.f k a0 a1 = some r) :
    Calls Try.prog 22 #[.string a0, .bool a1] w fun e w' => e = .returned (.int .i64 r) ∧ Drawn0 w w' := by
  have H : (spec_GlobCloses.l0 k a0 a1 1 0) = some r := h
  clear h
  have H' := Aside0.mk H
  clear H
  go_enter Try.func22, Try.ntmps22
  go_wp2
  go_loopg [5, 6] k (fun kq v5 v6 w' => ∃ (x5_1 : Int) (x6_1 : Int), v5 = .int .i64 x5_1 ∧ v6 = .int .i64 x6_1 ∧ Aside0 (spec_GlobCloses.l0 kq a0 a1 x5_1 x6_1 = some r) ∧ Aside0 (kq ≤ k) ∧ Drawn0 w w')
  case atStart => exact ⟨(1), (0), (by first | rfl | (simp; done) | (simp [*]; done)), (by first | rfl | (simp; done) | (simp [*]; done)), H', ⟨Nat.le_refl _⟩, by repeat (first | exact Drawn0.refl _ | apply Drawn0.step)⟩
  case round =>
    clear H'
    try clear c2
    try clear p2
    obtain ⟨x5_1, x6_1, rfl, rfl, HA, HK1, ⟨m1, rfl⟩⟩ := hrel
    cases gk with
    | zero => exact absurd HA.out (by simp [spec_GlobCloses.l0])
    | succ k1 =>
      have H := HA.out
      clear HA
      simp only [spec_GlobCloses.l0] at H
      by_cases c3 : x6_1 < (a0.size : Int)
      · rw [if_pos c3] at H
        have c3b0 : decide (x6_1 < (a0.size : Int)) = true := decide_eq_true c3
        clear c3
        by_cases c4 : 0 ≤ x6_1
        · rw [if_pos c4] at H
          have c4b0 : decide (0 ≤ x6_1) = true := decide_eq_true c4
          clear c4
          by_cases c6 : (bt a0 x6_1) = 123
          · rw [if_pos c6] at H
            have c6b0 : ((bt a0 x6_1) == 123) = true := beq_iff_eq.mpr c6
            have c6b1 : ((bt a0 x6_1) != 123) = false := bne_eq_false_iff_eq.mpr c6
            clear c6
            by_cases c7 : (wrap64 (x5_1 + 1)) = 0
            · rw [if_pos c7] at H
              have c7b0 : ((wrap64 (x5_1 + 1)) == 0) = true := beq_iff_eq.mpr c7
              have c7b1 : ((wrap64 (x5_1 + 1)) != 0) = false := bne_eq_false_iff_eq.mpr c7
              clear c7
              obtain rfl := Option.some.inj H
              have p5 : 0 ≤ (x6_1 : Int) := of_decide_eq_true (by first | (with_reducible assumption) | assumption)
              have q5 : x6_1 < (a0.size : Int) := of_decide_eq_true (by first | (with_reducible assumption) | assumption)
              have hx5 := bt_at a0 x6_1
              replace p5 := eq_true p5
              replace q5 := eq_true q5
              go_wp2
              go_ret
              exact ⟨by first | rfl | (simp; done) | (simp [*]; done), by repeat (first | exact Drawn0.refl _ | apply Drawn0.step)⟩
            · rw [if_neg c7] at H
              have c7b0 : ((wrap64 (x5_1 + 1)) == 0) = false := beq_eq_false_iff_ne.mpr c7
              have c7b1 : ((wrap64 (x5_1 + 1)) != 0) = true := bne_iff_ne.mpr c7
              replace H := Option.bind_eq_some_iff.mp H
              obtain ⟨t109, A80, H⟩ := H
              replace H : (spec_GlobCloses.l0 k1 a0 a1 (wrap64 (x5_1 + 1)) t109) = some r := H
              have A8 := Aside0.mk A80
              clear A80
              have H' := Aside0.mk H
              clear H
              have p5 : 0 ≤ (x6_1 : Int) := of_decide_eq_true (by first | (with_reducible assumption) | assumption)
              have q5 : x6_1 < (a0.size : Int) := of_decide_eq_true (by first | (with_reducible assumption) | assumption)
              have hx5 := bt_at a0 x6_1
              replace p5 := eq_true p5
              replace q5 := eq_true q5
              go_wp2_with (first | ((with_reducible refine gate_callee (f := 35) rfl ?_); refine goesL_ (some 14) rfl rfl Try.func35 (by kernel_rfl) rfl #[.string a0, .int .i64 x6_1, .bool a1] rfl (by (try simp only [List.map_toArray, List.map_cons, List.map_nil]); first | done | rfl | (simp only [List.length_drop, List.length_take]; rfl)) ?_; (with_reducible refine (spec_globSkip.calls a0 x6_1 a1 t109 _ A8.out).mono ?_); rintro e w' ⟨rfl, ⟨nd, rfl⟩⟩; refine ⟨_, rfl, ?_⟩))
              go_roundg k1
              case measure => have := HK1.out; omega
              case rel => exact ⟨(wrap64 (x5_1 + 1)), (t109), (by first | rfl | (simp; done) | (simp [*]; done)), (by first | rfl | (simp; done) | (simp [*]; done)), H', ⟨by have := HK1.out; omega⟩, by repeat (first | exact Drawn0.refl _ | apply Drawn0.step)⟩
          · rw [if_neg c6] at H
            have c6b0 : ((bt a0 x6_1) == 123) = false := beq_eq_false_iff_ne.mpr c6
            have c6b1 : ((bt a0 x6_1) != 123) = true := bne_iff_ne.mpr c6
            by_cases c9 : (bt a0 x6_1) = 125
            · rw [if_pos c9] at H
              have c9b0 : ((bt a0 x6_1) == 125) = true := beq_iff_eq.mpr c9
              have c9b1 : ((bt a0 x6_1) != 125) = false := bne_eq_false_iff_eq.mpr c9
              clear c9
              by_cases c10 : (wrap64 (x5_1 - 1)) = 0
              · rw [if_pos c10] at H
                have c10b0 : ((wrap64 (x5_1 - 1)) == 0) = true := beq_iff_eq.mpr c10
                have c10b1 : ((wrap64 (x5_1 - 1)) != 0) = false := bne_eq_false_iff_eq.mpr c10
                clear c10
                obtain rfl := Option.some.inj H
                have p5 : 0 ≤ (x6_1 : Int) := of_decide_eq_true (by first | (with_reducible assumption) | assumption)
                have q5 : x6_1 < (a0.size : Int) := of_decide_eq_true (by first | (with_reducible assumption) | assumption)
                have hx5 := bt_at a0 x6_1
                replace p5 := eq_true p5
                replace q5 := eq_true q5
                go_wp2
                go_ret
                exact ⟨by first | rfl | (simp; done) | (simp [*]; done), by repeat (first | exact Drawn0.refl _ | apply Drawn0.step)⟩
              · rw [if_neg c10] at H
                have c10b0 : ((wrap64 (x5_1 - 1)) == 0) = false := beq_eq_false_iff_ne.mpr c10
                have c10b1 : ((wrap64 (x5_1 - 1)) != 0) = true := bne_iff_ne.mpr c10
                replace H := Option.bind_eq_some_iff.mp H
                obtain ⟨t110, A110, H⟩ := H
                replace H : (spec_GlobCloses.l0 k1 a0 a1 (wrap64 (x5_1 - 1)) t110) = some r := H
                have A11 := Aside0.mk A110
                clear A110
                have H' := Aside0.mk H
                clear H
                have p5 : 0 ≤ (x6_1 : Int) := of_decide_eq_true (by first | (with_reducible assumption) | assumption)
                have q5 : x6_1 < (a0.size : Int) := of_decide_eq_true (by first | (with_reducible assumption) | assumption)
                have hx5 := bt_at a0 x6_1
                replace p5 := eq_true p5
                replace q5 := eq_true q5
                go_wp2_with (first | ((with_reducible refine gate_callee (f := 35) rfl ?_); refine goesL_ (some 14) rfl rfl Try.func35 (by kernel_rfl) rfl #[.string a0, .int .i64 x6_1, .bool a1] rfl (by (try simp only [List.map_toArray, List.map_cons, List.map_nil]); first | done | rfl | (simp only [List.length_drop, List.length_take]; rfl)) ?_; (with_reducible refine (spec_globSkip.calls a0 x6_1 a1 t110 _ A11.out).mono ?_); rintro e w' ⟨rfl, ⟨nd, rfl⟩⟩; refine ⟨_, rfl, ?_⟩))
                go_roundg k1
                case measure => have := HK1.out; omega
                case rel => exact ⟨(wrap64 (x5_1 - 1)), (t110), (by first | rfl | (simp; done) | (simp [*]; done)), (by first | rfl | (simp; done) | (simp [*]; done)), H', ⟨by have := HK1.out; omega⟩, by repeat (first | exact Drawn0.refl _ | apply Drawn0.step)⟩
            · rw [if_neg c9] at H
              have c9b0 : ((bt a0 x6_1) == 125) = false := beq_eq_false_iff_ne.mpr c9
              have c9b1 : ((bt a0 x6_1) != 125) = true := bne_iff_ne.mpr c9
              by_cases c12 : x5_1 = 0
              · rw [if_pos c12] at H
                have c12b0 : (x5_1 == 0) = true := beq_iff_eq.mpr c12
                have c12b1 : (x5_1 != 0) = false := bne_eq_false_iff_eq.mpr c12
                clear c12
                obtain rfl := Option.some.inj H
                have p5 : 0 ≤ (x6_1 : Int) := of_decide_eq_true (by first | (with_reducible assumption) | assumption)
                have q5 : x6_1 < (a0.size : Int) := of_decide_eq_true (by first | (with_reducible assumption) | assumption)
                have hx5 := bt_at a0 x6_1
                replace p5 := eq_true p5
                replace q5 := eq_true q5
                go_wp2
                go_ret
                exact ⟨by first | rfl | (simp; done) | (simp [*]; done), by repeat (first | exact Drawn0.refl _ | apply Drawn0.step)⟩
              · rw [if_neg c12] at H
                have c12b0 : (x5_1 == 0) = false := beq_eq_false_iff_ne.mpr c12
                have c12b1 : (x5_1 != 0) = true := bne_iff_ne.mpr c12
                replace H := Option.bind_eq_some_iff.mp H
                obtain ⟨t111, A130, H⟩ := H
                replace H : (spec_GlobCloses.l0 k1 a0 a1 x5_1 t111) = some r := H
                have A13 := Aside0.mk A130
                clear A130
                have H' := Aside0.mk H
                clear H
                have p5 : 0 ≤ (x6_1 : Int) := of_decide_eq_true (by first | (with_reducible assumption) | assumption)
                have q5 : x6_1 < (a0.size : Int) := of_decide_eq_true (by first | (with_reducible assumption) | assumption)
                have hx5 := bt_at a0 x6_1
                replace p5 := eq_true p5
                replace q5 := eq_true q5
                go_wp2_with (first | ((with_reducible refine gate_callee (f := 35) rfl ?_); refine goesL_ (some 14) rfl rfl Try.func35 (by kernel_rfl) rfl #[.string a0, .int .i64 x6_1, .bool a1] rfl (by (try simp only [List.map_toArray, List.map_cons, List.map_nil]); first | done | rfl | (simp only [List.length_drop, List.length_take]; rfl)) ?_; (with_reducible refine (spec_globSkip.calls a0 x6_1 a1 t111 _ A13.out).mono ?_); rintro e w' ⟨rfl, ⟨nd, rfl⟩⟩; refine ⟨_, rfl, ?_⟩))
                go_roundg k1
                case measure => have := HK1.out; omega
                case rel => exact ⟨(x5_1), (t111), (by first | rfl | (simp; done) | (simp [*]; done)), (by first | rfl | (simp; done) | (simp [*]; done)), H', ⟨by have := HK1.out; omega⟩, by repeat (first | exact Drawn0.refl _ | apply Drawn0.step)⟩
        · rw [if_neg c4] at H
          exact absurd H (by simp)
      · rw [if_neg c3] at H
        have c3b0 : decide (x6_1 < (a0.size : Int)) = false := decide_eq_false c3
        clear c3
        obtain rfl := Option.some.inj H
        go_wp2
        go_ret
        exact ⟨by first | rfl | (simp; done) | (simp [*]; done), by repeat (first | exact Drawn0.refl _ | apply Drawn0.step)⟩

/-! ### laws_FnGlobClosing: function 9 -/
def laws_FnGlobClosing.l0 : Nat → ByteArray → Bool → Int → Option (Bool)
  | 0, _, _, _ => none
  | k + 1, x0, x1, x5 => if x5 < (x0.size : Int) then (if 0 ≤ x5 then (if (bt x0 x5) = 91 then (some true) else (laws_FnGlobClosing.l0 k x0 x1 (wrap64 (x5 + 1)))) else (none)) else ((spec_GlobComma.f k x0 x1).bind fun bt112 => ((impl_GlobClosingAlt.f k x0 x1).bind fun t114 => ((spec_GlobCloses.f k x0 x1).bind fun t115 => (if t114 = t115 then (if bt112.2 = true then ((impl_GlobNextAlt.f k x0 x1).bind fun t116 => (if t116 = bt112.1 then ((impl_GlobNextAlt.f k (⟨#[]⟩ : ByteArray) x1).bind fun t117 => (some (t117 == (-1)))) else (some false))) else ((impl_GlobNextAlt.f k (⟨#[]⟩ : ByteArray) x1).bind fun t118 => (some (t118 == (-1))))) else (some false)))))
def laws_FnGlobClosing.f (k : Nat) (a0 : ByteArray) (a1 : Bool) : Option (Bool) := if (a0.size : Int) > 2147483647 then (some true) else (laws_FnGlobClosing.l0 k a0 a1 0)
theorem laws_FnGlobClosing.mono_l : ∀ k, (∀ y0 y1 y2, LeO (laws_FnGlobClosing.l0 k y0 y1 y2) (laws_FnGlobClosing.l0 (k + 1) y0 y1 y2))
  | 0 => fun _ _ _ r h => by simp [laws_FnGlobClosing.l0] at h
  | k + 1 => by
    have ih0 := laws_FnGlobClosing.mono_l k
    · intro y0 y1 y2
      unfold laws_FnGlobClosing.l0
      repeat' first
      | (with_reducible exact ih0 _ _ _)
      | (with_reducible exact impl_GlobClosingAlt.mono _ _ _)
      | (with_reducible exact impl_GlobNextAlt.mono _ _ _)
      | (with_reducible exact spec_GlobCloses.mono _ _ _)
      | (with_reducible exact spec_GlobComma.mono _ _ _)
      | (with_reducible exact LeO.refl _)
      | (with_reducible exact LeO.none _)
      | (with_reducible refine LeO.ite ?_ ?_)
      | (with_reducible refine LeO.bind ?_ (fun _ => ?_))
      | exact ih0 _ _ _
      | exact impl_GlobClosingAlt.mono _ _ _
      | exact impl_GlobNextAlt.mono _ _ _
      | exact spec_GlobCloses.mono _ _ _
      | exact spec_GlobComma.mono _ _ _
      | exact LeO.none _
      | refine LeO.ite ?_ ?_
      | refine LeO.bind ?_ (fun _ => ?_)
theorem laws_FnGlobClosing.mono : ∀ a0 a1 k, LeO (laws_FnGlobClosing.f k a0 a1) (laws_FnGlobClosing.f (k + 1) a0 a1) := by
  intro a0 a1 k
  have ih0 := laws_FnGlobClosing.mono_l k
  unfold laws_FnGlobClosing.f
  repeat' first
      | (with_reducible exact ih0 _ _ _)
      | (with_reducible exact impl_GlobClosingAlt.mono _ _ _)
      | (with_reducible exact impl_GlobNextAlt.mono _ _ _)
      | (with_reducible exact spec_GlobCloses.mono _ _ _)
      | (with_reducible exact spec_GlobComma.mono _ _ _)
      | (with_reducible exact LeO.refl _)
      | (with_reducible exact LeO.none _)
      | (with_reducible refine LeO.ite ?_ ?_)
      | (with_reducible refine LeO.bind ?_ (fun _ => ?_))
      | exact ih0 _ _ _
      | exact impl_GlobClosingAlt.mono _ _ _
      | exact impl_GlobNextAlt.mono _ _ _
      | exact spec_GlobCloses.mono _ _ _
      | exact spec_GlobComma.mono _ _ _
      | exact LeO.none _
      | refine LeO.ite ?_ ?_
      | refine LeO.bind ?_ (fun _ => ?_)
set_option maxHeartbeats 8000000 in
set_option maxRecDepth 100000 in
theorem laws_FnGlobClosing.calls (k : Nat) (a0 : ByteArray) (a1 : Bool) (r : Bool) (w : World) (h : laws_FnGlobClosing.f k a0 a1 = some r) :
    Calls Try.prog 9 #[.string a0, .bool a1] w fun e w' => e = .returned (.bool r) ∧ Drawn0 w w' := by
  have H : (if (a0.size : Int) > 2147483647 then (some true) else (laws_FnGlobClosing.l0 k a0 a1 0)) = some r := h
  clear h
  by_cases c3 : (a0.size : Int) > 2147483647
  · rw [if_pos c3] at H
    have c3b0 : decide (2147483647 < (a0.size : Int)) = true := decide_eq_true c3
    have c3b1 : decide (2147483647 < a0.size) = true := decide_eq_true (by omega)
    clear c3
    obtain rfl := Option.some.inj H
    go_enter Try.func9, Try.ntmps9
    go_wp2
    go_ret
    exact ⟨by first | rfl | (simp; done) | (simp [*]; done), by repeat (first | exact Drawn0.refl _ | apply Drawn0.step)⟩
  · rw [if_neg c3] at H
    have c3b0 : decide (2147483647 < (a0.size : Int)) = false := decide_eq_false c3
    have c3b1 : decide (2147483647 < a0.size) = false := decide_eq_false (by omega)
    clear c3
    have H' := Aside0.mk H
    clear H
    go_enter Try.func9, Try.ntmps9
    go_wp2
    go_loopg [5] k (fun kq v5 w' => ∃ (x5_1 : Int), v5 = .int .i64 x5_1 ∧ Aside0 (laws_FnGlobClosing.l0 kq a0 a1 x5_1 = some r) ∧ Aside0 (kq ≤ k) ∧ Drawn0 w w')
    case atStart => exact ⟨(0), (by first | rfl | (simp; done) | (simp [*]; done)), H', ⟨Nat.le_refl _⟩, by repeat (first | exact Drawn0.refl _ | apply Drawn0.step)⟩
    case round =>
      clear H'
      try clear p2
      try clear c3
      try clear c3b0
      try clear c3b1
      obtain ⟨x5_1, rfl, HA, HK1, ⟨m1, rfl⟩⟩ := hrel
      cases gk with
      | zero => exact absurd HA.out (by simp [laws_FnGlobClosing.l0])
      | succ k1 =>
        have H := HA.out
        clear HA
        simp only [laws_FnGlobClosing.l0] at H
        by_cases c4 : x5_1 < (a0.size : Int)
        · rw [if_pos c4] at H
          have c4b0 : decide (x5_1 < (a0.size : Int)) = true := decide_eq_true c4
          clear c4
          by_cases c5 : 0 ≤ x5_1
          · rw [if_pos c5] at H
            have c5b0 : decide (0 ≤ x5_1) = true := decide_eq_true c5
            clear c5
            by_cases c7 : (bt a0 x5_1) = 91
            · rw [if_pos c7] at H
              have c7b0 : ((bt a0 x5_1) == 91) = true := beq_iff_eq.mpr c7
              have c7b1 : ((bt a0 x5_1) != 91) = false := bne_eq_false_iff_eq.mpr c7
              clear c7
              obtain rfl := Option.some.inj H
              have p6 : 0 ≤ (x5_1 : Int) := of_decide_eq_true (by first | (with_reducible assumption) | assumption)
              have q6 : x5_1 < (a0.size : Int) := of_decide_eq_true (by first | (with_reducible assumption) | assumption)
              have hx6 := bt_at a0 x5_1
              replace p6 := eq_true p6
              replace q6 := eq_true q6
              go_wp2
              go_ret
              exact ⟨by first | rfl | (simp; done) | (simp [*]; done), by repeat (first | exact Drawn0.refl _ | apply Drawn0.step)⟩
            · rw [if_neg c7] at H
              have c7b0 : ((bt a0 x5_1) == 91) = false := beq_eq_false_iff_ne.mpr c7
              have c7b1 : ((bt a0 x5_1) != 91) = true := bne_iff_ne.mpr c7
              have H' := Aside0.mk H
              clear H
              have p6 : 0 ≤ (x5_1 : Int) := of_decide_eq_true (by first | (with_reducible assumption) | assumption)
              have q6 : x5_1 < (a0.size : Int) := of_decide_eq_true (by first | (with_reducible assumption) | assumption)
              have hx6 := bt_at a0 x5_1
              replace p6 := eq_true p6
              replace q6 := eq_true q6
              go_wp2
              go_roundg k1
              case measure => have := HK1.out; omega
              case rel => exact ⟨(wrap64 (x5_1 + 1)), (by first | rfl | (simp; done) | (simp [*]; done)), H', ⟨by have := HK1.out; omega⟩, by repeat (first | exact Drawn0.refl _ | apply Drawn0.step)⟩
          · rw [if_neg c5] at H
            exact absurd H (by simp)
        · rw [if_neg c4] at H
          have c4b0 : decide (x5_1 < (a0.size : Int)) = false := decide_eq_false c4
          clear c4
          replace H := Option.bind_eq_some_iff.mp H
          obtain ⟨⟨t112, t113⟩, A80, H⟩ := H
          replace H : ((impl_GlobClosingAlt.f k1 a0 a1).bind fun t114 => ((spec_GlobCloses.f k1 a0 a1).bind fun t115 => (if t114 = t115 then (if t113 = true then ((impl_GlobNextAlt.f k1 a0 a1).bind fun t116 => (if t116 = t112 then ((impl_GlobNextAlt.f k1 (⟨#[]⟩ : ByteArray) a1).bind fun t117 => (some (t117 == (-1)))) else (some false))) else ((impl_GlobNextAlt.f k1 (⟨#[]⟩ : ByteArray) a1).bind fun t118 => (some (t118 == (-1))))) else (some false)))) = some r := H
          have A8 := Aside0.mk A80
          clear A80
          replace H := Option.bind_eq_some_iff.mp H
          obtain ⟨t114, A90, H⟩ := H
          replace H : ((spec_GlobCloses.f k1 a0 a1).bind fun t115 => (if t114 = t115 then (if t113 = true then ((impl_GlobNextAlt.f k1 a0 a1).bind fun t116 => (if t116 = t112 then ((impl_GlobNextAlt.f k1 (⟨#[]⟩ : ByteArray) a1).bind fun t117 => (some (t117 == (-1)))) else (some false))) else ((impl_GlobNextAlt.f k1 (⟨#[]⟩ : ByteArray) a1).bind fun t118 => (some (t118 == (-1))))) else (some false))) = some r := H
          have A9 := Aside0.mk A90
          clear A90
          replace H := Option.bind_eq_some_iff.mp H
          obtain ⟨t115, A100, H⟩ := H
          replace H : (if t114 = t115 then (if t113 = true then ((impl_GlobNextAlt.f k1 a0 a1).bind fun t116 => (if t116 = t112 then ((impl_GlobNextAlt.f k1 (⟨#[]⟩ : ByteArray) a1).bind fun t117 => (some (t117 == (-1)))) else (some false))) else ((impl_GlobNextAlt.f k1 (⟨#[]⟩ : ByteArray) a1).bind fun t118 => (some (t118 == (-1))))) else (some false)) = some r := H
          have A10 := Aside0.mk A100
          clear A100
          by_cases c11 : t114 = t115
          · rw [if_pos c11] at H
            have c11b0 : (t114 == t115) = true := beq_iff_eq.mpr c11
            have c11b1 : (t114 != t115) = false := bne_eq_false_iff_eq.mpr c11
            clear c11
            by_cases c12 : t113 = true
            · subst c12
              have H1 : ((impl_GlobNextAlt.f k1 a0 a1).bind fun t116 => (if t116 = t112 then ((impl_GlobNextAlt.f k1 (⟨#[]⟩ : ByteArray) a1).bind fun t117 => (some (t117 == (-1)))) else (some false))) = some r := by rw [if_pos rfl] at H; exact H
              clear H
              have H := H1
              clear H1
              replace H := Option.bind_eq_some_iff.mp H
              obtain ⟨t116, A130, H⟩ := H
              replace H : (if t116 = t112 then ((impl_GlobNextAlt.f k1 (⟨#[]⟩ : ByteArray) a1).bind fun t117 => (some (t117 == (-1)))) else (some false)) = some r := H
              have A13 := Aside0.mk A130
              clear A130
              by_cases c14 : t116 = t112
              · rw [if_pos c14] at H
                have c14b0 : (t116 == t112) = true := beq_iff_eq.mpr c14
                have c14b1 : (t116 != t112) = false := bne_eq_false_iff_eq.mpr c14
                clear c14
                replace H := Option.bind_eq_some_iff.mp H
                obtain ⟨t117, A150, H⟩ := H
                replace H : (some (t117 == (-1))) = some r := H
                have A15 := Aside0.mk A150
                clear A150
                obtain rfl := Option.some.inj H
                go_wp2_with (first | ((with_reducible refine gate_callee (f := 21) rfl ?_); refine goesL_ (some 24) rfl rfl Try.func21 (by kernel_rfl) rfl #[.string a0, .bool a1] rfl (by (try simp only [List.map_toArray, List.map_cons, List.map_nil]); first | done | rfl | (simp only [List.length_drop, List.length_take]; rfl)) ?_; (with_reducible refine (spec_GlobComma.calls k1 a0 a1 t112 true _ A8.out).mono ?_); rintro e w' ⟨rfl, ⟨nd, rfl⟩⟩; refine ⟨_, rfl, ?_⟩) | ((with_reducible refine gate_callee (f := 19) rfl ?_); refine goesL_ (some 29) rfl rfl Try.func19 (by kernel_rfl) rfl #[.string a0, .bool a1] rfl (by (try simp only [List.map_toArray, List.map_cons, List.map_nil]); first | done | rfl | (simp only [List.length_drop, List.length_take]; rfl)) ?_; (with_reducible refine (impl_GlobClosingAlt.calls k1 a0 a1 t114 _ A9.out).mono ?_); rintro e w' ⟨rfl, ⟨nd, rfl⟩⟩; refine ⟨_, rfl, ?_⟩) | ((with_reducible refine gate_callee (f := 22) rfl ?_); refine goesL_ (some 32) rfl rfl Try.func22 (by kernel_rfl) rfl #[.string a0, .bool a1] rfl (by (try simp only [List.map_toArray, List.map_cons, List.map_nil]); first | done | rfl | (simp only [List.length_drop, List.length_take]; rfl)) ?_; (with_reducible refine (spec_GlobCloses.calls k1 a0 a1 t115 _ A10.out).mono ?_); rintro e w' ⟨rfl, ⟨nd, rfl⟩⟩; refine ⟨_, rfl, ?_⟩) | (go_at_call 20; (with_reducible refine (impl_GlobNextAlt.calls k1 a0 a1 t116 _ A13.out).mono ?_); rintro e w' ⟨rfl, ⟨nd, rfl⟩⟩) | (go_at_call 20; (with_reducible refine (impl_GlobNextAlt.calls k1 (⟨#[]⟩ : ByteArray) a1 t117 _ A15.out).mono ?_); rintro e w' ⟨rfl, ⟨nd, rfl⟩⟩))
                go_ret
                exact ⟨by first | rfl | (simp; done) | (simp [*]; done), by repeat (first | exact Drawn0.refl _ | apply Drawn0.step)⟩
              · rw [if_neg c14] at H
                have c14b0 : (t116 == t112) = false := beq_eq_false_iff_ne.mpr c14
                have c14b1 : (t116 != t112) = true := bne_iff_ne.mpr c14
                obtain rfl := Option.some.inj H
                go_wp2_with (first | ((with_reducible refine gate_callee (f := 21) rfl ?_); refine goesL_ (some 24) rfl rfl Try.func21 (by kernel_rfl) rfl #[.string a0, .bool a1] rfl (by (try simp only [List.map_toArray, List.map_cons, List.map_nil]); first | done | rfl | (simp only [List.length_drop, List.length_take]; rfl)) ?_; (with_reducible refine (spec_GlobComma.calls k1 a0 a1 t112 true _ A8.out).mono ?_); rintro e w' ⟨rfl, ⟨nd, rfl⟩⟩; refine ⟨_, rfl, ?_⟩) | ((with_reducible refine gate_callee (f := 19) rfl ?_); refine goesL_ (some 29) rfl rfl Try.func19 (by kernel_rfl) rfl #[.string a0, .bool a1] rfl (by (try simp only [List.map_toArray, List.map_cons, List.map_nil]); first | done | rfl | (simp only [List.length_drop, List.length_take]; rfl)) ?_; (with_reducible refine (impl_GlobClosingAlt.calls k1 a0 a1 t114 _ A9.out).mono ?_); rintro e w' ⟨rfl, ⟨nd, rfl⟩⟩; refine ⟨_, rfl, ?_⟩) | ((with_reducible refine gate_callee (f := 22) rfl ?_); refine goesL_ (some 32) rfl rfl Try.func22 (by kernel_rfl) rfl #[.string a0, .bool a1] rfl (by (try simp only [List.map_toArray, List.map_cons, List.map_nil]); first | done | rfl | (simp only [List.length_drop, List.length_take]; rfl)) ?_; (with_reducible refine (spec_GlobCloses.calls k1 a0 a1 t115 _ A10.out).mono ?_); rintro e w' ⟨rfl, ⟨nd, rfl⟩⟩; refine ⟨_, rfl, ?_⟩) | (go_at_call 20; (with_reducible refine (impl_GlobNextAlt.calls k1 a0 a1 t116 _ A13.out).mono ?_); rintro e w' ⟨rfl, ⟨nd, rfl⟩⟩))
                go_ret
                exact ⟨by first | rfl | (simp; done) | (simp [*]; done), by repeat (first | exact Drawn0.refl _ | apply Drawn0.step)⟩
            · replace c12 := Bool.eq_false_iff.mpr c12
              subst c12
              have H1 : ((impl_GlobNextAlt.f k1 (⟨#[]⟩ : ByteArray) a1).bind fun t118 => (some (t118 == (-1)))) = some r := by rw [if_neg (show ¬ (false = true) by decide)] at H; exact H
              clear H
              have H := H1
              clear H1
              replace H := Option.bind_eq_some_iff.mp H
              obtain ⟨t118, A160, H⟩ := H
              replace H : (some (t118 == (-1))) = some r := H
              have A16 := Aside0.mk A160
              clear A160
              obtain rfl := Option.some.inj H
              go_wp2_with (first | ((with_reducible refine gate_callee (f := 21) rfl ?_); refine goesL_ (some 24) rfl rfl Try.func21 (by kernel_rfl) rfl #[.string a0, .bool a1] rfl (by (try simp only [List.map_toArray, List.map_cons, List.map_nil]); first | done | rfl | (simp only [List.length_drop, List.length_take]; rfl)) ?_; (with_reducible refine (spec_GlobComma.calls k1 a0 a1 t112 false _ A8.out).mono ?_); rintro e w' ⟨rfl, ⟨nd, rfl⟩⟩; refine ⟨_, rfl, ?_⟩) | ((with_reducible refine gate_callee (f := 19) rfl ?_); refine goesL_ (some 29) rfl rfl Try.func19 (by kernel_rfl) rfl #[.string a0, .bool a1] rfl (by (try simp only [List.map_toArray, List.map_cons, List.map_nil]); first | done | rfl | (simp only [List.length_drop, List.length_take]; rfl)) ?_; (with_reducible refine (impl_GlobClosingAlt.calls k1 a0 a1 t114 _ A9.out).mono ?_); rintro e w' ⟨rfl, ⟨nd, rfl⟩⟩; refine ⟨_, rfl, ?_⟩) | ((with_reducible refine gate_callee (f := 22) rfl ?_); refine goesL_ (some 32) rfl rfl Try.func22 (by kernel_rfl) rfl #[.string a0, .bool a1] rfl (by (try simp only [List.map_toArray, List.map_cons, List.map_nil]); first | done | rfl | (simp only [List.length_drop, List.length_take]; rfl)) ?_; (with_reducible refine (spec_GlobCloses.calls k1 a0 a1 t115 _ A10.out).mono ?_); rintro e w' ⟨rfl, ⟨nd, rfl⟩⟩; refine ⟨_, rfl, ?_⟩) | (go_at_call 20; (with_reducible refine (impl_GlobNextAlt.calls k1 (⟨#[]⟩ : ByteArray) a1 t118 _ A16.out).mono ?_); rintro e w' ⟨rfl, ⟨nd, rfl⟩⟩))
              go_ret
              exact ⟨by first | rfl | (simp; done) | (simp [*]; done), by repeat (first | exact Drawn0.refl _ | apply Drawn0.step)⟩
          · rw [if_neg c11] at H
            have c11b0 : (t114 == t115) = false := beq_eq_false_iff_ne.mpr c11
            have c11b1 : (t114 != t115) = true := bne_iff_ne.mpr c11
            obtain rfl := Option.some.inj H
            go_wp2_with (first | ((with_reducible refine gate_callee (f := 21) rfl ?_); refine goesL_ (some 24) rfl rfl Try.func21 (by kernel_rfl) rfl #[.string a0, .bool a1] rfl (by (try simp only [List.map_toArray, List.map_cons, List.map_nil]); first | done | rfl | (simp only [List.length_drop, List.length_take]; rfl)) ?_; (with_reducible refine (spec_GlobComma.calls k1 a0 a1 t112 t113 _ A8.out).mono ?_); rintro e w' ⟨rfl, ⟨nd, rfl⟩⟩; refine ⟨_, rfl, ?_⟩) | ((with_reducible refine gate_callee (f := 19) rfl ?_); refine goesL_ (some 29) rfl rfl Try.func19 (by kernel_rfl) rfl #[.string a0, .bool a1] rfl (by (try simp only [List.map_toArray, List.map_cons, List.map_nil]); first | done | rfl | (simp only [List.length_drop, List.length_take]; rfl)) ?_; (with_reducible refine (impl_GlobClosingAlt.calls k1 a0 a1 t114 _ A9.out).mono ?_); rintro e w' ⟨rfl, ⟨nd, rfl⟩⟩; refine ⟨_, rfl, ?_⟩) | ((with_reducible refine gate_callee (f := 22) rfl ?_); refine goesL_ (some 32) rfl rfl Try.func22 (by kernel_rfl) rfl #[.string a0, .bool a1] rfl (by (try simp only [List.map_toArray, List.map_cons, List.map_nil]); first | done | rfl | (simp only [List.length_drop, List.length_take]; rfl)) ?_; (with_reducible refine (spec_GlobCloses.calls k1 a0 a1 t115 _ A10.out).mono ?_); rintro e w' ⟨rfl, ⟨nd, rfl⟩⟩; refine ⟨_, rfl, ?_⟩))
            go_ret
            exact ⟨by first | rfl | (simp; done) | (simp [*]; done), by repeat (first | exact Drawn0.refl _ | apply Drawn0.step)⟩

/-- THE ONE PURE STATEMENT of laws_FnGlobClosing: yours. -/
def laws_FnGlobClosing.Pure : Prop := ∀ (a0 : ByteArray) (a1 : Bool), a0.size ≤ 140737488351232 → ∃ k, laws_FnGlobClosing.f k a0 a1 = some true
theorem laws_FnGlobClosing.walk (P : laws_FnGlobClosing.Pure) (a0 : ByteArray) (a1 : Bool) (w : World) (w0 : a0.size ≤ 140737488351232) :
    Calls Try.prog 9 #[.string a0, .bool a1] w fun e w' => e = .returned (.bool true) ∧ Below w.heap.size w w' := by
  obtain ⟨k, h⟩ := P a0 a1 w0
  refine (laws_FnGlobClosing.calls k a0 a1 true w h).mono ?_
  rintro e w' ⟨rfl, hd⟩
  exact ⟨rfl, hd.below⟩

end Go.Proofs.Ytaljobijdbgohaa.PFnGlobClosing
